import PyProof.Rows.All
import Wide.All
import OpenK.AllK
import Wide.FinOn
import Lean
import PySem.Challenge.RW_oc0087_01
set_option Elab.async false
set_option rowWalk.seconds 0
set_option linter.unusedVariables false
set_option linter.unusedSimpArgs false
section
open PySem PySem.W PyProof.Rows
set_option Elab.async false
set_option maxRecDepth 100000
set_option maxHeartbeats 8000000
namespace Mine
open_top hd for PySem.Challenge.rw_oc0087_01
end Mine
end
theorem Mine.top_off : True := by
  w_top off
  trivial
section
open PySem PySem.W PyProof.Rows PySem.Calls
set_option Elab.async false
set_option maxRecDepth 100000
set_option maxHeartbeats 8000000
namespace Mine

/-- what a call leaves: all but the addresses of chg stays -/
def Kept (h h' : Heap) (chg : List Addr) : Prop := ∀ b o, h.get? b = some o → b ∉ chg → h'.get? b = some o

/-- the end of a def's body, entered with news -/
def EndB (g : Heap) (s0 : Shared) (chg : List Addr) (R : Value → Shared → Prop) (fl : Flow) (s' : Shared) : Prop :=
  ∃ L' m' news', Fr g L' s'.heap m' ∧ News g L' s'.heap news' ∧
    (Kept s0.heap s'.heap chg → (∀ p ∈ news', p.1 ∉ chg → s0.heap.get? p.1 = none) → R (match fl with | .ret v => v | _ => .none) s')

theorem enter {prog : Program} {w : World} {A : Around} {s : Shared} {K : Frag} {h₀ : Heap} {p : Program} {loose : List Str} {mean : ExcName → Option Value} {mg mb : Str → Option Value}
    {R : Value → Shared → Prop} {name qual : Str} {params : Arguments} {body : List Stmt} {scope : Scope} {dV kV doc pm cdv ct oc : Value} {an od : Option Addr} {osl : Array (Option Value)} {f : Addr} {args : Args} {binds : List (Str × Value)}
    (X₀ : K.In h₀) (T : Top p loose mean mg mb h₀) (st : h₀.StaysIn s.heap) (news : List (Addr × Obj)) (hn : ∀ p ∈ news, s.heap.get? p.1 = some p.2 ∧ h₀.get? p.1 = none)
    (ho : K.lookup f = some ⟨oc, od, .func (fnOf name qual params body scope dV kV doc pm an cdv ct), osl⟩) (hcd : codeIn K cdv qual = true) (hroom : A.depth < recursionLimit)
    (hbind : BindsTo s (fnOf name qual params body scope dV kV doc pm an cdv ct) args binds) (hloc : ∀ y ∈ binds, scope.names.lookup y.1 = some .local)
    (h : ∀ g L' h₁, Fr g L' h₁ (fun y => binds.reverse.lookup y) → News g L' h₁ news → K.In g → Top p loose mean mg mb g → h₀.StaysIn g → (∀ p ∈ news, p.1 < L') →
      wpAny (model prog w) (A.deeper (envOf qual scope L' f cdv)) (execs body (envOf qual scope L' f cdv))
        (EndB g s (news.map (·.1)) R) (fun _ _ => False)
        { s with heap := h₁, toks := s.toks + binds.length })
    (hco : scope.isCoroutine = false) (hgen : scope.isGenerator = false) (hk : scope.kind = .function)
    (hcell : ∀ x ∈ scope.names, x.2 ≠ .cell) : codeAny (model prog w) A (.call (.ref f) args) (fun r s' => match r with | .ok (.ret v) => R v s' | _ => False) s := by
  have X : K.In s.heap := X₀.keeps st
  refine codeAny_call_def (fd := fnOf name qual params body scope dV kV doc pm an cdv ct) (body := body) (binds := binds) hroom (X _ _ ho) rfl (T.nolimit.keeps st) (codeRec_of X hcd) rfl hbind hcell hloc (fun h₁ hns hk₁ => ?_) hco hgen hk
  have nm : ∀ b o, h₀.get? b = some o → b ∉ news.map (·.1) := fun b o e q => by
    obtain ⟨p, hp, rfl⟩ := List.mem_map.mp q
    rw [(hn p hp).2] at e; cases e
  have st' : h₀.StaysIn (hideAll s.heap (news.map (·.1))) := fun b o e => hideAll_get _ (st b o e) (nm b o e)
  have X' : K.In (hideAll s.heap (news.map (·.1))) := X₀.keeps st'
  have T' : Top p loose mean mg mb (hideAll s.heap (news.map (·.1))) := T.keeps st'
  refine wpAny_mono (h (hideAll s.heap (news.map (·.1))) s.heap.objs.size h₁ ⟨hns, fun b o e => hk₁ b o (of_hideAll _ e), Nat.le_of_eq (hideAll_size _ _)⟩
    (fun p hp => ⟨hk₁ _ _ (hn p hp).1, Nat.ne_of_lt (Heap.lt_size (hn p hp).1), hideAll_none _ (List.mem_map_of_mem hp)⟩) X' T' st' (fun p hp => Heap.lt_size (hn p hp).1)) (fun fl s' hl => ?_) (fun _ _ y => y.elim)
  obtain ⟨L', m', news', F', N', k⟩ := hl
  refine k (fun b o e q => F'.keep b o (hideAll_get _ e q)) fun p hp q => ?_
  have := (N' p hp).2.2
  cases e : s.heap.get? p.1 with
  | none => rfl
  | some o => rw [hideAll_get _ e q] at this; cases this

theorem enter2 {prog : Program} {w : World} {A : Around} {s : Shared} {K : Frag} {h₀ : Heap} {p : Program} {loose : List Str} {mean : ExcName → Option Value} {mg mb : Str → Option Value}
    {R : Value → Shared → Prop} {name qual : Str} {params : Arguments} {body : List Stmt} {scope : Scope} {dV kV doc pm cdv ct oc : Value} {an od : Option Addr} {osl : Array (Option Value)} {f : Addr} {args : Args} {binds : List (Str × Value)}
    (X₀ : K.In h₀) (T : Top p loose mean mg mb h₀) (st : h₀.StaysIn s.heap) (news : List (Addr × Obj)) (hn : ∀ p ∈ news, s.heap.get? p.1 = some p.2 ∧ h₀.get? p.1 = none)
    (ho : K.lookup f = some ⟨oc, od, .func (fnOf name qual params body scope dV kV doc pm an cdv ct), osl⟩) (hcd : codeIn K cdv qual = true) (hroom : A.depth < recursionLimit)
    (hbind : BindsTo s (fnOf name qual params body scope dV kV doc pm an cdv ct) args binds) (hloc : ∀ y ∈ binds, scope.names.lookup y.1 = some .local)
    (h : ∀ g L' h₁, Fr g L' h₁ (fun y => binds.reverse.lookup y) → News g L' h₁ news → K.In g → Top p loose mean mg mb g → h₀.StaysIn g → (∀ p ∈ news, @LT.lt Nat _ p.1 L') → (∀ b o, s.heap.get? b = some o → b ∉ news.map (·.1) → g.get? b = some o) →
      wpAny (model prog w) (A.deeper (envOf qual scope L' f cdv)) (execs body (envOf qual scope L' f cdv))
        (EndB g s (news.map (·.1)) R) (fun _ _ => False)
        { s with heap := h₁, toks := s.toks + binds.length })
    (hco : scope.isCoroutine = false) (hgen : scope.isGenerator = false) (hk : scope.kind = .function)
    (hcell : ∀ x ∈ scope.names, x.2 ≠ .cell) : codeAny (model prog w) A (.call (.ref f) args) (fun r s' => match r with | .ok (.ret v) => R v s' | _ => False) s := by
  have X : K.In s.heap := X₀.keeps st
  refine codeAny_call_def (fd := fnOf name qual params body scope dV kV doc pm an cdv ct) (body := body) (binds := binds) hroom (X _ _ ho) rfl (T.nolimit.keeps st) (codeRec_of X hcd) rfl hbind hcell hloc (fun h₁ hns hk₁ => ?_) hco hgen hk
  have nm : ∀ b o, h₀.get? b = some o → b ∉ news.map (·.1) := fun b o e q => by
    obtain ⟨p, hp, rfl⟩ := List.mem_map.mp q
    rw [(hn p hp).2] at e; cases e
  have st' : h₀.StaysIn (hideAll s.heap (news.map (·.1))) := fun b o e => hideAll_get _ (st b o e) (nm b o e)
  have X' : K.In (hideAll s.heap (news.map (·.1))) := X₀.keeps st'
  have T' : Top p loose mean mg mb (hideAll s.heap (news.map (·.1))) := T.keeps st'
  refine wpAny_mono (h (hideAll s.heap (news.map (·.1))) s.heap.objs.size h₁ ⟨hns, fun b o e => hk₁ b o (of_hideAll _ e), Nat.le_of_eq (hideAll_size _ _)⟩
    (fun p hp => ⟨hk₁ _ _ (hn p hp).1, Nat.ne_of_lt (Heap.lt_size (hn p hp).1), hideAll_none _ (List.mem_map_of_mem hp)⟩) X' T' st' (fun p hp => Heap.lt_size (hn p hp).1) (fun b o e q => hideAll_get _ e q)) (fun fl s' hl => ?_) (fun _ _ y => y.elim)
  obtain ⟨L', m', news', F', N', k⟩ := hl
  refine k (fun b o e q => F'.keep b o (hideAll_get _ e q)) fun p hp q => ?_
  have := (N' p hp).2.2
  cases e : s.heap.get? p.1 with
  | none => rfl
  | some o => rw [hideAll_get _ e q] at this; cases this


def Stop (p : Prop) : Prop := p
theorem stop_intro {p : Prop} (h : Stop p) : p := h
theorem stop_elim {p : Prop} (h : p) : Stop p := h

def AllAt (m : Str → Option Value) : List (Str × Value) → Prop
  | [] => True
  | p :: r => m p.1 = some p.2 ∧ AllAt m r
theorem allAt {m : Str → Option Value} : ∀ {ps : List (Str × Value)}, AllAt m ps → ∀ p ∈ ps, m p.1 = some p.2
  | [], _, _, hp => nomatch hp
  | _ :: _, h, _, .head _ => h.1
  | _ :: _, h, _, .tail _ hp => allAt h.2 _ hp
/-- a turn's end of a while: the next state -/
def WEnd {σ : Type} (h₀ : Heap) (L : Addr) (s : Shared) (Led : σ → List (Addr × Obj)) (ps : σ → List (Str × Value)) (P : σ → Prop) (μ : σ → Nat) (c : σ) (s₂ : Shared) : Prop :=
  ∃ (c' : σ) (h' : Heap) (tk : Nat) (m' : Str → Option Value) (news' : List (Addr × Obj)), s₂ = { s with heap := h', toks := tk } ∧ Fr h₀ L h' m' ∧ News h₀ L h' news' ∧ (∀ p ∈ Led c', p ∈ news') ∧ AllAt m' (ps c') ∧ P c' ∧ μ c' < μ c
def WPost {σ : Type} (h₀ : Heap) (L : Addr) (s : Shared) (Led : σ → List (Addr × Obj)) (ps : σ → List (Str × Value)) (P : σ → Prop) (μ : σ → Nat) (Q : Flow → Shared → Prop) (c : σ) (f : Flow) (s₂ : Shared) : Prop :=
  match f with
  | .ret v => Q (.ret v) s₂
  | .brk => Q .next s₂
  | _ => WEnd h₀ L s Led ps P μ c s₂
theorem fr_norm {h₀ h : Heap} {L : Addr} {m : Str → Option Value} {ps : List (Str × Value)} (F : Fr h₀ L h m) (h1 : ∀ p ∈ ps, m p.1 = some p.2) : Fr h₀ L h (kstB m ps) := by
  have em : kstB m ps = m := by
    funext y
    exact kstB_eq h1 fun _ => rfl
  rw [em]; exact F
theorem wpost_brk {σ : Type} {h₀ : Heap} {L : Addr} {s : Shared} {Led : σ → List (Addr × Obj)} {ps : σ → List (Str × Value)} {P : σ → Prop} {μ : σ → Nat} {Q : Flow → Shared → Prop} {c : σ} {s₂ : Shared} (h : Q .next s₂) : WPost h₀ L s Led ps P μ Q c .brk s₂ := h
theorem wpost_ret {σ : Type} {h₀ : Heap} {L : Addr} {s : Shared} {Led : σ → List (Addr × Obj)} {ps : σ → List (Str × Value)} {P : σ → Prop} {μ : σ → Nat} {Q : Flow → Shared → Prop} {c : σ} {v : Value} {s₂ : Shared} (h : Q (.ret v) s₂) : WPost h₀ L s Led ps P μ Q c (.ret v) s₂ := h
theorem wpost_next {σ : Type} {h₀ : Heap} {L : Addr} {s : Shared} {Led : σ → List (Addr × Obj)} {ps : σ → List (Str × Value)} {P : σ → Prop} {μ : σ → Nat} {Q : Flow → Shared → Prop} {c : σ} (c' : σ) {h' : Heap} {tk : Nat} {m' : Str → Option Value} {news' : List (Addr × Obj)}
    (F : Fr h₀ L h' m') (N : News h₀ L h' news') (hs : ∀ p ∈ Led c', p ∈ news') (ha : AllAt m' (ps c')) (hp : P c') (hm : μ c' < μ c) : WPost h₀ L s Led ps P μ Q c .next { s with heap := h', toks := tk } := ⟨c', h', tk, m', news', rfl, F, N, hs, ha, hp, hm⟩
theorem wpost_cont {σ : Type} {h₀ : Heap} {L : Addr} {s : Shared} {Led : σ → List (Addr × Obj)} {ps : σ → List (Str × Value)} {P : σ → Prop} {μ : σ → Nat} {Q : Flow → Shared → Prop} {c : σ} (c' : σ) {h' : Heap} {tk : Nat} {m' : Str → Option Value} {news' : List (Addr × Obj)}
    (F : Fr h₀ L h' m') (N : News h₀ L h' news') (hs : ∀ p ∈ Led c', p ∈ news') (ha : AllAt m' (ps c')) (hp : P c') (hm : μ c' < μ c) : WPost h₀ L s Led ps P μ Q c .cont { s with heap := h', toks := tk } := ⟨c', h', tk, m', news', rfl, F, N, hs, ha, hp, hm⟩
theorem endB_intro {g : Heap} {s0 s' : Shared} {chg : List Addr} {R : Value → Shared → Prop} {fl : Flow} {L' : Addr} {m' : Str → Option Value} {news' : List (Addr × Obj)} (F : Fr g L' s'.heap m') (N : News g L' s'.heap news')
    (k : Kept s0.heap s'.heap chg → (∀ p ∈ news', p.1 ∉ chg → s0.heap.get? p.1 = none) → R (match fl with | .ret v => v | _ => .none) s') : EndB g s0 chg R fl s' := ⟨L', m', news', F, N, k⟩
theorem while_st {σ : Type} {prog : Program} {w : World} {A : Around} {E : Value → Shared → Prop} {Q : Flow → Shared → Prop} {s : Shared} {env : Env} {h₀ : Heap} {L : Addr}
    {test : Expr} {body : List Stmt} {pos : Pos} {m₀ : Str → Option Value} {news₀ : List (Addr × Obj)} (Led : σ → List (Addr × Obj)) (ps : σ → List (Str × Value)) (P : σ → Prop) (μ : σ → Nat) (c₀ : σ)
    (F : Fr h₀ L s.heap m₀) (N : News h₀ L s.heap news₀) (hl : ∀ p ∈ Led c₀, p ∈ news₀) (hk : AllAt m₀ (ps c₀)) (hp : P c₀)
    (turn : ∀ (c : σ) (u : Str → Option Value) h tk, P c → Fr h₀ L h (kstB u (ps c)) → News h₀ L h (Led c) →
      wpAny (model prog w) A (isTrue test env (eval test env)) (fun b s₂ =>
        if b = true then wpAny (model prog w) A (execs body env) (WPost h₀ L s Led ps P μ Q c) E s₂ else Q .next s₂) E { s with heap := h, toks := tk })
    (hE : PassesOwn (model prog w) A env E) :
    wpAny (model prog w) A (exec (.While test body [] pos) env) Q E s := by
  refine While_inv2 (fun n m nx => ∃ c : σ, nx = Led c ∧ μ c = n ∧ (∀ p ∈ ps c, m p.1 = some p.2) ∧ P c) (n₀ := μ c₀) F (fun p hp => N p (hl p hp)) ⟨c₀, rfl, rfl, allAt hk, hp⟩ ?_ hE
  rintro n m₁ nx h tk F₁ N₁ ⟨c, hnx, hsz, h1, hp'⟩
  rw [hnx] at N₁
  rw [← hsz]
  refine wpAny_mono (turn c m₁ h tk hp' (fr_norm F₁ h1) N₁) (fun b s₂ p => ?_) fun _ _ x => x
  cases b with
  | false => simpa using p
  | true =>
    simp only [if_true] at p ⊢
    refine wpAny_mono p (fun f s₃ q => ?_) fun _ _ x => x
    cases f with
    | ret v => exact q
    | brk => exact q
    | next =>
      obtain ⟨c', h', tk', m', news', rfl, F', N', hn, hk9, hp9, hm9⟩ := q
      exact ⟨h', tk', m', Led c', μ c', rfl, F', fun p hp => N' p (hn p hp), hm9, c', rfl, rfl, allAt hk9, hp9⟩
    | cont =>
      obtain ⟨c', h', tk', m', news', rfl, F', N', hn, hk9, hp9, hm9⟩ := q
      exact ⟨h', tk', m', Led c', μ c', rfl, F', fun p hp => N' p (hn p hp), hm9, c', rfl, rfl, allAt hk9, hp9⟩
def ListAt (h : Heap) (a : Addr) (ns : List Int) : Prop := ∃ vs c, IntsAre vs ns ∧ h.get? a = some (listOf vs.toArray c)
def Did (s s' : Shared) (chg : List Addr) (R : Heap → Prop) : Prop := ∃ h' tk, s' = { s with heap := h', toks := tk } ∧ Kept s.heap h' chg ∧ R h'
theorem rshift1 {prog : Program} {w : World} {A : Around} {E : Value → Shared → Prop} {s : Shared} {Q : Value → Shared → Prop} {a : Int} {t u : Tok} (h : Q (.int (a / 2) s.toks) { s with toks := s.toks + 1 }) : wpAny (model prog w) A (binaryOp .RShift (.int a t) (.int 1 u)) Q E s := by
  refine rshift_int (by decide) ?_
  rw [show a.fdiv (2 ^ (1 : Int).toNat) = a / 2 from Int.fdiv_eq_ediv_of_nonneg a (by decide)]
  exact h
theorem use_call {prog : Program} {w : World} {A : Around} {E : Value → Shared → Prop} {s : Shared} {Q : Value → Shared → Prop} {R : Value → Shared → Prop} {f : Value} {pos : List Value}
    (h : codeAny (model prog w) A (.call f ⟨pos, []⟩) (fun r s' => match r with | .ok (.ret v) => R v s' | _ => False) s) (k : ∀ v s', R v s' → Q v s') : wpAny (model prog w) A (call f pos []) Q E s :=
  wpAny_call (codeAny_mono h fun r s' y => by
    cases r with
    | error e => exact y.elim
    | ok fl => cases fl with
      | ret v => exact k v s' y
      | next => exact y
      | brk => exact y
      | cont => exact y)
theorem after_did {h₀ h h' : Heap} {L a : Addr} {m : Str → Option Value} {news news' : List (Addr × Obj)} {o o' : Obj} (F : Fr h₀ L h m) (N : News h₀ L h news) (hk : Kept h h' [a]) (U : Upd a o o' news news') (ho : h'.get? a = some o') :
    Fr h₀ L h' m ∧ News h₀ L h' news' := by
  obtain ⟨pre, post, rfl, rfl, h1, h2⟩ := U.split
  have D := N (a, o) (by simp)
  obtain ⟨oL, es, ep, hL, r⟩ := F.ns
  have nin : ∀ b, b ≠ a → b ∉ [a] := fun b hb q => hb (List.mem_singleton.mp q)
  refine ⟨⟨⟨oL, es, ep, hk _ _ hL (nin _ (Ne.symm D.2.1)), r⟩, fun b x q => hk _ _ (F.keep b x q) (nin _ fun z => ?_), F.above⟩, fun p hp => ?_⟩
  · have := D.2.2; rw [← z, q] at this; cases this
  · rcases List.mem_append.mp hp with q | q
    · have P := N p (List.mem_append_left _ q); exact ⟨hk _ _ P.1 (nin _ (h1 p q)), P.2⟩
    · rcases List.mem_cons.mp q with rfl | q
      · exact ⟨ho, D.2⟩
      · have P := N p (List.mem_append_right _ (.tail _ q)); exact ⟨hk _ _ P.1 (nin _ (h2 p q)), P.2⟩
theorem kept_trans {h h' h'' : Heap} {l : List Addr} (a : Kept h h' l) (b : Kept h' h'' l) : Kept h h'' l := fun x o e n => b x o (a x o e n) n
theorem truthyL {prog : Program} {w : World} {A : Around} {E : Value → Shared → Prop} {s : Shared} {Q : Bool → Shared → Prop} {h₀ : Heap} {L D : Addr} {news : List (Addr × Obj)} {vs : List Value} {n : Nat} {ns : List Int}
    (N : News h₀ L s.heap news) (hm : (D, listOf vs.toArray n) ∈ news) (hI : IntsAre vs ns) (hz : ns.length ≤ 64) (h1 : 0 < ns.length → Q true { s with toks := s.toks + 1 + 1 }) (h2 : ns.length = 0 → Q false { s with toks := s.toks + 1 + 1 }) :
    wpAny (model prog w) A (truthy (.ref D)) Q E s := by
  have hl := hI.length
  refine wpAny_truthy_list (N.isList hm) (by rw [List.size_toArray]; omega) ?_
  by_cases h : 0 < ns.length
  · have e : (!vs.toArray.isEmpty) = true := by
      cases vs with
      | nil => simp at hl; omega
      | cons v r => rfl
    rw [e]; exact h1 h
  · have e : (!vs.toArray.isEmpty) = false := by
      cases vs with
      | nil => rfl
      | cons v r => simp at hl; omega
    rw [e]; exact h2 (by omega)
/-- a turn's end of a for -/
def FEnd {σ : Type} (h₀ : Heap) (L I : Addr) (s : Shared) (Led : σ → List (Addr × Obj)) (ps : σ → List (Str × Value)) (P : Nat → σ → Prop) (i : Nat) (o : Obj) (s₂ : Shared) : Prop :=
  ∃ (c' : σ) (h' : Heap) (tk : Nat) (m' : Str → Option Value) (news' : List (Addr × Obj)), s₂ = { s with heap := h', toks := tk } ∧ Fr h₀ L h' m' ∧ News h₀ L h' news' ∧ (I, o) ∈ news' ∧ (∀ p ∈ Led c', p ∈ news') ∧ AllAt m' (ps c') ∧ P (i + 1) c'
def FPost {σ : Type} (h₀ : Heap) (L I : Addr) (s : Shared) (Led : σ → List (Addr × Obj)) (ps : σ → List (Str × Value)) (P : Nat → σ → Prop) (Q : Flow → Shared → Prop) (i : Nat) (o : Obj) (f : Flow) (s₂ : Shared) : Prop :=
  match f with
  | .ret v => Q (.ret v) s₂
  | .brk => Q .next s₂
  | _ => FEnd h₀ L I s Led ps P i o s₂
theorem fpost_brk {σ : Type} {h₀ : Heap} {L I : Addr} {s : Shared} {Led : σ → List (Addr × Obj)} {ps : σ → List (Str × Value)} {P : Nat → σ → Prop} {Q : Flow → Shared → Prop} {i : Nat} {o : Obj} {s₂ : Shared} (h : Q .next s₂) : FPost h₀ L I s Led ps P Q i o .brk s₂ := h
theorem fpost_ret {σ : Type} {h₀ : Heap} {L I : Addr} {s : Shared} {Led : σ → List (Addr × Obj)} {ps : σ → List (Str × Value)} {P : Nat → σ → Prop} {Q : Flow → Shared → Prop} {i : Nat} {o : Obj} {v : Value} {s₂ : Shared} (h : Q (.ret v) s₂) : FPost h₀ L I s Led ps P Q i o (.ret v) s₂ := h
theorem fpost_next {σ : Type} {h₀ : Heap} {L I : Addr} {s : Shared} {Led : σ → List (Addr × Obj)} {ps : σ → List (Str × Value)} {P : Nat → σ → Prop} {Q : Flow → Shared → Prop} {i : Nat} {o : Obj} (c' : σ) {h' : Heap} {tk : Nat} {m' : Str → Option Value} {news' : List (Addr × Obj)}
    (F : Fr h₀ L h' m') (N : News h₀ L h' news') (ho : (I, o) ∈ news') (hs : ∀ p ∈ Led c', p ∈ news') (ha : AllAt m' (ps c')) (hp : P (i + 1) c') : FPost h₀ L I s Led ps P Q i o .next { s with heap := h', toks := tk } := ⟨c', h', tk, m', news', rfl, F, N, ho, hs, ha, hp⟩
theorem for_st {σ : Type} {prog : Program} {w : World} {A : Around} {X : Value → Shared → Prop} {Q : Flow → Shared → Prop} {s : Shared} {env : Env} {h₀ : Heap} {I : Addr} {bs : List Addr} {n : Nat} {target : Expr} {body orelse : List Stmt}
    {Pv Md : Nat → Value → Heap → Prop} {St : Nat → Heap → Prop} {m₀ : Str → Option Value} {news₀ : List (Addr × Obj)} (W : KTurns prog w A target I (I :: bs) [I] n Pv Md St)
    (Led : σ → List (Addr × Obj)) (ps : σ → List (Str × Value)) (P : Nat → σ → Prop) (c₀ : σ)
    (hbs : ∀ b ∈ bs, (h₀.get? b).isSome = true) (hI0 : h₀.get? I = none) (hIL : env.locals ≠ I) (hal : ∀ i h, St i h → (h.get? I).isSome = true) (hst : St 0 s.heap)
    (F : Fr h₀ env.locals s.heap m₀) (N : News h₀ env.locals s.heap news₀) (hl : ∀ p ∈ Led c₀, p ∈ news₀) (hk : AllAt m₀ (ps c₀)) (hp : P 0 c₀) (hLI : ∀ c, ∀ p ∈ Led c, p.1 ≠ I)
    (turn : ∀ (i : Nat) (c : σ) (u : Str → Option Value) h tk o v, i < n → P i c → Pv i v h → Fr h₀ env.locals h (kstB u (ps c)) → News h₀ env.locals h ((I, o) :: Led c) →
      wpAny (model prog w) A (assign target env v) (fun _ s₂ => wpAny (model prog w) A (execs body env) (FPost h₀ env.locals I s Led ps P Q i o) (fun _ _ => False) s₂) (fun _ _ => False) { s with heap := h, toks := tk })
    (exit : ∀ (c : σ) (u : Str → Option Value) h tk, P n c → Fr h₀ env.locals h (kstB u (ps c)) → News h₀ env.locals h (Led c) → wpAny (model prog w) A (execs orelse env) Q (fun _ _ => False) { s with heap := h, toks := tk }) :
    codeAny (model prog w) A (.forLoop target (.ref I) body orelse env) (fun r s' => match r with | .ok f => Q f s' | .error e => X e s') s := by
  have old : ∀ b o, h₀.get? b = some o → b ∉ [I] := fun b o e hb => by rw [List.mem_singleton.mp hb, hI0] at e; cases e
  refine codeAny_forLoop_any
    (fun k s' => ∃ h' tk m' c i, s' = { s with heap := h', toks := tk } ∧ St i h' ∧ Fr h₀ env.locals h' m' ∧ News h₀ env.locals h' (Led c) ∧ AllAt m' (ps c) ∧ P i c ∧ i ≤ n ∧ k = n + 1 - i) ?_ (n + 1)
    ⟨s.heap, s.toks, m₀, c₀, 0, rfl, hst, F, fun p hp => N p (hl p hp), hk, hp, Nat.zero_le _, rfl⟩
  rintro k s' ⟨h', tk, m', c, i, rfl, hst', F', N', hk', hP, hi, rfl⟩
  have next : ∀ h₁ : Heap, (∀ b o, b ∉ [I] → h'.get? b = some o → h₁.get? b = some o) → Fr h₀ env.locals h₁ m' ∧ News h₀ env.locals h₁ (Led c) := fun h₁ hk₁ =>
    ⟨⟨F'.ns.at' fun o e => hk₁ _ o (fun q => hIL (List.mem_singleton.mp q)) e, fun b o e => hk₁ b o (old b o e) (F'.keep b o e), F'.above⟩, fun p hp => ⟨hk₁ _ _ (fun q => hLI c p hp (List.mem_singleton.mp q)) (N' p hp).1, (N' p hp).2⟩⟩
  by_cases hlt : i < n
  · refine W.item i _ _ _ hlt hst' fun v h₁ tk₁ hMd hk₁ => ?_
    refine W.go i v _ _ _ hMd fun h₂ hPv hst₂ hk₂ => ?_
    obtain ⟨F₂, N₂⟩ := next h₂ fun b o hb x => hk₂ b o hb (hk₁ b o hb x)
    cases e : h₂.get? I with
    | none => have := hal _ _ hst₂; rw [e] at this; cases this
    | some o =>
      have N₃ : News h₀ env.locals h₂ ((I, o) :: Led c) := fun p hp => by
        rcases List.mem_cons.mp hp with rfl | hp
        · exact ⟨e, fun q => hIL q.symm, hI0⟩
        · exact N₂ p hp
      refine wpAny_mono (turn i c m' h₂ tk₁ o v hlt hP hPv (fr_norm F₂ (allAt hk')) N₃) (fun _ s₂ h₂' => wpAny_mono h₂' (fun f s₃ h₃ => ?_) fun _ _ e => e.elim) fun _ _ e => e.elim
      have fin : FEnd h₀ env.locals I s Led ps P i o s₃ → ∃ m, m < n + 1 - i ∧ ∃ h' tk m' c i, s₃ = { s with heap := h', toks := tk } ∧ St i h' ∧ Fr h₀ env.locals h' m' ∧ News h₀ env.locals h' (Led c) ∧ AllAt m' (ps c) ∧ P i c ∧ i ≤ n ∧ m = n + 1 - i := by
        rintro ⟨c', h', tk, m', news', rfl, F₃, N₄, ho, hs, ha, hp⟩
        refine ⟨n + 1 - (i + 1), by omega, h', tk, m', c', i + 1, rfl, ?_, F₃, fun p hp => N₄ p (hs p hp), ha, hp, hlt, rfl⟩
        refine W.frame _ _ _ hst₂ fun b hb o' e' => ?_
        rcases List.mem_cons.mp hb with rfl | hb
        · rw [e] at e'; cases e'; exact (N₄ _ ho).1
        · obtain ⟨o₀, e₀⟩ := Option.isSome_iff_exists.mp (hbs b hb)
          have q := F₂.keep b o₀ e₀
          rw [e'] at q; cases q
          exact F₃.keep b _ e₀
      cases f with
      | ret v => exact h₃
      | brk => exact h₃
      | cont => exact fin h₃
      | next => exact fin h₃
  · have hin : i = n := by omega
    subst hin
    refine W.done _ _ _ hst' fun h₁ tk₁ hk₁ => ?_
    obtain ⟨F₁, N₁⟩ := next h₁ hk₁
    exact wpAny_mono (exit c m' h₁ tk₁ hP (fr_norm F₁ (allAt hk')) N₁) (fun _ _ y => y) fun _ _ e => e.elim
theorem sub1 {p : Addr × Obj} {l : List (Addr × Obj)} (h : p ∈ l) : ∀ q ∈ [p], q ∈ l := fun q hq => by cases List.mem_singleton.mp hq; exact h
theorem sub2 {p p' : Addr × Obj} {l : List (Addr × Obj)} (h : p ∈ l) (h' : p' ∈ l) : ∀ q ∈ [p, p'], q ∈ l := fun q hq => by
  rcases List.mem_cons.mp hq with rfl | hq
  · exact h
  · cases List.mem_singleton.mp hq; exact h'
theorem passes_false {M : Model} {A : Around} {env : Env} : PassesOwn M A env (fun _ _ => False) := by passes_own
end Mine
end
section
open PySem PySem.W PyProof.Rows PySem.Calls
set_option Elab.async false
set_option maxRecDepth 100000
set_option maxHeartbeats 8000000
namespace Mine
local macro_rules | `(tactic| walk_at "none 0") => `(tactic| fail)
local macro_rules | `(tactic| walk_at "none 1") => `(tactic| fail)
local macro_rules | `(tactic| walk_at "none 2") => `(tactic| fail)
local macro_rules | `(tactic| walk_at "none 3") => `(tactic| fail)
local macro_rules | `(tactic| walk_at "none 4") => `(tactic| fail)
local macro_rules | `(tactic| walk_at "none 5") => `(tactic| fail)
local macro_rules | `(tactic| walk_at "none 6") => `(tactic| fail)
local macro_rules | `(tactic| walk_at "none 7") => `(tactic| fail)
local macro_rules | `(tactic| walk_at "none 8") => `(tactic| fail)
local macro_rules | `(tactic| walk_at "none 9") => `(tactic| fail)
local macro_rules | `(tactic| walk_at "none 10") => `(tactic| fail)
local macro_rules | `(tactic| walk_at "exec While Compare cons nil") => `(tactic| (refine stop_intro ?_))
local macro_rules | `(tactic| walk_at "binaryOp RShift int int") => `(tactic| (with_reducible refine rshift1 ?_))
local macro_rules | `(tactic| walk_at "WPost") => `(tactic| (with_reducible refine wpost_brk ?_; (try dsimp only)))
structure LS where
  p : Int
  u : Tok
  vs : List Value
  ns : List Int
  c : Nat
  n : Nat
def sdF : Nat → Int → Int → List Int → Int → List Int
  | 0, _, x, ns, p => ns.set p.toNat x
  | n + 1, sp, x, ns, p => if sp < p then (if ns.getD ((p - 1) / 2).toNat 0 < x then sdF n sp x (ns.set p.toNat (ns.getD ((p - 1) / 2).toNat 0)) ((p - 1) / 2) else ns.set p.toNat x) else ns.set p.toNat x
theorem sdF_stop {n : Nat} {sp x : Int} {ns : List Int} {p : Int} (h : ¬ sp < p) : sdF n sp x ns p = ns.set p.toNat x := by
  cases n with
  | zero => rfl
  | succ n => rw [sdF, if_neg h]
theorem sdF_brk {n : Nat} {sp x : Int} {ns : List Int} {p : Int} (h : ¬ ns.getD ((p - 1) / 2).toNat 0 < x) : sdF n sp x ns p = ns.set p.toNat x := by
  cases n with
  | zero => rfl
  | succ n => rw [sdF, if_neg h]; split <;> rfl
theorem sd {prog : Program} {w : World} {A : Around} {s : Shared} {h₀ : Heap} {loose : List Str} {mean : ExcName → Option Value} {mg mb : Str → Option Value}
  (X₀ : (hd.heap_39 w.params).In h₀) (T : Top hd.view_39 loose mean mg mb h₀) (st : h₀.StaysIn s.heap) (hroom : A.depth < recursionLimit)
  {a : Addr} {vs : List Value} {ns : List Int} {c : Nat} (hI : IntsAre vs ns) (ha : s.heap.get? a = some (listOf vs.toArray c)) (hna : h₀.get? a = none)
  (sp p : Int) (u1 u2 : Tok) (h0 : 0 ≤ sp) (h1 : 0 ≤ p) (h2 : p < (ns.length : Int)) (hlen : ns.length ≤ 5) 
   : codeAny (model prog w) A (.call (.ref 59) ⟨[.ref a, .int sp u1, .int p u2], []⟩) (fun r s' => match r with | .ok (.ret v) => v = .none ∧ Did s s' [a] (fun h' => ListAt h' a (sdF p.toNat sp (ns.getD p.toNat 0) ns p)) | _ => False) s := by
  have hk : hd.heap_39 w.params = hd.heap_39 w.params ∧ PySem.Challenge.rw_oc0087_01 = PySem.Challenge.rw_oc0087_01 := by
    k_fill
    exact ⟨rfl, rfl⟩
  clear hk
  refine' enter (K := hd.heap_39 w.params) (R := fun v s' => v = .none ∧ Did s s' [a] (fun h' => ListAt h' a (sdF p.toNat sp (ns.getD p.toNat 0) ns p))) (binds := [("heap", .ref a), ("startpos", .int sp u1), ("pos", .int p u2)]) X₀ T st [(a, listOf vs.toArray c)] ?hn ?ho ?hcd hroom ?hb ?hl ?h ?c1 ?c2 ?c3 ?c4
  case ho => k_is
  case hcd => k_is
  case hn => intro p hp; cases List.mem_singleton.mp hp; exact ⟨ha, hna⟩
  case hb => exact BindsTo.of_eq rfl
  case hl => exact locs rfl
  case c4 => decide
  case c1 => exact rfl
  case c2 => exact rfl
  case c3 => exact rfl
  case h =>
    intro g L' h₁ F N X T st' lt
    k_steps
    rename_i t h' F' N'
    refine stop_elim ?_
    refine while_st (σ := LS) (fun c => [(a, listOf c.vs.toArray c.c)]) (fun c => [("heap", .ref a), ("startpos", .int sp u1), ("pos", .int c.p c.u), ("newitem", .int (ns.getD p.toNat 0) t)])
      (fun c => IntsAre c.vs c.ns ∧ 0 ≤ c.p ∧ c.p < (c.ns.length : Int) ∧ c.ns.length = ns.length ∧ c.p.toNat ≤ c.n ∧ sdF c.n sp (ns.getD p.toNat 0) c.ns c.p = sdF p.toNat sp (ns.getD p.toNat 0) ns p) (fun c => c.n) ⟨p, u2, vs, ns, c, p.toNat⟩ F' N' (fun _ h => h) ?_ ⟨hI, h1, h2, rfl, Nat.le_refl _, rfl⟩ ?_ passes_false
    · exact ⟨rfl, rfl, rfl, rfl, trivial⟩
    · clear F' N'
      intro c1 u1 h1 tk1 P1 F1 N1
      obtain ⟨hI1, hs1, hp1, hl1, hn1, he1⟩ := P1
      dsimp only [kstB] at F1
      k_steps
      · obtain ⟨p1, w1, vs1, ns1, c1, n1⟩ := c1
        dsimp only at *
        cases n1 with
        | zero => omega
        | succ n1 =>
          refine wpost_cont ⟨(p1 - 1) / 2, _, _, _, _, n1⟩ (by assumption) (by assumption) (fun _ h => h) ⟨rfl, rfl, rfl, rfl, trivial⟩ ⟨by assumption, by dsimp only; omega, ?_, ?_, by dsimp only; omega, ?_⟩ (Nat.lt_succ_self _)
          · dsimp only; rw [List.length_set]; omega
          · dsimp only; rw [List.length_set]; exact hl1
          · rw [← he1, sdF, if_pos (by assumption), if_pos (by assumption)]
      · refine endB_intro (by assumption) (by assumption) fun hk _ => ⟨rfl, _, _, rfl, hk, _, _, ?_, (News.get (by assumption) (.head _))⟩
        rw [← he1, sdF_brk (by omega)]
        assumption
      · refine endB_intro (by assumption) (by assumption) fun hk _ => ⟨rfl, _, _, rfl, hk, _, _, ?_, (News.get (by assumption) (.head _))⟩
        rw [← he1, sdF_stop (by omega)]
        assumption
end Mine
end
section
open PySem PySem.W PyProof.Rows PySem.Calls
set_option Elab.async false
set_option maxRecDepth 100000
set_option maxHeartbeats 8000000
namespace Mine
local macro_rules | `(tactic| walk_at "none 0") => `(tactic| fail)
local macro_rules | `(tactic| walk_at "none 1") => `(tactic| fail)
local macro_rules | `(tactic| walk_at "none 2") => `(tactic| fail)
local macro_rules | `(tactic| walk_at "none 3") => `(tactic| fail)
local macro_rules | `(tactic| walk_at "none 4") => `(tactic| fail)
local macro_rules | `(tactic| walk_at "none 5") => `(tactic| fail)
local macro_rules | `(tactic| walk_at "none 6") => `(tactic| fail)
local macro_rules | `(tactic| walk_at "none 7") => `(tactic| fail)
local macro_rules | `(tactic| walk_at "none 8") => `(tactic| fail)
local macro_rules | `(tactic| walk_at "none 9") => `(tactic| fail)
local macro_rules | `(tactic| walk_at "none 10") => `(tactic| fail)
local macro_rules | `(tactic| walk_at "none 11") => `(tactic| fail)
local macro_rules | `(tactic| walk_at "exec While Compare cons nil") => `(tactic| (refine stop_intro ?_))
local macro_rules | `(tactic| walk_at "call ref") => `(tactic| (refine stop_intro ?_))
local macro_rules | `(tactic| walk_at "WPost") => `(tactic| (with_reducible refine wpost_brk ?_; (try dsimp only)))
structure US where
  p : Int
  u : Tok
  uc : Tok
  vs : List Value
  ns : List Int
  c : Nat
  n : Nat
def pickC (ns : List Int) (p : Int) : Int := if 2 * p + 1 + 1 < (ns.length : Int) ∧ ¬ ns.getD (2 * p + 1 + 1).toNat 0 < ns.getD (2 * p + 1).toNat 0 then 2 * p + 1 + 1 else 2 * p + 1
def suF : Nat → List Int → Int → List Int × Int
  | 0, ns, p => (ns, p)
  | n + 1, ns, p => if 2 * p + 1 < (ns.length : Int) then suF n (ns.set p.toNat (ns.getD (pickC ns p).toNat 0)) (pickC ns p) else (ns, p)
theorem suF_stop {n : Nat} {ns : List Int} {p : Int} (h : ¬ 2 * p + 1 < (ns.length : Int)) : suF n ns p = (ns, p) := by
  cases n with
  | zero => rfl
  | succ n => rw [suF, if_neg h]
def siftF (ns : List Int) (p : Int) : List Int := sdF (suF ns.length ns p).2.toNat p (((suF ns.length ns p).1.set (suF ns.length ns p).2.toNat (ns.getD p.toNat 0)).getD (suF ns.length ns p).2.toNat 0) ((suF ns.length ns p).1.set (suF ns.length ns p).2.toNat (ns.getD p.toNat 0)) (suF ns.length ns p).2
theorem su {prog : Program} {w : World} {A : Around} {s : Shared} {h₀ : Heap} {loose : List Str} {mean : ExcName → Option Value} {mg mb : Str → Option Value}
  (X₀ : (hd.heap_39 w.params).In h₀) (T : Top hd.view_39 loose mean mg mb h₀) (st : h₀.StaysIn s.heap) (hroom : A.depth + 1 < recursionLimit)
  {a : Addr} {vs : List Value} {ns : List Int} {c : Nat} (hI : IntsAre vs ns) (ha : s.heap.get? a = some (listOf vs.toArray c)) (hna : h₀.get? a = none)
  (p : Int) (u2 : Tok) (h1 : 0 ≤ p) (h2 : p < (ns.length : Int)) (hlen : ns.length ≤ 5) 
   : codeAny (model prog w) A (.call (.ref 66) ⟨[.ref a, .int p u2], []⟩) (fun r s' => match r with | .ok (.ret v) => v = .none ∧ Did s s' [a] (fun h' => ListAt h' a (siftF ns p)) | _ => False) s := by
  have hk : hd.heap_39 w.params = hd.heap_39 w.params ∧ PySem.Challenge.rw_oc0087_01 = PySem.Challenge.rw_oc0087_01 := by
    k_fill
    exact ⟨rfl, rfl⟩
  clear hk
  refine' enter (K := hd.heap_39 w.params) (R := fun v s' => v = .none ∧ Did s s' [a] (fun h' => ListAt h' a (siftF ns p))) (binds := [("heap", .ref a), ("pos", .int p u2)]) X₀ T st [(a, listOf vs.toArray c)] ?hn ?ho ?hcd (by omega) ?hb ?hl ?h ?c1 ?c2 ?c3 ?c4
  case ho => k_is
  case hcd => k_is
  case hn => intro p hp; cases List.mem_singleton.mp hp; exact ⟨ha, hna⟩
  case hb => exact BindsTo.of_eq rfl
  case hl => exact locs rfl
  case c4 => decide
  case c1 => exact rfl
  case c2 => exact rfl
  case c3 => exact rfl
  case h =>
    intro g L' h₁ F N X T st' lt
    k_steps
    rename Fr _ _ _ _ => F'
    rename News _ _ _ _ => N'
    refine stop_elim ?_
    refine' while_st (σ := US) (fun c => [(a, listOf c.vs.toArray c.c)]) (fun c => [("heap", .ref a), ("startpos", .int p u2), ("pos", .int c.p c.u), ("newitem", .int (ns.getD p.toNat 0) _), ("endpos", .int (ns.length : Int) _), ("childpos", .int (2 * c.p + 1) c.uc)])
      (fun c => IntsAre c.vs c.ns ∧ 0 ≤ c.p ∧ c.p < (c.ns.length : Int) ∧ c.ns.length = ns.length ∧ (ns.length : Int) ≤ c.p + c.n ∧ suF c.n c.ns c.p = suF ns.length ns p) (fun c => c.n) ⟨p, u2, _, vs, ns, c, ns.length⟩ F' N' (fun _ h => h) ⟨rfl, rfl, rfl, rfl, rfl, rfl, trivial⟩ ⟨hI, h1, h2, rfl, by dsimp only; omega, rfl⟩ ?_ passes_false
    · clear F' N'
      intro c1 u1 h1 tk1 P1 F1 N1
      obtain ⟨hI1, hs1, hp1, hl1, hn1, he1⟩ := P1
      dsimp only [kstB] at F1
      k_steps
      · obtain ⟨p1, w1, wc, vs1, ns1, c1, n1⟩ := c1
        dsimp only at *
        cases n1 with
        | zero => omega
        | succ n1 =>
          have hpc : pickC ns1 p1 = 2 * p1 + 1 := by unfold pickC; rw [if_neg (by omega)]
          refine wpost_next ⟨2 * p1 + 1, _, _, _, _, _, n1⟩ (by assumption) (by assumption) (fun _ h => h) ⟨rfl, rfl, rfl, rfl, rfl, rfl, trivial⟩ ⟨by assumption, by dsimp only; omega, ?_, ?_, by dsimp only; omega, ?_⟩ (Nat.lt_succ_self _)
          · dsimp only; rw [List.length_set]; omega
          · dsimp only; rw [List.length_set]; exact hl1
          · rw [← he1, suF, if_pos (by omega), hpc]
      · obtain ⟨p1, w1, wc, vs1, ns1, c1, n1⟩ := c1
        dsimp only at *
        cases n1 with
        | zero => omega
        | succ n1 =>
          have hpc : pickC ns1 p1 = 2 * p1 + 1 + 1 := by unfold pickC; rw [if_pos (by omega)]
          refine wpost_next ⟨2 * p1 + 1 + 1, _, _, _, _, _, n1⟩ (by assumption) (by assumption) (fun _ h => h) ⟨rfl, rfl, rfl, rfl, rfl, rfl, trivial⟩ ⟨by assumption, by dsimp only; omega, ?_, ?_, by dsimp only; omega, ?_⟩ (Nat.lt_succ_self _)
          · dsimp only; rw [List.length_set]; omega
          · dsimp only; rw [List.length_set]; exact hl1
          · rw [← he1, suF, if_pos (by omega), hpc]
      · obtain ⟨p1, w1, wc, vs1, ns1, c1, n1⟩ := c1
        dsimp only at *
        cases n1 with
        | zero => omega
        | succ n1 =>
          have hpc : pickC ns1 p1 = 2 * p1 + 1 := by unfold pickC; rw [if_neg (by omega)]
          refine wpost_next ⟨2 * p1 + 1, _, _, _, _, _, n1⟩ (by assumption) (by assumption) (fun _ h => h) ⟨rfl, rfl, rfl, rfl, rfl, rfl, trivial⟩ ⟨by assumption, by dsimp only; omega, ?_, ?_, by dsimp only; omega, ?_⟩ (Nat.lt_succ_self _)
          · dsimp only; rw [List.length_set]; omega
          · dsimp only; rw [List.length_set]; exact hl1
          · rw [← he1, suF, if_pos (by omega), hpc]
      · refine stop_elim ?_
        obtain ⟨p1, w1, wc, vs1, ns1, c1, n1⟩ := c1
        dsimp only at *
        rename Fr _ _ _ _ => F'
        rename News _ _ _ _ => N'
        rename IntsAre _ _ => hI'
        refine use_call (sd X T (fun b o e => F'.keep b o e) (by first | assumption | (rw [depth_deeper]; omega)) hI' (N'.get (.head _)) (N'.fresh (.head _)) p p1 _ _ (by assumption) hs1 (by rw [List.length_set]; omega) (by rw [List.length_set]; omega)) ?_
        rintro v s' ⟨rfl, h', tk, rfl, hk, vs', c', hI2, ho2⟩
        obtain ⟨F2, N2⟩ := after_did F' N' hk (by k_upd) ho2
        clear F' N'
        k_steps
        refine endB_intro F2 N2 fun hk _ => ⟨rfl, _, _, rfl, hk, _, _, ?_, N2.get (.head _)⟩
        have e : suF ns.length ns p = (ns1, p1) := by rw [← he1, suF_stop (by omega)]
        unfold siftF
        rw [e]
        exact hI2
end Mine
end
section
open PySem PySem.W PyProof.Rows PySem.Calls
set_option Elab.async false
set_option maxRecDepth 100000
set_option maxHeartbeats 8000000
namespace Mine
section
variable {prog : Program} {w : World} {A : Around} {E : Value → Shared → Prop} {s : Shared}
def rgObj (x left step : Int) : Obj := { cls := .type "range_iterator", dict := none, data := .fields #[rawInt x, rawInt left, rawInt step], slots := #[] }
theorem sub_rgi_reversed : isSubtype (.type "range_iterator") (.type "reversed") = pure false := by rw [isSubtype_type]; kernel_rfl
theorem rangeFields_ {r : Addr} {a b c : Int} {t u v : Tok} {Q : Int × Int × Int → Shared → Prop} (hr : IsRange s.heap r a b c t u v) (h : Q (a, b, c) s) : wpAny (model prog w) A (Builtin.Range.rangeFields (.ref r)) Q E s := by
  unfold Builtin.Range.rangeFields
  refine wpAny_bind (wpAny_field hr rfl (x := .int a t) rfl ?_)
  refine wpAny_bind (m := asInt? (.int a t)) (wpAny_pure ?_)
  refine wpAny_bind (wpAny_field hr rfl (x := .int b u) rfl ?_)
  refine wpAny_bind (m := asInt? (.int b u)) (wpAny_pure ?_)
  refine wpAny_bind (wpAny_field hr rfl (x := .int c v) rfl ?_)
  refine wpAny_bind (m := asInt? (.int c v)) (wpAny_pure ?_)
  exact wpAny_pure h
theorem rev_small {k : Int} (h0 : 0 ≤ k) (hk : k ≤ 64) : (Builtin.Range.rangeFitsLong 0 && Builtin.Range.rangeFitsLong k && Builtin.Range.rangeFitsLong 1 && Builtin.Range.rangeFitsLong (-1) && Builtin.Range.rangeFitsLong (0 - 1) && Builtin.Range.rangeFitsLong k) = true := by
  have : ∀ x : Int, -64 ≤ x → x ≤ 64 → Builtin.Range.rangeFitsLong x = true := by
    intro x h1 h2
    unfold Builtin.Range.rangeFitsLong
    simp
    omega
  simp [this 0 (by decide) (by decide), this 1 (by decide) (by decide), this (-1) (by decide) (by decide), this k (by omega) hk]
theorem rev_size {k : Int} (h0 : 0 ≤ k) : Builtin.Range.rangeSize 0 k 1 = k := by
  unfold Builtin.Range.rangeSize
  split <;> split <;> omega
theorem call_range_rev {r : Addr} {k : Int} {t u v : Tok} {Q : Value → Shared → Prop} (hr : IsRange s.heap r 0 k 1 t u v) (h0 : 0 ≤ k) (hk : k ≤ 64)
    (h : Q (.ref s.heap.objs.size) { s with heap := s.heap.push (rgObj (k - 1) k (-1)) }) : wpAny (model prog w) A (call (.builtin "range.__reversed__") [.ref r]) Q E s := by
  have hT : s.TypeIs (.ref r) "range" := ⟨_, hr, rfl⟩
  refine wpAny_call_entry F.slot_range_reversed hT F.entry_range_reversed ?_ (F.args_range_reversed_1 _)
  unfold Builtin.«range.__reversed__»
  refine wpAny_bind (wpAny_of_eq (a := Value.ref r) rfl ?_)
  refine wpAny_bind (rangeFields_ hr ?_)
  dsimp only
  simp only [rev_size h0, rev_small h0 hk, Bool.not_true, Bool.false_eq_true, if_false, if_true, Int.mul_one, Int.zero_add]
  exact wpAny_bind (wpAny_newObj_type (wpAny_pure ⟨_, rfl, h⟩))
theorem code_reversed_rg {r : Addr} {k : Int} {t u v : Tok} {Q₁ : Value → Shared → Prop} (hr : IsRange s.heap r 0 k 1 t u v) (h0 : 0 ≤ k) (hk : k ≤ 64)
    (h : Q₁ (.ref s.heap.objs.size) { s with heap := s.heap.push (rgObj (k - 1) k (-1)) }) :
    codeAny (model prog w) A (.call (.builtin "reversed.__new__") ⟨[.type "reversed", .ref r], []⟩) (wants Q₁ E) s := by
  have hT : s.TypeIs (.ref r) "range" := ⟨_, hr, rfl⟩
  refine codeAny_of_tree ?_
  show wpAny _ A.in1 (do checkBuiltinCall "reversed.__new__" ⟨[.type "reversed", .ref r], []⟩; again (.builtin "reversed.__new__" ⟨[.type "reversed", .ref r], []⟩)) _ _ s
  refine wpAny_bind (wpAny_of_eq (F.newCall_reversed_1 _) (wpAny_pure ⟨plainId_quiet F.plain_reversed_new _, codeAny_builtin F.entry_reversed_new ?_⟩))
  rw [Around.under_plainId F.plain_reversed_new _]
  unfold Builtin.«reversed.__new__»
  refine wpAny_bind (wpAny_of_eq (newClass_reversed _) ?_)
  try dsimp only
  refine wpAny_bind (wpAny_of_eq (a := ()) (by first | rfl | kernel_rfl) ?_)
  refine wpAny_bind (wpAny_of_eq (a := ()) (by first | rfl | kernel_rfl) ?_)
  try dsimp only
  refine wpAny_bind (wpAny_specialOf hT F.slot_range_reversed.lookup ?_)
  try dsimp only
  refine wpAny_bind (wpAny_of_eq (F.slot_range_reversed.bind _) ?_)
  try dsimp only
  rw [if_neg (show ¬ ((Value.builtin "range.__reversed__" == Value.none) = true) from Bool.false_ne_true)]
  refine wpAny_bind (wpAny_rule ?_)
  refine wpAny_bind (m := runValue (.call (.builtin "range.__reversed__") ⟨[.ref r], []⟩)) (show wpAny _ _ (call (.builtin "range.__reversed__") [.ref r]) _ _ _ from call_range_rev hr h0 hk ?_)
  first
  | exact wpAny_pure h
  | exact wpAny_bind (wpAny_pure (wpAny_pure h))
theorem call_reversed_rg {r : Addr} {k : Int} {t u v : Tok} {Q : Value → Shared → Prop} (hr : IsRange s.heap r 0 k 1 t u v) (h0 : 0 ≤ k) (hk : k ≤ 64)
    (h : Q (.ref s.heap.objs.size) { s with heap := s.heap.push (rgObj (k - 1) k (-1)) }) : wpAny (model prog w) A (call (.type "reversed") [.ref r]) Q E s := by
  refine callType_other (U := "range_iterator") (Q₁ := fun obj s₁ => obj = .ref s.heap.objs.size ∧ s₁ = { s with heap := s.heap.push (rgObj (k - 1) k (-1)) }) (by decide +kernel) F.create_reversed ⟨_, _, F.mro_reversed⟩ F.made_reversed sub_rgi_reversed (F.typeCall_reversed_1 _) (code_reversed_rg hr h0 hk ⟨rfl, rfl⟩) ?_
  rintro obj s₁ ⟨rfl, rfl⟩
  exact ⟨⟨_, Heap.get?_push_size _ rfl, rfl⟩, h⟩
/-- a new object onto the ledger -/
theorem fr_new {h₀ h : Heap} {L : Addr} {m : Str → Option Value} {news : List (Addr × Obj)} (F : Fr h₀ L h m) (N : News h₀ L h news) (o : Obj) (ho : o.isFreed = false) :
    ∃ D, D = h.objs.size ∧ Fr h₀ L (h.push o) m ∧ News h₀ L (h.push o) ((D, o) :: news) ∧ (∀ p ∈ news, @LT.lt Nat _ p.1 D) ∧ @LT.lt Nat _ L D := by
  refine ⟨_, rfl, F.push o, N.push F o ho, fun p hp => Heap.lt_size (N p hp).1, ?_⟩
  obtain ⟨oL, _, _, hL, _⟩ := F.ns
  exact Heap.lt_size hL
/-- a for over a range's iterator -/
theorem for_rg {σ : Type} {X : Value → Shared → Prop} {Q : Flow → Shared → Prop} {env : Env} {h₀ : Heap} {I : Addr} {a d : Int} {n : Nat} {x : Str} {px : Pos} {body orelse : List Stmt} {m₀ : Str → Option Value} {news₀ : List (Addr × Obj)}
    (hh : A.handled = none) (Led : σ → List (Addr × Obj)) (ps : σ → List (Str × Value)) (P : Nat → σ → Prop) (c₀ : σ)
    (F : Fr h₀ env.locals s.heap m₀) (N : News h₀ env.locals s.heap news₀) (hI : (I, rgObj a n d) ∈ news₀) (hl : ∀ p ∈ Led c₀, p ∈ news₀) (hk : AllAt m₀ (ps c₀)) (hp : P 0 c₀) (hLI : ∀ c, ∀ p ∈ Led c, p.1 ≠ I)
    (turn : ∀ (i : Nat) (c : σ) (u : Str → Option Value) h tk o t, i < n → P i c → Fr h₀ env.locals h (kstB u (ps c)) → News h₀ env.locals h ((I, o) :: Led c) →
      wpAny (model prog w) A (assign (.Name x px) env (.int (a + i * d) t)) (fun _ s₂ => wpAny (model prog w) A (execs body env) (FPost h₀ env.locals I s Led ps P Q i o) (fun _ _ => False) s₂) (fun _ _ => False) { s with heap := h, toks := tk })
    (exit : ∀ (c : σ) (u : Str → Option Value) h tk, P n c → Fr h₀ env.locals h (kstB u (ps c)) → News h₀ env.locals h (Led c) → wpAny (model prog w) A (execs orelse env) Q (fun _ _ => False) { s with heap := h, toks := tk }) :
    codeAny (model prog w) A (.forLoop (.Name x px) (.ref I) body orelse env) (fun r s' => match r with | .ok f => Q f s' | .error e => X e s') s := by
  refine for_st (I := I) (bs := []) (n := n) (KTurns.ofWalks (Walks.range hh I a d n) fun i v s Q E _ q => wpAny_pure q) Led ps P c₀ (fun _ h => nomatch h) (N.fresh hI) (fun e => (N _ hI).2.1 e.symm) (fun i h st => by rw [st]; rfl) ?_ F N hl hk hp hLI ?_ exit
  · have := N.get hI
    simpa [IsRangeIter, rgObj] using this
  · rintro i c u h tk o v hi hP ⟨t, rfl⟩ F N
    exact turn i c u h tk o t hi hP F N
theorem iter_self_rg {h₀ : Heap} {L I : Addr} {a d : Int} {n : Nat} {news : List (Addr × Obj)} {Q : Value → Shared → Prop} (hh : A.handled = none) (N : News h₀ L s.heap news) (hI : (I, rgObj a n d) ∈ news) (h : Q (.ref I) s) : wpAny (model prog w) A (pyIter (.ref I)) Q E s := by
  refine (Walks.range hh I a d n).self 0 _ _ _ ?_ h
  have := N.get hI
  simpa [IsRangeIter, rgObj] using this
end
end Mine
end
section
open PySem PySem.W PyProof.Rows PySem.Calls
set_option Elab.async false
set_option maxRecDepth 100000
set_option maxHeartbeats 8000000
namespace Mine
local macro_rules | `(tactic| walk_at "none 0") => `(tactic| fail)
local macro_rules | `(tactic| walk_at "none 1") => `(tactic| fail)
local macro_rules | `(tactic| walk_at "none 2") => `(tactic| fail)
local macro_rules | `(tactic| walk_at "none 3") => `(tactic| fail)
local macro_rules | `(tactic| walk_at "none 4") => `(tactic| fail)
local macro_rules | `(tactic| walk_at "none 5") => `(tactic| fail)
local macro_rules | `(tactic| walk_at "none 6") => `(tactic| fail)
local macro_rules | `(tactic| walk_at "none 7") => `(tactic| fail)
local macro_rules | `(tactic| walk_at "none 8") => `(tactic| fail)
local macro_rules | `(tactic| walk_at "none 9") => `(tactic| fail)
local macro_rules | `(tactic| walk_at "none 10") => `(tactic| fail)
local macro_rules | `(tactic| walk_at "none 11") => `(tactic| fail)
local macro_rules | `(tactic| walk_at "none 12") => `(tactic| fail)
local macro_rules | `(tactic| walk_at "none 13") => `(tactic| fail)
local macro_rules | `(tactic| walk_at "none 14") => `(tactic| fail)
local macro_rules | `(tactic| walk_at "truthy ref") => `(tactic| (k_here; (with_reducible show wpAny _ _ (truthy (Value.ref _)) _ _ _); refine stop_intro ?_))
local macro_rules | `(tactic| walk_at "call ref") => `(tactic| (refine stop_intro ?_))
theorem hr {prog : Program} {w : World} {A : Around} {s : Shared} {h₀ : Heap} {loose : List Str} {mean : ExcName → Option Value} {mg mb : Str → Option Value}
  (X₀ : (hd.heap_39 w.params).In h₀) (T : Top hd.view_39 loose mean mg mb h₀) (st : h₀.StaysIn s.heap) (hroom : A.depth + 2 < recursionLimit)
  {a : Addr} {vs : List Value} {ns : List Int} {c : Nat} (hI : IntsAre vs ns) (ha : s.heap.get? a = some (listOf vs.toArray c)) (hna : h₀.get? a = none)
  (x : Int) (u2 : Tok) (h2 : 0 < ns.length) (hlen : ns.length ≤ 5) 
   : codeAny (model prog w) A (.call (.ref 45) ⟨[.ref a, .int x u2], []⟩) (fun r s' => match r with | .ok (.ret v) => (∃ u, v = .int (ns.getD 0 0) u) ∧ Did s s' [a] (fun h' => ListAt h' a (siftF (ns.set 0 x) 0)) | _ => False) s := by
  have hk : hd.heap_39 w.params = hd.heap_39 w.params ∧ PySem.Challenge.rw_oc0087_01 = PySem.Challenge.rw_oc0087_01 := by
    k_fill
    exact ⟨rfl, rfl⟩
  clear hk
  refine' enter (K := hd.heap_39 w.params) (R := fun v s' => (∃ u, v = .int (ns.getD 0 0) u) ∧ Did s s' [a] (fun h' => ListAt h' a (siftF (ns.set 0 x) 0))) (binds := [("heap", .ref a), ("item", .int x u2)]) X₀ T st [(a, listOf vs.toArray c)] ?hn ?ho ?hcd (by omega) ?hb ?hl ?h ?c1 ?c2 ?c3 ?c4
  case ho => k_is
  case hcd => k_is
  case hn => intro p hp; cases List.mem_singleton.mp hp; exact ⟨ha, hna⟩
  case hb => exact BindsTo.of_eq rfl
  case hl => exact locs rfl
  case c4 => decide
  case c1 => exact rfl
  case c2 => exact rfl
  case c3 => exact rfl
  case h =>
    intro g L' h₁ F N X T st' lt
    k_steps
    refine stop_elim ?_
    rename Fr _ _ _ _ => F'
    rename News _ _ _ _ => N'
    rename IntsAre _ _ => hI'
    refine use_call (su X T (fun b o e => F'.keep b o e) (by rw [depth_deeper]; omega) hI' (N'.get (.head _)) (N'.fresh (.head _)) 0 _ (by omega) (by rw [List.length_set]; omega) (by rw [List.length_set]; omega)) ?_
    rintro v s' ⟨rfl, h', tk, rfl, hk, vs', c', hI2, ho2⟩
    obtain ⟨F2, N2⟩ := after_did F' N' hk (by k_upd) ho2
    clear F' N'
    k_steps
    refine endB_intro F2 N2 fun hk _ => ⟨⟨_, rfl⟩, _, _, rfl, hk, _, _, hI2, N2.get (.head _)⟩
theorem ret_int {x y : Int} {t : Tok} (h : x = y) : ∃ u, Value.int x t = Value.int y u := ⟨t, by rw [h]⟩
theorem dl_head {ns : List Int} (h : 0 < ns.dropLast.length) : ns.dropLast.getD 0 0 = ns.getD 0 0 := by
  match ns, h with
  | x :: y :: r, _ => rfl
theorem gl_head {ns : List Int} (h1 : 0 < ns.length) (h : ns.dropLast.length = 0) : ns.getLastD 0 = ns.getD 0 0 := by
  match ns, h1, h with
  | [x], _, _ => rfl
theorem dl_nil {ns : List Int} (h : ns.dropLast.length = 0) : ns.dropLast = [] := List.eq_nil_of_length_eq_zero h
def popF (ns : List Int) : List Int := if ns.length ≤ 1 then [] else siftF (ns.dropLast.set 0 (ns.getLastD 0)) 0
theorem popF_1 {ns : List Int} (h : ns.length ≤ 1) : popF ns = [] := if_pos h
theorem popF_2 {ns : List Int} (h : 1 < ns.length) : popF ns = siftF (ns.dropLast.set 0 (ns.getLastD 0)) 0 := if_neg (by omega)
theorem hp {prog : Program} {w : World} {A : Around} {s : Shared} {h₀ : Heap} {loose : List Str} {mean : ExcName → Option Value} {mg mb : Str → Option Value}
  (X₀ : (hd.heap_39 w.params).In h₀) (T : Top hd.view_39 loose mean mg mb h₀) (st : h₀.StaysIn s.heap) (hroom : A.depth + 2 < recursionLimit)
  {a : Addr} {vs : List Value} {ns : List Int} {c : Nat} (hI : IntsAre vs ns) (ha : s.heap.get? a = some (listOf vs.toArray c)) (hna : h₀.get? a = none)
  (h2 : 0 < ns.length) (hlen : ns.length ≤ 5) (hvl : vs.length = ns.length)
   : codeAny (model prog w) A (.call (.ref 38) ⟨[.ref a], []⟩) (fun r s' => match r with | .ok (.ret v) => (∃ u, v = .int (ns.getD 0 0) u) ∧ Did s s' [a] (fun h' => ListAt h' a (popF ns)) | _ => False) s := by
  have hk : hd.heap_39 w.params = hd.heap_39 w.params ∧ PySem.Challenge.rw_oc0087_01 = PySem.Challenge.rw_oc0087_01 := by
    k_fill
    exact ⟨rfl, rfl⟩
  clear hk
  refine' enter (K := hd.heap_39 w.params) (R := fun v s' => (∃ u, v = .int (ns.getD 0 0) u) ∧ Did s s' [a] (fun h' => ListAt h' a (popF ns))) (binds := [("heap", .ref a)]) X₀ T st [(a, listOf vs.toArray c)] ?hn ?ho ?hcd (by omega) ?hb ?hl ?h ?c1 ?c2 ?c3 ?c4
  case ho => k_is
  case hcd => k_is
  case hn => intro p hp; cases List.mem_singleton.mp hp; exact ⟨ha, hna⟩
  case hb => exact BindsTo.of_eq rfl
  case hl => exact locs rfl
  case c4 => decide
  case c1 => exact rfl
  case c2 => exact rfl
  case c3 => exact rfl
  case h =>
    intro g L' h₁ F N X T st' lt
    k_steps
    refine stop_elim ?_
    have hdl : ns.dropLast.length = ns.length - 1 := List.length_dropLast
    have hpos : 0 < ns.length := h2
    refine truthyL (by assumption) (.head _) (by assumption) (by omega) (fun ht => ?_) (fun ht => ?_)
    · dsimp only
      k_steps
      refine stop_elim ?_
      rename Fr _ _ _ _ => F'
      rename News _ _ _ _ => N'
      rename IntsAre _ _ => hI'
      refine use_call (su X T (fun b o e => F'.keep b o e) (by rw [depth_deeper]; omega) hI' (N'.get (.head _)) (N'.fresh (.head _)) 0 _ (by omega) (by rw [List.length_set]; omega) (by rw [List.length_set]; omega)) ?_
      rintro v s' ⟨rfl, h', tk, rfl, hk, vs', c', hI2, ho2⟩
      obtain ⟨F2, N2⟩ := after_did F' N' hk (by k_upd) ho2
      clear F' N'
      k_steps
      refine endB_intro F2 N2 fun hk _ => ⟨ret_int (dl_head ht), _, _, rfl, hk, _, _, ?_, N2.get (.head _)⟩
      · rw [popF_2 (by omega)]; exact hI2
    · dsimp only
      k_steps
      refine endB_intro (by assumption) (by assumption) fun hk _ => ⟨ret_int (gl_head h2 ht), _, _, rfl, hk, _, _, ?_, News.get (by assumption) (.head _)⟩
      · rw [popF_1 (by omega)]
        rw [← dl_nil ht]
        assumption
end Mine
end
section
open PySem PySem.W PyProof.Rows PySem.Calls
set_option Elab.async false
set_option maxRecDepth 100000
set_option maxHeartbeats 8000000
namespace Mine
local macro_rules | `(tactic| walk_at "none 0") => `(tactic| fail)
local macro_rules | `(tactic| walk_at "none 1") => `(tactic| fail)
local macro_rules | `(tactic| walk_at "none 2") => `(tactic| fail)
local macro_rules | `(tactic| walk_at "none 3") => `(tactic| fail)
local macro_rules | `(tactic| walk_at "none 4") => `(tactic| fail)
local macro_rules | `(tactic| walk_at "none 5") => `(tactic| fail)
local macro_rules | `(tactic| walk_at "none 6") => `(tactic| fail)
local macro_rules | `(tactic| walk_at "none 7") => `(tactic| fail)
local macro_rules | `(tactic| walk_at "none 8") => `(tactic| fail)
local macro_rules | `(tactic| walk_at "none 9") => `(tactic| fail)
local macro_rules | `(tactic| walk_at "none 10") => `(tactic| fail)
local macro_rules | `(tactic| walk_at "none 11") => `(tactic| fail)
local macro_rules | `(tactic| walk_at "none 12") => `(tactic| fail)
local macro_rules | `(tactic| walk_at "none 13") => `(tactic| fail)
local macro_rules | `(tactic| walk_at "call ref") => `(tactic| (refine stop_intro ?_))
local macro_rules | `(tactic| walk_at "call type:reversed") => `(tactic| (refine stop_intro ?_))
local macro_rules | `(tactic| walk_at "pyIter ref") => `(tactic| (refine stop_intro ?_))
local macro_rules | `(tactic| walk_at "exec For Name Call cons nil") => `(tactic| (k_dflt (refine wpAny_For ?_ (by intro _; rfl))))
theorem sdF_length : ∀ (n : Nat) (sp x : Int) (ns : List Int) (p : Int), (sdF n sp x ns p).length = ns.length
  | 0, _, _, ns, p => by rw [sdF, List.length_set]
  | n + 1, sp, x, ns, p => by
    rw [sdF]
    split
    · split
      · rw [sdF_length n, List.length_set]
      · rw [List.length_set]
    · rw [List.length_set]
theorem suF_length : ∀ (n : Nat) (ns : List Int) (p : Int), (suF n ns p).1.length = ns.length
  | 0, _, _ => rfl
  | n + 1, ns, p => by
    rw [suF]
    split
    · rw [suF_length n, List.length_set]
    · rfl
theorem siftF_length (ns : List Int) (p : Int) : (siftF ns p).length = ns.length := by
  unfold siftF
  rw [sdF_length, List.length_set, suF_length]
def hfF : Nat → List Int → List Int
  | 0, ns => ns
  | k + 1, ns => hfF k (siftF ns (k : Int))
structure HS where
  vs : List Value
  ns : List Int
  c : Nat
theorem hf {prog : Program} {w : World} {A : Around} {s : Shared} {h₀ : Heap} {loose : List Str} {mean : ExcName → Option Value} {mg mb : Str → Option Value}
  (X₀ : (hd.heap_39 w.params).In h₀) (T : Top hd.view_39 loose mean mg mb h₀) (st : h₀.StaysIn s.heap) (hroom : A.depth + 2 < recursionLimit) (hh : A.handled = none)
  {a : Addr} {vs : List Value} {ns : List Int} {c : Nat} (hI : IntsAre vs ns) (ha : s.heap.get? a = some (listOf vs.toArray c)) (hna : h₀.get? a = none)
  (hlen : ns.length ≤ 5) (hvl : vs.length = ns.length)
   : codeAny (model prog w) A (.call (.ref 52) ⟨[.ref a], []⟩) (fun r s' => match r with | .ok (.ret v) => v = .none ∧ Did s s' [a] (fun h' => ListAt h' a (hfF (ns.length / 2) ns)) | _ => False) s := by
  have hk : hd.heap_39 w.params = hd.heap_39 w.params ∧ PySem.Challenge.rw_oc0087_01 = PySem.Challenge.rw_oc0087_01 := by
    k_fill
    exact ⟨rfl, rfl⟩
  clear hk
  refine' enter (K := hd.heap_39 w.params) (R := fun v s' => v = .none ∧ Did s s' [a] (fun h' => ListAt h' a (hfF (ns.length / 2) ns))) (binds := [("x", .ref a)]) X₀ T st [(a, listOf vs.toArray c)] ?hn ?ho ?hcd (by omega) ?hb ?hl ?h ?c1 ?c2 ?c3 ?c4
  case ho => k_is
  case hcd => k_is
  case hn => intro p hp; cases List.mem_singleton.mp hp; exact ⟨ha, hna⟩
  case hb => exact BindsTo.of_eq rfl
  case hl => exact locs rfl
  case c4 => decide
  case c1 => exact rfl
  case c2 => exact rfl
  case c3 => exact rfl
  case h =>
    intro g L' h₁ F N X T st' lt
    k_steps
    refine stop_elim ?_
    rename IsRange _ _ _ _ _ _ _ _ => hr
    rename Fr _ _ _ _ => F'
    rename News _ _ _ _ => N'
    have e2 : ((ns.length : Int)).fdiv 2 = ((ns.length / 2 : Nat) : Int) := by
      rw [Int.fdiv_eq_ediv_of_nonneg _ (by decide)]; omega
    rw [e2] at hr
    generalize hk2 : ns.length / 2 = k at hr
    refine call_reversed_rg hr (by omega) (by omega) ?_
    obtain ⟨D, hD, F2, N2, hlt, hLD⟩ := fr_new F' N' (rgObj ((k : Int) - 1) k (-1)) rfl
    have hDa : @LT.lt Nat _ a D := hlt _ (.head _)
    clear F' N' hr
    dsimp only
    rw [← hD]
    refine iter_self_rg (show (A.deeper _).handled = none from hh) N2 (.head _) ?_
    refine for_rg (σ := HS) (n := k) (show (A.deeper _).handled = none from hh) (fun c => [(a, listOf c.vs.toArray c.c)]) (fun c => [("x", .ref a)]) (fun i c => IntsAre c.vs c.ns ∧ c.ns.length = ns.length ∧ hfF (k - i) c.ns = hfF k ns)
      ⟨vs, ns, c⟩ F2 N2 (.head _) (fun _ h => .tail _ h) ⟨rfl, trivial⟩ ⟨by assumption, rfl, rfl⟩ (fun c p hp => ?_) ?_ ?_
    · cases List.mem_singleton.mp hp; exact Nat.ne_of_lt hDa
    · intro i c1 u1 h1 tk1 o t hi P1 F1 N1
      obtain ⟨hI1, hl1, he1⟩ := P1
      dsimp only [kstB] at F1
      k_steps
      refine stop_elim ?_
      rename Fr _ _ _ _ => F'
      rename News _ _ _ _ => N'
      have ei : (k : Int) - 1 + (i : Int) * -1 = ((k - i - 1 : Nat) : Int) := by omega
      rw [ei]
      refine use_call (su X T (fun b o e => F'.keep b o e) (by rw [depth_deeper]; omega) hI1 (N'.get (.tail _ (.head _))) (N'.fresh (.tail _ (.head _))) _ _ (by omega) (by omega) (by omega)) ?_
      rintro v s' ⟨rfl, h', tk, rfl, hk, vs', c', hI2, ho2⟩
      obtain ⟨F2, N2⟩ := after_did F' N' hk (by k_upd) ho2
      clear F' N'
      k_steps
      refine fpost_next ⟨vs', _, c'⟩ F2 N2 (.head _) (fun _ h => .tail _ h) ⟨rfl, trivial⟩ ⟨hI2, ?_, ?_⟩
      · exact (siftF_length _ _).trans hl1
      · dsimp only
        rw [← he1]
        have e : k - i = (k - i - 1) + 1 := by omega
        have e' : k - (i + 1) = k - i - 1 := by omega
        rw [e, hfF, e']
        rfl
    · intro c1 u1 h1 tk1 P1 F1 N1
      obtain ⟨hI1, hl1, he1⟩ := P1
      dsimp only [kstB] at F1
      k_steps
      refine endB_intro F1 N1 fun hk _ => ⟨rfl, _, _, rfl, hk, _, _, ?_, N1.get (.head _)⟩
      rw [← he1, Nat.sub_self]
      exact hI1
end Mine
end
section
open PySem PySem.W PyProof.Rows PySem.Calls
set_option Elab.async false
namespace Mine
theorem swap_perm {ns : List Int} {p q : Nat} (x : Int) (hp : p < ns.length) (hq : q < ns.length) (hne : p ≠ q) : ((ns.set p (ns.getD q 0)).set q x).Perm (ns.set p x) := by
  have h := List.set_set_perm (as := ns.set p x) (i := p) (j := q) (by rw [List.length_set]; exact hp) (by rw [List.length_set]; exact hq)
  rw [List.getElem_set_self, List.getElem_set_ne hne, List.set_set] at h
  rw [List.getD_eq_getElem?_getD, List.getElem?_eq_getElem hq]
  exact h
theorem sdF_perm : ∀ (n : Nat) (sp x : Int) (ns : List Int) (p : Int), 0 ≤ sp → 0 ≤ p → p < (ns.length : Int) → (sdF n sp x ns p).Perm (ns.set p.toNat x)
  | 0, _, _, ns, p, _, _, _ => List.Perm.refl _
  | n + 1, sp, x, ns, p, h0, h1, h2 => by
    rw [sdF]
    split
    · split
      · refine (sdF_perm n sp x _ _ h0 (by omega) (by rw [List.length_set]; omega)).trans ?_
        exact swap_perm x (by omega) (by omega) (by omega)
      · exact List.Perm.refl _
    · exact List.Perm.refl _
theorem pickC_lt {ns : List Int} {p : Int} (h0 : 0 ≤ p) (h : 2 * p + 1 < (ns.length : Int)) : p < pickC ns p ∧ pickC ns p < (ns.length : Int) := by
  unfold pickC
  split <;> omega
theorem suF_perm : ∀ (n : Nat) (x : Int) (ns : List Int) (p : Int), 0 ≤ p → p < (ns.length : Int) → ((suF n ns p).1.set (suF n ns p).2.toNat x).Perm (ns.set p.toNat x) ∧ 0 ≤ (suF n ns p).2 ∧ (suF n ns p).2 < (ns.length : Int)
  | 0, _, ns, p, h1, h2 => ⟨List.Perm.refl _, h1, h2⟩
  | n + 1, x, ns, p, h1, h2 => by
    rw [suF]
    split
    · rename_i h
      have hc := pickC_lt h1 h
      obtain ⟨a, b, c⟩ := suF_perm n x (ns.set p.toNat (ns.getD (pickC ns p).toNat 0)) (pickC ns p) (by omega) (by rw [List.length_set]; exact hc.2)
      refine ⟨a.trans (swap_perm x (by omega) (by omega) (by omega)), b, ?_⟩
      rw [List.length_set] at c; exact c
    · exact ⟨List.Perm.refl _, h1, h2⟩
theorem siftF_perm {ns : List Int} {p : Int} (h1 : 0 ≤ p) (h2 : p < (ns.length : Int)) : (siftF ns p).Perm ns := by
  unfold siftF
  obtain ⟨a, b, c⟩ := suF_perm ns.length (ns.getD p.toNat 0) ns p h1 h2
  have hl := suF_length ns.length ns p
  generalize suF ns.length ns p = r at a b c hl ⊢
  refine (sdF_perm _ _ _ _ _ h1 b (by rw [List.length_set]; omega)).trans ?_
  have e : (r.1.set r.2.toNat (ns.getD p.toNat 0)).getD r.2.toNat 0 = ns.getD p.toNat 0 := by
    rw [List.getD_eq_getElem?_getD, List.getElem?_set_self (by omega)]; rfl
  rw [e, List.set_set]
  refine a.trans ?_
  have e2 : ns.set p.toNat (ns.getD p.toNat 0) = ns := by
    rw [List.getD_eq_getElem?_getD, List.getElem?_eq_getElem (by omega)]
    exact List.set_getElem_self _
  rw [e2]
/-- the heap's order, below the root -/
def Hq : List Int → Prop
  | [_, b, _, d] => d ≤ b
  | [_, b, _, d, e] => d ≤ b ∧ e ≤ b
  | l => l.length ≤ 5
def Hp : List Int → Prop
  | [a, b] => b ≤ a
  | [a, b, c] => b ≤ a ∧ c ≤ a
  | [a, b, c, d] => b ≤ a ∧ c ≤ a ∧ d ≤ b
  | [a, b, c, d, e] => b ≤ a ∧ c ≤ a ∧ d ≤ b ∧ e ≤ b
  | l => l.length ≤ 5
theorem sift0_2 (a b : Int) : Hp (siftF [a, b] 0) := by
  by_cases h1 : b < a <;> simp [siftF, suF, pickC, sdF, Hp, h1] <;> omega
theorem sift0_3 (a b c : Int) : Hp (siftF [a, b, c] 0) := by
  by_cases h1 : b ≤ c
  · by_cases h2 : c < a <;> simp [siftF, suF, pickC, sdF, Hp, h1, h2, Int.not_lt.mpr] <;> omega
  · by_cases h2 : b < a <;> simp [siftF, suF, pickC, sdF, Hp, h1, h2, Int.not_lt.mpr] <;> omega
theorem sift0_4 (a b c d : Int) (h : d ≤ b) : Hp (siftF [a, b, c, d] 0) := by
  by_cases h1 : b ≤ c
  · by_cases h2 : c < a <;> simp [siftF, suF, pickC, sdF, Hp, h1, h2, Int.not_lt.mpr] <;> omega
  · by_cases h2 : d < a
    · by_cases h3 : b < a <;> simp [siftF, suF, pickC, sdF, Hp, h1, h2, h3, Int.not_lt.mpr] <;> omega
    · simp [siftF, suF, pickC, sdF, Hp, h1, h2, Int.not_lt.mpr] <;> omega
theorem sift0_5 (a b c d e : Int) (h : d ≤ b) (h' : e ≤ b) : Hp (siftF [a, b, c, d, e] 0) := by
  by_cases h1 : b ≤ c
  · by_cases h2 : c < a <;> simp [siftF, suF, pickC, sdF, Hp, h1, h2, Int.not_lt.mpr] <;> omega
  · by_cases h4 : d ≤ e
    · by_cases h2 : e < a
      · by_cases h3 : b < a <;> simp [siftF, suF, pickC, sdF, Hp, h1, h2, h3, h4, Int.not_lt.mpr] <;> omega
      · simp [siftF, suF, pickC, sdF, Hp, h1, h2, h4, Int.not_lt.mpr] <;> omega
    · by_cases h2 : d < a
      · by_cases h3 : b < a <;> simp [siftF, suF, pickC, sdF, Hp, h1, h2, h3, h4, Int.not_lt.mpr] <;> omega
      · simp [siftF, suF, pickC, sdF, Hp, h1, h2, h4, Int.not_lt.mpr] <;> omega
theorem sift1_4 (a b c d : Int) : Hq (siftF [a, b, c, d] 1) := by
  by_cases h2 : d < b <;> simp [siftF, suF, pickC, sdF, Hq, h2, Int.not_lt.mpr] <;> omega
theorem sift1_5 (a b c d e : Int) : Hq (siftF [a, b, c, d, e] 1) := by
  by_cases h4 : d ≤ e
  · by_cases h2 : e < b <;> simp [siftF, suF, pickC, sdF, Hq, h2, h4, Int.not_lt.mpr] <;> omega
  · by_cases h2 : d < b <;> simp [siftF, suF, pickC, sdF, Hq, h2, h4, Int.not_lt.mpr] <;> omega
end Mine
end
section
open PySem PySem.W PyProof.Rows PySem.Calls
set_option Elab.async false
namespace Mine
theorem ne_nil {prog : Program} {w : World} {A : Around} {E : Value → Shared → Prop} {s : Shared} {Q : Value → Shared → Prop} {h₀ : Heap} {L D D' : Addr} {news : List (Addr × Obj)} {vs : List Value} {n n' : Nat} {ns : List Int}
    (N : News h₀ L s.heap news) (hm : (D, listOf vs.toArray n) ∈ news) (hm' : (D', listOf #[] n') ∈ news) (hI : IntsAre vs ns) (hu : A.units ≤ 200) (h1 : 0 < ns.length → Q (.bool true) s) (h2 : ns.length = 0 → Q (.bool false) s) :
    wpAny (model prog w) A (compareOp .NotEq (.ref D) (.ref D')) Q E s := by
  refine ke_ne_ints (ys := []) (N.isList hm) (N.isList hm') hI .nil (by rw [cLine_is]; omega) ?_
  cases ns with
  | nil => exact h2 rfl
  | cons x r => exact h1 (by simp)
theorem append_L {prog : Program} {w : World} {A : Around} {E : Value → Shared → Prop} {s : Shared} {Q : Value → Shared → Prop} {h₀ : Heap} {L D : Addr} {m : Str → Option Value} {news news' : List (Addr × Obj)} {vs : List Value} {n : Nat} {x : Value}
    (F : Fr h₀ L s.heap m) (N : News h₀ L s.heap news) (U : Upd D (listOf vs.toArray n) (listOf (vs ++ [x]).toArray (n + 1)) news news') (hz : vs.length ≤ 100)
    (h : ∀ h', Fr h₀ L h' m → News h₀ L h' news' → Q .none { s with heap := h' }) : wpAny (model prog w) A (call (.builtin "list.append") [.ref D, x]) Q E s := by
  have e : (vs ++ [x]).toArray = vs.toArray.push x := by simp
  rw [e] at U
  exact append_K F N U h (by rw [List.size_toArray, PySem.sizeLine_eq]; omega)
/-- the parity of the rights that two sets have in common -/
def par (d x : Nat) : Bool :=
  ((d.testBit 0 && x.testBit 0) ^^ ((d.testBit 1 && x.testBit 1) ^^ ((d.testBit 2 && x.testBit 2) ^^ ((d.testBit 3 && x.testBit 3) ^^ ((d.testBit 4 && x.testBit 4) ^^ (d.testBit 5 && x.testBit 5))))))
theorem par_xor (d a b : Nat) : par d (a ^^^ b) = (par d a ^^ par d b) := by
  unfold par
  simp only [Nat.testBit_xor, Bool.and_xor_distrib_left]
  generalize (d.testBit 0 && a.testBit 0) = a0
  generalize (d.testBit 1 && a.testBit 1) = a1
  generalize (d.testBit 2 && a.testBit 2) = a2
  generalize (d.testBit 3 && a.testBit 3) = a3
  generalize (d.testBit 4 && a.testBit 4) = a4
  generalize (d.testBit 5 && a.testBit 5) = a5
  generalize (d.testBit 0 && b.testBit 0) = b0
  generalize (d.testBit 1 && b.testBit 1) = b1
  generalize (d.testBit 2 && b.testBit 2) = b2
  generalize (d.testBit 3 && b.testBit 3) = b3
  generalize (d.testBit 4 && b.testBit 4) = b4
  generalize (d.testBit 5 && b.testBit 5) = b5
  have sw : ∀ p q r t : Bool, ((p ^^ q) ^^ (r ^^ t)) = ((p ^^ r) ^^ (q ^^ t)) := by decide
  rw [sw a4 b4, sw a3 b3, sw a2 b2, sw a1 b1, sw a0 b0]
theorem par_zero (d : Nat) : par d 0 = false := by simp [par]
theorem xor_small : ∀ a < 64, ∀ b < 64, (a ^^^ b) + 2 * (a &&& b) = a + b := by decide +kernel
theorem xor_lt : ∀ a < 64, ∀ b < 64, (a ^^^ b) < 64 := by decide +kernel
theorem top_bit : ∀ h < 64, ∀ t < 64, 0 < t → h ≤ t → ¬ (h ^^^ t) < h → h < 2 ^ t.log2 := by decide +kernel
theorem bitXor_nat {x y : Int} (hx : 0 ≤ x ∧ x < 64) (hy : 0 ≤ y ∧ y < 64) : Builtin.bitXor x y = ((x.toNat ^^^ y.toNat : Nat) : Int) := by
  rw [bitXor_and]
  have h := xor_small x.toNat (by omega) y.toNat (by omega)
  have e : Builtin.bitAnd x y = ((x.toNat &&& y.toNat : Nat) : Int) := by
    unfold Builtin.bitAnd
    rw [show decide (0 ≤ x) = true from decide_eq_true hx.1, show decide (0 ≤ y) = true from decide_eq_true hy.1]
  rw [e]
  omega
def Bd (l : List Int) : Prop := ∀ x ∈ l, 0 ≤ x ∧ x < 64
def Ann (d : Nat) (l : List Int) : Prop := ∀ x ∈ l, par d x.toNat = false
def Off (k : Int) (l : List Int) : Prop := ∀ x ∈ l, x.toNat.testBit k.toNat.log2 = false
structure Kinv (ws ns ks : List Int) : Prop where
  hp : Hp ns
  bn : Bd ns
  bk : Bd ks
  nz : ∀ k ∈ ks, k ≠ 0
  len : ks.length + ns.length ≤ ws.length
  five : ws.length ≤ 5
  stair : ks.Pairwise (fun a b => b.toNat.testBit a.toNat.log2 = false)
  off : ∀ k ∈ ks, Off k ns
  span : ∀ d, Ann d ws ↔ (Ann d ks ∧ Ann d ns)
structure Iinv (ws ns ks : List Int) (top : Int) : Prop where
  hp : Hp ns
  bn : Bd ns
  bk : Bd ks
  nz : ∀ k ∈ ks, k ≠ 0
  t0 : 0 < top
  t1 : top < 64
  len : ks.length + ns.length + 1 ≤ ws.length
  five : ws.length ≤ 5
  stair : ks.Pairwise (fun a b => b.toNat.testBit a.toNat.log2 = false)
  off : ∀ k ∈ ks, Off k (top :: ns)
  le : ∀ x ∈ ns, x ≤ top
  span : ∀ d, Ann d ws ↔ (Ann d ks ∧ par d top.toNat = false ∧ Ann d ns)
theorem hp_top {l : List Int} (h : Hp l) : ∀ x ∈ l, x ≤ l.getD 0 0 := by
  match l, h with
  | [], _ => intro x hx; cases hx
  | [a], _ => intro x hx; simp at hx ⊢; omega
  | [a, b], h => intro x hx; simp [Hp] at h hx ⊢; omega
  | [a, b, c], h => intro x hx; simp [Hp] at h hx ⊢; omega
  | [a, b, c, d], h => intro x hx; simp [Hp] at h hx ⊢; omega
  | [a, b, c, d, e], h => intro x hx; simp [Hp] at h hx ⊢; omega
  | _ :: _ :: _ :: _ :: _ :: _ :: _, h => simp [Hp] at h
theorem sift0 {l : List Int} (h : Hq l) : Hp (siftF l 0) := by
  match l, h with
  | [], _ => simp [siftF, suF, sdF, Hp]
  | [a], _ => simp [siftF, suF, sdF, Hp]
  | [a, b], h => exact sift0_2 a b
  | [a, b, c], h => exact sift0_3 a b c
  | [a, b, c, d], h => exact sift0_4 a b c d h
  | [a, b, c, d, e], h => exact sift0_5 a b c d e h.1 h.2
  | _ :: _ :: _ :: _ :: _ :: _ :: _, h => simp [Hq] at h
theorem hq_set {l : List Int} (x : Int) (h : Hp l) : Hq (l.set 0 x) := by
  match l, h with
  | [], _ => simp [Hq]
  | [a], _ => simp [Hq]
  | [a, b], h => simp [Hq]
  | [a, b, c], h => simp [Hq]
  | [a, b, c, d], h => simp [Hq, Hp] at h ⊢; omega
  | [a, b, c, d, e], h => simp [Hq, Hp] at h ⊢; omega
  | _ :: _ :: _ :: _ :: _ :: _ :: _, h => simp [Hp] at h
theorem hq_pop {l : List Int} (x : Int) (h : Hp l) : Hq (l.dropLast.set 0 x) := by
  match l, h with
  | [], _ => simp [Hq]
  | [a], _ => simp [Hq]
  | [a, b], h => simp [Hq]
  | [a, b, c], h => simp [Hq]
  | [a, b, c, d], h => simp [Hq, Hp] at h ⊢
  | [a, b, c, d, e], h => simp [Hq, Hp] at h ⊢; omega
  | _ :: _ :: _ :: _ :: _ :: _ :: _, h => simp [Hp] at h
theorem hp_heap {l : List Int} (h : l.length ≤ 5) : Hp (hfF (l.length / 2) l) := by
  match l, h with
  | [], _ => simp [hfF, Hp]
  | [a], _ => simp [hfF, Hp]
  | [a, b], _ => exact (by simpa [hfF] using sift0_2 a b)
  | [a, b, c], _ => exact (by simpa [hfF] using sift0_3 a b c)
  | [a, b, c, d], _ => exact (by simpa [hfF] using sift0 (sift1_4 a b c d))
  | [a, b, c, d, e], _ => exact (by simpa [hfF] using sift0 (sift1_5 a b c d e))
  | _ :: _ :: _ :: _ :: _ :: _ :: _, h => simp at h
theorem hf_perm {l : List Int} (h : l.length ≤ 5) : (hfF (l.length / 2) l).Perm l := by
  have : ∀ k, 2 * k ≤ l.length → ∀ l' : List Int, l'.length = l.length → (hfF k l').Perm l' := by
    intro k
    induction k with
    | zero => intro _ l' _; exact List.Perm.refl _
    | succ k ih =>
      intro hk l' hl
      rw [hfF]
      exact (ih (by omega) _ (by rw [siftF_length]; exact hl)).trans (siftF_perm (by omega) (by omega))
  exact this _ (by omega) l rfl
theorem pop_perm {l : List Int} (h : 0 < l.length) (h5 : l.length ≤ 5) : l.Perm (l.getD 0 0 :: popF l) := by
  by_cases h1 : l.length ≤ 1
  · rw [popF_1 h1]
    match l, h, h1 with
    | [a], _, _ => exact List.Perm.refl _
  · rw [popF_2 (by omega)]
    refine List.Perm.trans ?_ (List.Perm.cons _ (siftF_perm (by omega) (by rw [List.length_set, List.length_dropLast]; omega)).symm)
    match l, h1 with
    | [], h1 => simp at h1
    | [_], h1 => simp at h1
    | a :: b :: r, _ =>
      have e : (a :: b :: r).dropLast.set 0 ((a :: b :: r).getLastD 0) = (b :: r).getLastD 0 :: (b :: r).dropLast := by
        simp [List.dropLast]
      rw [e]
      refine List.Perm.cons _ ?_
      have e2 : (b :: r) = (b :: r).dropLast ++ [(b :: r).getLastD 0] := by
        exact (List.dropLast_concat_getLast (List.cons_ne_nil b r)).symm
      exact (List.Perm.of_eq e2).trans (List.perm_append_singleton _ _)
theorem bd_perm {l l' : List Int} (p : l.Perm l') (h : Bd l') : Bd l := fun x hx => h x (p.mem_iff.mp hx)
theorem ann_perm {l l' : List Int} {d : Nat} (p : l.Perm l') : Ann d l ↔ Ann d l' := ⟨fun h x hx => h x (p.mem_iff.mpr hx), fun h x hx => h x (p.mem_iff.mp hx)⟩
theorem off_perm {l l' : List Int} {k : Int} (p : l.Perm l') (h : Off k l') : Off k l := fun x hx => h x (p.mem_iff.mp hx)
theorem ann_cons {x : Int} {l : List Int} {d : Nat} : Ann d (x :: l) ↔ par d x.toNat = false ∧ Ann d l := by
  unfold Ann; rw [List.forall_mem_cons]
theorem kinv_start {ws : List Int} (hb : Bd ws) (h5 : ws.length ≤ 5) : Kinv ws (hfF (ws.length / 2) ws) [] where
  hp := hp_heap h5
  bn := bd_perm (hf_perm h5) hb
  bk := fun _ h => nomatch h
  nz := fun _ h => nomatch h
  len := by rw [(hf_perm h5).length_eq]; simp
  five := h5
  stair := List.Pairwise.nil
  off := fun _ h => nomatch h
  span := fun d => ⟨fun h => ⟨(fun _ h => nomatch h), (ann_perm (hf_perm h5)).mpr h⟩, fun h => (ann_perm (hf_perm h5)).mp h.2⟩
theorem getD_mem {l : List Int} (h : 0 < l.length) : l.getD 0 0 ∈ l := by
  cases l with
  | nil => cases h
  | cons a r => simp
theorem kinv_len {ws ns ks : List Int} (K : Kinv ws ns ks) : ns.length ≤ 5 := by have := K.len; have := K.five; omega
theorem hp_pop {l : List Int} (h : Hp l) : Hp (popF l) := by
  unfold popF
  split
  · simp [Hp]
  · exact sift0 (hq_pop _ h)
theorem kinv_pop {ws ns ks : List Int} (K : Kinv ws ns ks) (h0 : 0 < ns.length) (h : ns.getD 0 0 ≠ 0) : Iinv ws (popF ns) ks (ns.getD 0 0) := by
  have p := pop_perm h0 (kinv_len K)
  have hm := K.bn _ (getD_mem h0)
  have hl : ns.length = (popF ns).length + 1 := by rw [p.length_eq]; rfl
  exact {
    hp := hp_pop K.hp
    bn := fun x hx => K.bn x (p.mem_iff.mpr (.tail _ hx))
    bk := K.bk
    nz := K.nz
    t0 := by omega
    t1 := hm.2
    len := by have := K.len; omega
    five := K.five
    stair := K.stair
    off := fun k hk => off_perm p.symm (K.off k hk)
    le := fun x hx => hp_top K.hp x (p.mem_iff.mpr (.tail _ hx))
    span := fun d => (K.span d).trans (and_congr Iff.rfl ((ann_perm p).trans ann_cons)) }
theorem set0 {l : List Int} (h : 0 < l.length) (x : Int) : ∃ a r, l = a :: r ∧ l.set 0 x = x :: r ∧ l.getD 0 0 = a := by
  cases l with
  | nil => cases h
  | cons a r => exact ⟨a, r, rfl, rfl, rfl⟩
def meas (l : List Int) : Nat := (l.map Int.toNat).sum
theorem meas_perm {l l' : List Int} (p : l.Perm l') : meas l = meas l' := List.Perm.sum_nat (p.map _)
theorem iinv_step {ws ns ks : List Int} {top : Int} (K : Iinv ws ns ks top) (h0 : 0 < ns.length) (h : Builtin.bitXor (ns.getD 0 0) top < ns.getD 0 0) :
    Iinv ws (siftF (ns.set 0 (Builtin.bitXor (ns.getD 0 0) top)) 0) ks top ∧ meas (siftF (ns.set 0 (Builtin.bitXor (ns.getD 0 0) top)) 0) < meas ns := by
  have hm := K.bn _ (getD_mem h0)
  have hle := K.le _ (getD_mem h0)
  have ex := bitXor_nat hm ⟨by have := K.t0; omega, K.t1⟩
  have hx64 := xor_lt (ns.getD 0 0).toNat (by omega) top.toNat (by have := K.t1; have := K.t0; omega)
  have hpx : ∀ d, par d (Builtin.bitXor (ns.getD 0 0) top).toNat = (par d (ns.getD 0 0).toNat ^^ par d top.toNat) := fun d => by rw [ex, Int.toNat_natCast, par_xor]
  have htx : ∀ i, (Builtin.bitXor (ns.getD 0 0) top).toNat.testBit i = ((ns.getD 0 0).toNat.testBit i ^^ top.toNat.testBit i) := fun i => by rw [ex, Int.toNat_natCast, Nat.testBit_xor]
  have hx0 : 0 ≤ Builtin.bitXor (ns.getD 0 0) top := by rw [ex]; omega
  generalize hX : Builtin.bitXor (ns.getD 0 0) top = X at *
  obtain ⟨a, r, e1, e2, e3⟩ := set0 h0 X
  have hset : (ns.set 0 X).length = ns.length := List.length_set
  have p : (siftF (ns.set 0 X) 0).Perm (X :: r) := by
    rw [← e2]
    exact siftF_perm (by omega) (by rw [hset]; omega)
  have hr : ∀ x ∈ r, x ∈ ns := fun x hx => by rw [e1]; exact .tail _ hx
  have han : ∀ d, Ann d ns ↔ par d a.toNat = false ∧ Ann d r := fun d => by rw [e1]; exact ann_cons
  rw [e3] at h hm hle htx hpx
  refine ⟨{
    hp := sift0 (hq_set _ K.hp)
    bn := bd_perm p fun x hx => ?_
    bk := K.bk
    nz := K.nz
    t0 := K.t0
    t1 := K.t1
    len := by rw [siftF_length, hset]; exact K.len
    five := K.five
    stair := K.stair
    off := fun k hk x hx => ?_
    le := fun x hx => ?_
    span := fun d => ?_ }, ?_⟩
  · rcases List.mem_cons.mp hx with rfl | hx
    · have := K.t1; omega
    · exact K.bn x (hr x hx)
  · rcases List.mem_cons.mp hx with rfl | hx
    · exact K.off k hk _ (.head _)
    · rcases List.mem_cons.mp (p.mem_iff.mp hx) with rfl | hx
      · rw [htx, K.off k hk _ (.head _), K.off k hk a (by rw [e1]; exact .tail _ (.head _))]; rfl
      · exact K.off k hk x (.tail _ (hr x hx))
  · rcases List.mem_cons.mp (p.mem_iff.mp hx) with rfl | hx
    · omega
    · exact K.le x (hr x hx)
  · rw [K.span d, ann_perm p, ann_cons, han d, hpx]
    cases h1 : par d top.toNat <;> simp
  · rw [meas_perm p, e1]
    simp only [meas, List.map_cons, List.sum_cons]
    omega
theorem iinv_end {ws ns ks : List Int} {top : Int} (K : Iinv ws ns ks top) (h : ns.length = 0 ∨ ¬ Builtin.bitXor (ns.getD 0 0) top < ns.getD 0 0) : Kinv ws ns (ks ++ [top]) := by
  have t0 := K.t0
  have t1 := K.t1
  have hoff : ∀ x ∈ ns, x.toNat.testBit top.toNat.log2 = false := by
    rcases h with h | h
    · rw [List.eq_nil_of_length_eq_zero h]; intro x hx; cases hx
    · intro x hx
      have h0 : 0 < ns.length := List.length_pos_of_mem hx
      have hm := K.bn _ (getD_mem h0)
      have hle := K.le _ (getD_mem h0)
      rw [bitXor_nat hm ⟨by omega, t1⟩] at h
      have q := top_bit (ns.getD 0 0).toNat (by omega) top.toNat (by omega) (by omega) (by omega) (by omega)
      have hxt := hp_top K.hp x hx
      have hx0 := (K.bn x hx).1
      exact Nat.testBit_lt_two_pow (by omega)
  exact {
    hp := K.hp
    bn := K.bn
    bk := fun x hx => by
      rcases List.mem_append.mp hx with hx | hx
      · exact K.bk x hx
      · cases List.mem_singleton.mp hx; omega
    nz := fun x hx => by
      rcases List.mem_append.mp hx with hx | hx
      · exact K.nz x hx
      · cases List.mem_singleton.mp hx; omega
    len := by rw [List.length_append]; have := K.len; simp; omega
    five := K.five
    stair := List.pairwise_append.mpr ⟨K.stair, List.pairwise_singleton _ _, fun a ha b hb => by cases List.mem_singleton.mp hb; exact K.off a ha _ (.head _)⟩
    off := fun k hk x hx => by
      rcases List.mem_append.mp hk with hk | hk
      · exact K.off k hk x (.tail _ hx)
      · cases List.mem_singleton.mp hk; exact hoff x hx
    span := fun d => by
      rw [K.span d]
      have : Ann d (ks ++ [top]) ↔ Ann d ks ∧ par d top.toNat = false := by
        unfold Ann; rw [List.forall_mem_append, List.forall_mem_singleton]
      rw [this, and_assoc] }
/-- what the kept ones are -/
structure Kok (ws ks : List Int) : Prop where
  bk : Bd ks
  nz : ∀ k ∈ ks, k ≠ 0
  five : ks.length ≤ 5
  stair : ks.Pairwise (fun a b => b.toNat.testBit a.toNat.log2 = false)
  span : ∀ d, Ann d ws ↔ Ann d ks
theorem kinv_end {ws ns ks : List Int} (K : Kinv ws ns ks) (h : ns.length = 0 ∨ ns.getD 0 0 = 0) : Kok ws ks where
  bk := K.bk
  nz := K.nz
  five := by have := K.len; have := K.five; omega
  stair := K.stair
  span := fun d => by
    rw [K.span d]
    refine ⟨fun h => h.1, fun h1 => ⟨h1, fun x hx => ?_⟩⟩
    rcases h with h | h
    · rw [List.eq_nil_of_length_eq_zero h] at hx; cases hx
    · have a := hp_top K.hp x hx
      have b := (K.bn x hx).1
      have : x = 0 := by omega
      rw [this]; exact par_zero d
end Mine
end
section
open PySem PySem.W PyProof.Rows PySem.Calls
set_option Elab.async false
set_option maxRecDepth 100000
set_option maxHeartbeats 8000000
namespace Mine
local macro_rules | `(tactic| walk_at "none 0") => `(tactic| fail)
local macro_rules | `(tactic| walk_at "none 1") => `(tactic| fail)
local macro_rules | `(tactic| walk_at "none 2") => `(tactic| fail)
local macro_rules | `(tactic| walk_at "none 3") => `(tactic| fail)
local macro_rules | `(tactic| walk_at "none 4") => `(tactic| fail)
local macro_rules | `(tactic| walk_at "none 5") => `(tactic| fail)
local macro_rules | `(tactic| walk_at "none 6") => `(tactic| fail)
local macro_rules | `(tactic| walk_at "none 7") => `(tactic| fail)
local macro_rules | `(tactic| walk_at "none 8") => `(tactic| fail)
local macro_rules | `(tactic| walk_at "none 9") => `(tactic| fail)
local macro_rules | `(tactic| walk_at "none 10") => `(tactic| fail)
local macro_rules | `(tactic| walk_at "none 11") => `(tactic| fail)
local macro_rules | `(tactic| walk_at "none 12") => `(tactic| fail)
local macro_rules | `(tactic| walk_at "none 13") => `(tactic| fail)
local macro_rules | `(tactic| walk_at "none 14") => `(tactic| fail)
local macro_rules | `(tactic| walk_at "none 15") => `(tactic| fail)
local macro_rules | `(tactic| walk_at "none 16") => `(tactic| fail)
local macro_rules | `(tactic| walk_at "call ref") => `(tactic| (refine stop_intro ?_))
local macro_rules | `(tactic| walk_at "exec While BoolOp") => `(tactic| (refine stop_intro ?_))
local macro_rules | `(tactic| walk_at "WPost") => `(tactic| (with_reducible refine wpost_brk ?_; (try dsimp only)))
local macro_rules | `(tactic| walk_at "compareOp NotEq ref ref") => `(tactic| (refine stop_intro ?_))
structure KS where
  vs : List Value
  ns : List Int
  c : Nat
  kv : List Value
  ks : List Int
  kc : Nat
theorem kp {prog : Program} {w : World} {A : Around} {s : Shared} {h₀ : Heap} {loose : List Str} {mean : ExcName → Option Value} {mg mb : Str → Option Value}
  (X₀ : (hd.heap_39 w.params).In h₀) (T : Top hd.view_39 loose mean mg mb h₀) (st : h₀.StaysIn s.heap) (hroom : A.depth + 4 < recursionLimit) (hh : A.handled = none) (hu : A.units ≤ 100)
  {a : Addr} {vs : List Value} {ns : List Int} {c : Nat} (hI : IntsAre vs ns) (ha : s.heap.get? a = some (listOf vs.toArray c))
  (hbd : Bd ns) (hlen : ns.length ≤ 5) (hvl : vs.length = ns.length)
   : codeAny (model prog w) A (.call (.ref 137) ⟨[.ref a], []⟩) (fun r s' => match r with | .ok (.ret v) => (∃ D kv kc ks, v = .ref D ∧ s.heap.get? D = none ∧ IntsAre kv ks ∧ Kok ns ks ∧ Did s s' [] (fun h' => h'.get? D = some (listOf kv.toArray kc))) | _ => False) s := by
  have hk : hd.heap_39 w.params = hd.heap_39 w.params ∧ PySem.Challenge.rw_oc0087_01 = PySem.Challenge.rw_oc0087_01 := by
    k_fill
    exact ⟨rfl, rfl⟩
  clear hk
  refine' enter2 (K := hd.heap_39 w.params) (R := fun v s' => (∃ D kv kc ks, v = .ref D ∧ s.heap.get? D = none ∧ IntsAre kv ks ∧ Kok ns ks ∧ Did s s' [] (fun h' => h'.get? D = some (listOf kv.toArray kc)))) (binds := [("words", .ref a)]) X₀ T st [] ?hn ?ho ?hcd (by omega) ?hb ?hl ?h ?c1 ?c2 ?c3 ?c4
  case ho => k_is
  case hcd => k_is
  case hn => intro p hp; cases hp
  case hb => exact BindsTo.of_eq rfl
  case hl => exact locs rfl
  case c4 => decide
  case c1 => exact rfl
  case c2 => exact rfl
  case c3 => exact rfl
  case h =>
    intro g L' h₁ F N X T st' lt kg
    have hga : g.IsList a vs.toArray := ⟨_, kg a _ ha (by simp), rfl, _, rfl⟩
    k_steps
    refine stop_elim ?_
    rename Fr _ _ _ _ => F'
    rename News _ _ _ _ => N'
    rename_i D c' h' l1 h''
    refine use_call (hf X T (fun b o e => F'.keep b o e) (by rw [depth_deeper]; omega) (show (A.deeper _).handled = none from hh) hI (N'.get (.head _)) (N'.fresh (.head _)) hlen hvl) ?_
    rintro v s' ⟨rfl, h', tk, rfl, hk, vs1, c1, hI1, ho1⟩
    obtain ⟨F2, N2⟩ := after_did F' N' hk (by k_upd) ho1
    clear F' N'
    have K1 := kinv_start hbd hlen
    generalize hfF (ns.length / 2) ns = ns1 at hI1 K1
    k_steps
    rename_i kD h1' ltD h2' F3 N3
    refine stop_elim ?_
    have hlt : @LT.lt Nat _ D kD := ltD
    refine while_st (σ := KS) (fun c => [(kD, listOf c.kv.toArray c.kc), (D, listOf c.vs.toArray c.c)]) (fun c => [("heap", .ref D), ("kept", .ref kD)]) (fun c => IntsAre c.vs c.ns ∧ IntsAre c.kv c.ks ∧ Kinv ns c.ns c.ks) (fun c => c.ns.length) ⟨vs1, ns1, c1, [], [], 0⟩ F3 N3 (fun _ h => h) ⟨rfl, rfl, trivial⟩ ⟨hI1, .nil, K1⟩ ?_ passes_false
    clear F3 N3
    intro z u1 h1 tk1 P1 F1 N1
    obtain ⟨vz, nz, cz, kvz, ksz, kcz⟩ := z
    obtain ⟨hIz, hKz, Kz⟩ := P1
    dsimp only [kstB] at F1 N1 hIz hKz Kz
    have hnl := kinv_len Kz
    have hvz := hIz.length
    k_steps
    refine stop_elim ?_
    refine ne_nil (by assumption) (by k_mem) (by k_mem) hIz (by rw [units_deeper]; omega) (fun hne => ?_) (fun hne => ?_)
    all_goals dsimp only
    all_goals k_steps
    · refine stop_elim ?_
      rename Fr _ _ _ _ => F'
      rename News _ _ _ _ => N'
      refine use_call (hp X T (fun b o e => F'.keep b o e) (by rw [depth_deeper]; omega) hIz (N'.get (by k_mem)) (N'.fresh (by k_mem)) hne hnl hvz) ?_
      rintro v s' ⟨⟨ut, rfl⟩, h3, tk3, rfl, hk3, vs3, c3, hI3, ho3⟩
      obtain ⟨F2, N2⟩ := after_did F' N' hk3 (by k_upd) ho3
      clear F' N'
      have I3 := kinv_pop Kz hne (by assumption)
      have hl3 : (popF nz).length < nz.length := by have p := (pop_perm hne hnl).length_eq; simp at p; omega
      generalize popF nz = ns3 at hI3 I3 hl3
      generalize nz.getD 0 0 = top at I3
      k_steps
      rename Fr _ _ _ _ => F'
      rename News _ _ _ _ => N'
      refine stop_elim ?_
      refine while_st (σ := HS) (fun c => [(kD, listOf kvz.toArray kcz), (D, listOf c.vs.toArray c.c)]) (fun c => [("heap", .ref D), ("kept", .ref kD), ("top", .int top ut)]) (fun c => IntsAre c.vs c.ns ∧ Iinv ns c.ns ksz top ∧ c.ns.length = ns3.length) (fun c => meas c.ns) ⟨vs3, ns3, c3⟩ F' N' (fun _ h => .tail _ h) ⟨rfl, rfl, rfl, trivial⟩ ⟨hI3, I3, rfl⟩ ?_ passes_false
      clear F' N'
      intro z u2 h4 tk4 P4 F4 N4
      obtain ⟨vy, ny, cy⟩ := z
      obtain ⟨hIy, Iy, hly⟩ := P4
      dsimp only [kstB] at F4 N4 hIy Iy hly
      have hyl := hIy.length
      k_steps
      refine stop_elim ?_
      refine ne_nil (by assumption) (by k_mem) (by k_mem) hIy (by rw [units_deeper]; omega) (fun hny => ?_) (fun hny => ?_)
      all_goals dsimp only
      all_goals k_steps
      · refine stop_elim ?_
        rename Fr _ _ _ _ => F'
        rename News _ _ _ _ => N'
        refine use_call (hr X T (fun b o e => F'.keep b o e) (by rw [depth_deeper]; omega) hIy (N'.get (by k_mem)) (N'.fresh (by k_mem)) _ _ hny (by omega)) ?_
        rintro v s' ⟨⟨ut5, rfl⟩, h5, tk5, rfl, hk5, vs5, c5, hI5, ho5⟩
        obtain ⟨F2, N2⟩ := after_did F' N' hk5 (by k_upd) ho5
        clear F' N'
        obtain ⟨Iy', hm'⟩ := iinv_step Iy hny (by assumption)
        k_steps
        refine wpost_next ⟨vs5, _, c5⟩ F2 N2 (sub2 (by k_mem) (by k_mem)) ⟨rfl, rfl, rfl, trivial⟩ ⟨hI5, Iy', ?_⟩ hm'
        exact (siftF_length _ _).trans (List.length_set.trans hly)
      all_goals
        rename Fr _ _ _ _ => F'
        rename News _ _ _ _ => N'
        have hkl := hKz.length
        have hkk : ksz.length ≤ 5 := by have := Kz.len; have := Kz.five; omega
        refine append_L F' N' (by k_upd) (by omega) fun h6 F6 N6 => ?_
        clear F' N'
        dsimp only
        k_steps
      · refine wpost_next ⟨vy, ny, cy, _, ksz ++ [top], _⟩ F6 N6 (sub2 (by k_mem) (by k_mem)) ⟨rfl, rfl, trivial⟩ ⟨hIy, IntsAre.append hKz (.cons _ _ .nil), iinv_end Iy (.inr (by assumption))⟩ (by dsimp only; omega)
      · refine wpost_next ⟨vy, ny, cy, _, ksz ++ [top], _⟩ F6 N6 (sub2 (by k_mem) (by k_mem)) ⟨rfl, rfl, trivial⟩ ⟨hIy, IntsAre.append hKz (.cons _ _ .nil), iinv_end Iy (.inl (by assumption))⟩ (by dsimp only; omega)
    · refine endB_intro (by assumption) (by assumption) fun hk hn => ⟨kD, kvz, kcz, ksz, rfl, hn (kD, listOf kvz.toArray kcz) (by k_mem) (by simp), hKz, kinv_end Kz (.inr (by assumption)), _, _, rfl, hk, News.get (by assumption) (by k_mem)⟩
    · refine endB_intro (by assumption) (by assumption) fun hk hn => ⟨kD, kvz, kcz, ksz, rfl, hn (kD, listOf kvz.toArray kcz) (by k_mem) (by simp), hKz, kinv_end Kz (.inl (by assumption)), _, _, rfl, hk, News.get (by assumption) (by k_mem)⟩

end Mine
end
section
open PySem PySem.W PyProof.Rows PySem.Calls
set_option Elab.async false
set_option maxRecDepth 100000
set_option maxHeartbeats 8000000
namespace Mine
local macro_rules | `(tactic| walk_at "none 0") => `(tactic| fail)
local macro_rules | `(tactic| walk_at "none 1") => `(tactic| fail)
local macro_rules | `(tactic| walk_at "none 2") => `(tactic| fail)
local macro_rules | `(tactic| walk_at "none 3") => `(tactic| fail)
local macro_rules | `(tactic| walk_at "none 4") => `(tactic| fail)
local macro_rules | `(tactic| walk_at "none 5") => `(tactic| fail)
local macro_rules | `(tactic| walk_at "none 6") => `(tactic| fail)
local macro_rules | `(tactic| walk_at "none 7") => `(tactic| fail)
local macro_rules | `(tactic| walk_at "none 8") => `(tactic| fail)
local macro_rules | `(tactic| walk_at "none 9") => `(tactic| fail)
local macro_rules | `(tactic| walk_at "none 10") => `(tactic| fail)
local macro_rules | `(tactic| walk_at "none 11") => `(tactic| fail)
local macro_rules | `(tactic| walk_at "none 12") => `(tactic| fail)
local macro_rules | `(tactic| walk_at "none 13") => `(tactic| fail)
local macro_rules | `(tactic| walk_at "none 14") => `(tactic| fail)
local macro_rules | `(tactic| walk_at "none 15") => `(tactic| fail)
local macro_rules | `(tactic| walk_at "none 16") => `(tactic| fail)
local macro_rules | `(tactic| walk_at "none 17") => `(tactic| fail)
local macro_rules | `(tactic| walk_at "FPost") => `(tactic| (with_reducible refine fpost_brk ?_; (try dsimp only)))
local macro_rules | `(tactic| walk_at "call ref") => `(tactic| (refine stop_intro ?_))
local macro_rules | `(tactic| walk_at "pyIter ref") => `(tactic| (refine stop_intro ?_))
local macro_rules | `(tactic| walk_at "exec For Name Call cons nil") => `(tactic| (k_dflt (refine wpAny_For ?_ (by intro _; rfl))))
theorem iter_rg {prog : Program} {w : World} {A : Around} {E : Value → Shared → Prop} {s : Shared} {h₀ : Heap} {L r : Addr} {m : Str → Option Value} {news : List (Addr × Obj)} {k : Nat} {t u v : Tok} {Q : Value → Shared → Prop}
    (F : Fr h₀ L s.heap m) (N : News h₀ L s.heap news) (hr : IsRange s.heap r 0 (k : Int) 1 t u v) (hk : k ≤ 100)
    (h : ∀ D h', Fr h₀ L h' m → News h₀ L h' ((D, rgObj 0 k 1) :: news) → (∀ p ∈ news, @LT.lt Nat _ p.1 D) → @LT.lt Nat _ L D → Q (.ref D) { s with heap := h' }) : wpAny (model prog w) A (pyIter (.ref r)) Q E s := by
  have e : Builtin.Range.rangeSize 0 (k : Int) 1 = k := rev_size (by omega)
  have fits : ∀ x : Int, -200 ≤ x → x ≤ 200 → Builtin.Range.rangeFitsLong x = true := by
    intro x h1 h2
    unfold Builtin.Range.rangeFitsLong
    simp
    omega
  refine wpAny_pyIter_range hr ?_ ?_
  · unfold Builtin.Range.small
    rw [e, fits 0 (by decide) (by decide), fits k (by omega) (by omega), fits 1 (by decide) (by decide), if_pos (by decide), fits _ (by omega) (by omega)]
    simp
  · rw [e]
    obtain ⟨D, hD, F2, N2, hlt, hLD⟩ := fr_new F N (rgObj 0 k 1) rfl
    rw [← hD]
    exact h D _ F2 N2 hlt hLD
structure WS where
  x : Int
  u : Tok
def wdF (ks : List Int) (n : Int) : Nat → Int
  | 0 => 0
  | i + 1 => if (n.fdiv (2 ^ i)).fmod 2 = 1 then Builtin.bitXor (wdF ks n i) (ks.getD i 0) else wdF ks n i
theorem wd {prog : Program} {w : World} {A : Around} {s : Shared} {h₀ : Heap} {loose : List Str} {mean : ExcName → Option Value} {mg mb : Str → Option Value}
  (X₀ : (hd.heap_39 w.params).In h₀) (T : Top hd.view_39 loose mean mg mb h₀) (st : h₀.StaysIn s.heap) (hroom : A.depth < recursionLimit) (hh : A.handled = none)
  {a : Addr} {vs : List Value} {ns : List Int} {c : Nat} (hI : IntsAre vs ns) (ha : s.heap.get? a = some (listOf vs.toArray c)) (n : Int) (un : Tok) (hn0 : 0 ≤ n) (hn1 : n < 64)
  (hlen : ns.length ≤ 5) (hvl : vs.length = ns.length)
   : codeAny (model prog w) A (.call (.ref 144) ⟨[.ref a, .int n un], []⟩) (fun r s' => match r with | .ok (.ret v) => (∃ u, v = .int (wdF ns n ns.length) u) ∧ Did s s' [] (fun _ => True) | _ => False) s := by
  have hk : hd.heap_39 w.params = hd.heap_39 w.params ∧ PySem.Challenge.rw_oc0087_01 = PySem.Challenge.rw_oc0087_01 := by
    k_fill
    exact ⟨rfl, rfl⟩
  clear hk
  refine' enter2 (K := hd.heap_39 w.params) (R := fun v s' => (∃ u, v = .int (wdF ns n ns.length) u) ∧ Did s s' [] (fun _ => True)) (binds := [("kept", .ref a), ("n", .int n un)]) X₀ T st [] ?hn ?ho ?hcd (by omega) ?hb ?hl ?h ?c1 ?c2 ?c3 ?c4
  case ho => k_is
  case hcd => k_is
  case hn => intro p hp; cases hp
  case hb => exact BindsTo.of_eq rfl
  case hl => exact locs rfl
  case c4 => decide
  case c1 => exact rfl
  case c2 => exact rfl
  case c3 => exact rfl
  case h =>
    intro g L' h₁ F N X T st' lt kg
    have hga : g.IsList a vs.toArray := ⟨_, kg a _ ha (by simp), rfl, _, rfl⟩
    k_steps
    refine stop_elim ?_
    rename IsRange _ _ _ _ _ _ _ _ => hr
    rename Fr _ _ _ _ => F'
    rename News _ _ _ _ => N'
    refine iter_rg F' N' hr (by omega) fun D h2 F2 N2 hlt hLD => ?_
    clear F' N' hr
    dsimp only
    refine for_rg (σ := WS) (n := ns.length) (show (A.deeper _).handled = none from hh) (fun c => []) (fun c => [("kept", .ref a), ("n", .int n un), ("word", .int c.x c.u)]) (fun i c => c.x = wdF ns n i)
      ⟨0, _⟩ F2 N2 (.head _) (fun _ h => nomatch h) ⟨rfl, rfl, rfl, trivial⟩ rfl (fun _ _ h => nomatch h) ?_ ?_
    · intro i c1 u1 h1 tk1 o t hi P1 F1 N1
      obtain ⟨x1, w1⟩ := c1
      dsimp only [kstB] at F1 P1
      have hi5 : i < 5 := by omega
      have ei : (0 + (i : Int) * 1).toNat = i := by omega
      k_steps
      · rename Int.fmod _ 2 = 1 => hc
        rw [ei] at hc
        refine fpost_next ⟨_, _⟩ (by assumption) (by assumption) (.head _) (fun _ h => nomatch h) ⟨rfl, rfl, rfl, trivial⟩ ?_
        dsimp only
        rw [wdF, if_pos hc, ← P1, ei]
        rfl
      · rename ¬ Int.fmod _ 2 = 1 => hc
        rw [ei] at hc
        refine fpost_next ⟨_, _⟩ (by assumption) (by assumption) (.head _) (fun _ h => nomatch h) ⟨rfl, rfl, rfl, trivial⟩ ?_
        dsimp only
        rw [wdF, if_neg hc, ← P1]
    · intro c1 u1 h1 tk1 P1 F1 N1
      obtain ⟨x1, w1⟩ := c1
      dsimp only [kstB] at F1 P1
      k_steps
      exact endB_intro F1 N1 fun hk _ => ⟨ret_int P1, _, _, rfl, hk, trivial⟩
end Mine
end
section
open PySem PySem.W PyProof.Rows PySem.Calls
set_option Elab.async false
set_option maxRecDepth 100000
set_option maxHeartbeats 8000000
namespace Mine
section
variable {prog : Program} {w : World} {A : Around} {E : Value → Shared → Prop} {s : Shared}
open AutoSeq1 (wpAny_loadPart')

/-- the next item of a tuple's iterator, as enumerate asks it -/
theorem nextOf_tup {it t : Addr} {i : Nat} {items} {x : Value} {Q : Value → Shared → Prop} (hit : s.heap.IsTupleIter it t i)
    (ht : s.heap.IsTuple t items) (hx : items[i]? = some x)
    (hQ : ∀ h', h'.IsTupleIter it t (i + 1) → Heap.SameBut it s.heap h' → Q x { s with heap := h' }) :
    wpAny (model prog w) A (Builtin.SmallTypes.nextOf (.ref it)) Q E s := by
  obtain ⟨o, ho, hc, hd⟩ := id hit
  obtain ⟨ol, hol, _, nl, hdl⟩ := ht
  unfold Builtin.SmallTypes.nextOf
  refine wpAny_bind (wpAny_callSpecial?_slot (name := Str.ofString "__next__") hit.typeIs F.slot_tuple_iterator_next
    (wpAny_call_entry F.slot_tuple_iterator_next hit.typeIs F.entry_tuple_iterator_next ?_ (F.args_tuple_iterator_next_1 _)))
  show wpAny _ _ (field (.ref it) 0 >>= _) _ _ s
  refine wpAny_bind (wpAny_field ho hd (x := .ref t) rfl ?_)
  show wpAny _ _ (if (Value.ref t == Value.none) = true then _ else _) _ _ s
  rw [if_neg (show ¬ ((Value.ref t == Value.none) = true) from Bool.false_ne_true)]
  show wpAny _ _ (field (.ref it) 1 >>= _) _ _ s
  refine wpAny_bind (wpAny_field ho hd (x := .int i 0) rfl ?_)
  show wpAny _ _ (seqItems? (.ref t) >>= _) _ _ s
  refine wpAny_bind (wpAny_seqItems hol hdl ?_)
  simp only [Int.toNat_natCast, hx]
  refine wpAny_bind (wpAny_setField ho hd (by simp) (wpAny_pure ⟨x, rfl, wpAny_pure (hQ _ ?_ (Heap.SameBut.update ..))⟩))
  exact ⟨_, Heap.get?_update_self _ ho (Obj.isFreed_of_fields (Obj.data_mapFields hd _)), (Obj.cls_mapFields ..).trans hc, by
    rw [Obj.data_mapFields hd]; simp [rawInt]⟩

theorem nextOf_tup_end {it t : Addr} {i : Nat} {items} {Q : Value → Shared → Prop} (hh : A.handled = none)
    (hit : s.heap.IsTupleIter it t i) (ht : s.heap.IsTuple t items) (hx : items[i]? = none)
    (hE : ∀ h' e, Heap.ExtBut it s.heap h' → (∃ o, h'.get? e = some o ∧ o.cls = .type "StopIteration") → E (.ref e) { s with heap := h' }) :
    wpAny (model prog w) A (Builtin.SmallTypes.nextOf (.ref it)) Q E s := by
  obtain ⟨o, ho, hc, hd⟩ := id hit
  obtain ⟨ol, hol, _, nl, hdl⟩ := ht
  unfold Builtin.SmallTypes.nextOf
  refine wpAny_bind (wpAny_callSpecial?_slot (name := Str.ofString "__next__") hit.typeIs F.slot_tuple_iterator_next
    (wpAny_call_entry F.slot_tuple_iterator_next hit.typeIs F.entry_tuple_iterator_next ?_ (F.args_tuple_iterator_next_1 _)))
  show wpAny _ _ (field (.ref it) 0 >>= _) _ _ s
  refine wpAny_bind (wpAny_field ho hd (x := .ref t) rfl ?_)
  show wpAny _ _ (if (Value.ref t == Value.none) = true then _ else _) _ _ s
  rw [if_neg (show ¬ ((Value.ref t == Value.none) = true) from Bool.false_ne_true)]
  show wpAny _ _ (field (.ref it) 1 >>= _) _ _ s
  refine wpAny_bind (wpAny_field ho hd (x := .int i 0) rfl ?_)
  show wpAny _ _ (seqItems? (.ref t) >>= _) _ _ s
  refine wpAny_bind (wpAny_seqItems hol hdl ?_)
  simp only [Int.toNat_natCast, hx]
  refine wpAny_bind (wpAny_rule (wpAny_bind (wpAny_setField ho hd (by simp) ?_)))
  show wpAny _ _ (newExc (.type "StopIteration") [] >>= _) _ _ _
  refine wpAny_bind ?_
  simp only [newExc, newTuple]
  refine wpAny_bind (wpAny_newObj_type ?_ (by size_fits))
  refine wpAny_bind (m := firstArgMember _ _) (wpAny_of_eq (a := Value.none) (by first | rfl | (simp only [firstArgMember]; rfl)) ?_)
  refine wpAny_newObj_type ?_ (by size_fits)
  simp only [raiseNew]
  refine wpAny_bind (wpAny_handled ?_)
  first | rw [show A.in1.handled = none from hh] | rw [hh]
  refine wpAny_bind (wpAny_pure (wpAny_throw ?_))
  exact hE _ _ (((Heap.SameBut.update ..).extBut.push _).push _) ⟨_, Heap.get?_push_size _ rfl, rfl⟩

theorem enum_new_tup (l : Addr) (items : Array Value) (n : Nat) (dct : Option Addr) (sl : Array (Option Value)) :
    Meets (Builtin.«enumerate.__new__» ⟨[.type "enumerate", .ref l], []⟩) (fun _ R s => s.heap.get? l = some { cls := .type "tuple", dict := dct, data := .seq items n, slots := sl } ∧
      R (.ok (.ret (.ref (s.heap.push { cls := .type "tuple_iterator", data := .fields #[.ref l, .int 0 0] }).objs.size)))
        { s with heap := (s.heap.push { cls := .type "tuple_iterator", data := .fields #[.ref l, .int 0 0] }).push { cls := .type "enumerate", data := .fields #[.none, .bool false, .ref s.heap.objs.size, rawInt 0, .none, .none] } }) :=
  .of_wp fun prog w A R s h => by
    obtain ⟨hp, g, d, tk, os⟩ := s; obtain ⟨hl, h⟩ := h
    have hsub := sub_enumerate
    have hL : Heap.IsTuple (Shared.heap ⟨hp, g, d, tk, os⟩) l items := ⟨_, hl, rfl, n, rfl⟩
    wp_walk using wpAny_loadPart' hl
    refine wpAny_stack_any fun st => wpAny_pure ?_
    split
    · rename_i c _ _ _ _ _
      cases (c == Value.type "enumerate")
      · wp_walk using wpAny_loadPart' hl, wpAny_pyIter_tuple hL
        exact ⟨_, rfl, h⟩
      · wp_walk using wpAny_loadPart' hl, wpAny_pyIter_tuple hL
        exact ⟨_, rfl, h⟩
    · wp_walk using wpAny_loadPart' hl, wpAny_pyIter_tuple hL
      exact ⟨_, rfl, h⟩
theorem call_enum_tup {l : Addr} {items : Array Value} {Q : Value → Shared → Prop} (hL : s.heap.IsTuple l items)
    (h : ∀ h', IsEnum h' (s.heap.objs.size + 1) s.heap.objs.size 0 .none → h'.IsTupleIter s.heap.objs.size l 0 → h'.objs.size = s.heap.objs.size + 2 →
      (∀ b o, s.heap.get? b = some o → h'.get? b = some o) → Q (.ref (s.heap.objs.size + 1)) { s with heap := h' }) :
    wpAny (model prog w) A (call (.type "enumerate") [.ref l]) Q E s := by
  obtain ⟨⟨c, dct, dt, sl⟩, hl, hc, n, hd⟩ := hL
  replace hc : c = .type "tuple" := hc
  replace hd : dt = .seq items n := hd
  subst hc hd
  refine callType_new F.called_enumerate (by decide) (F.typeCall_enumerate_1 _) (F.newCall_enumerate_1 _) (fun obj => F.args_object_init_2 obj _) F.entry_enumerate_new
    (enum_new_tup l items n dct sl) ⟨hl, ?_⟩
  have hz : (s.heap.push { cls := .type "tuple_iterator", data := .fields #[.ref l, .int 0 0] }).objs.size = s.heap.objs.size + 1 := Heap.size_push ..
  show _ ∧ _
  rw [hz]
  have he : IsEnum ((s.heap.push { cls := .type "tuple_iterator", data := .fields #[.ref l, .int 0 0] }).push
      { cls := .type "enumerate", data := .fields #[.none, .bool false, .ref s.heap.objs.size, rawInt 0, .none, .none] }) (s.heap.objs.size + 1) s.heap.objs.size 0 .none := by
    have := Heap.get?_push_size (s.heap.push { cls := .type "tuple_iterator", data := .fields #[.ref l, .int 0 0] })
      (o := { cls := .type "enumerate", data := .fields #[.none, .bool false, .ref s.heap.objs.size, rawInt 0, .none, .none] }) rfl
    rw [hz] at this; exact this
  refine ⟨⟨_, he, rfl⟩, h _ he ⟨_, Heap.get?_push_of_some _ (Heap.get?_push_size _ rfl), rfl, rfl⟩ (by rw [Heap.size_push, hz]) fun b o x => Heap.get?_push_of_some _ (Heap.get?_push_of_some _ x)⟩

theorem enum_next_tup {e it l : Addr} {i : Nat} {items : Array Value} {x old : Value} {Q : Option Value → Shared → Prop}
    (he : IsEnum s.heap e it i old) (hit : s.heap.IsTupleIter it l i) (hl : s.heap.IsTuple l items) (hx : items[i]? = some x) (hne : e ≠ it)
    (hQ : ∀ h', IsEnumOut h' e it ((i : Int) + 1) x s.heap.objs.size → h'.IsTupleIter it l (i + 1) →
      h'.get? s.heap.objs.size = some { cls := .type "tuple", data := .seq #[.int i s.toks, x] } →
      (∀ b o, b ≠ e → b ≠ it → s.heap.get? b = some o → h'.get? b = some o) → Q (some (.ref s.heap.objs.size)) { s with heap := h', toks := s.toks + 1 }) :
    wpAny (model prog w) A (pyNext (.ref e)) Q E s := by
  have hT : s.TypeIs (.ref e) "enumerate" := ⟨_, he, rfl⟩
  unfold pyNext
  refine wpAny_bind (wpAny_attempt (wpAny_callSpecial?_slot (name := Str.ofString "__next__") hT F.slot_enumerate_next
    (wpAny_call_entry F.slot_enumerate_next hT F.entry_enumerate_next ?_ (F.args_enumerate_next_1 _))))
  obtain ⟨hp, g, d, tk, os⟩ := s
  show wpAny _ _ (field (.ref e) 2 >>= _) _ _ _
  refine wpAny_bind (wpAny_field he rfl (x := .ref it) rfl ?_)
  refine wpAny_bind (nextOf_tup hit hl hx fun h₁ hit₁ hs₁ => ?_)
  replace hs₁ : Heap.SameBut it hp h₁ := hs₁
  have he₁ : IsEnum h₁ e it i old := (hs₁.2 e hne).trans he
  show wpAny _ _ (field (.ref e) 3 >>= _) _ _ ⟨h₁, g, d, tk, os⟩
  refine wpAny_bind (wpAny_field he₁ rfl (x := rawInt i) rfl ?_)
  show wpAny _ _ (field (.ref e) 4 >>= _) _ _ ⟨h₁, g, d, tk, os⟩
  refine wpAny_bind (wpAny_field he₁ rfl (x := .none) rfl ?_)
  show wpAny _ _ (mkInt i >>= _) _ _ ⟨h₁, g, d, tk, os⟩
  refine wpAny_bind (wpAny_mkInt ?_)
  show wpAny _ _ (setField (.ref e) 3 (rawInt ((i : Int) + 1)) >>= _) _ _ ⟨h₁, g, d, tk + 1, os⟩
  refine wpAny_bind (wpAny_setField_rec he₁ (by simp) fun h₂ he₂ hs₂ => ?_)
  replace hs₂ : Heap.SameBut e h₁ h₂ := hs₂
  replace he₂ : IsEnum h₂ e it ((i : Int) + 1) old := he₂
  show wpAny _ _ (setField (.ref e) 4 .none >>= _) _ _ ⟨h₂, g, d, tk + 1, os⟩
  refine wpAny_bind (wpAny_setField_rec he₂ (by simp) fun h₃ he₃ hs₃ => ?_)
  replace hs₃ : Heap.SameBut e h₂ h₃ := hs₃
  replace he₃ : IsEnum h₃ e it ((i : Int) + 1) old := he₃
  show wpAny _ _ (newTuple [.int i tk, x] >>= _) _ _ ⟨h₃, g, d, tk + 1, os⟩
  refine wpAny_bind (wpAny_newTuple ?_)
  have hsz : h₃.objs.size = hp.objs.size := by rw [hs₃.1, hs₂.1, hs₁.1]
  have hel : e < hp.objs.size := Heap.lt_size he
  have he₄ : IsEnum (h₃.push { cls := .type "tuple", data := .seq #[.int i tk, x] }) e it ((i : Int) + 1) old := Heap.get?_push_of_some _ he₃
  have ht₄ : (h₃.push { cls := .type "tuple", data := .seq #[.int i tk, x] }).get? hp.objs.size = some { cls := .type "tuple", data := .seq #[.int i tk, x] } := by rw [← hsz]; exact Heap.get?_push_size _ rfl
  have hk₄ : ∀ b o, b ≠ e → b ≠ it → hp.get? b = some o → (h₃.push { cls := .type "tuple", data := .seq #[.int i tk, x] }).get? b = some o := fun b o hbe hbi hb =>
    Heap.get?_push_of_some _ (hs₃.extBut b o hbe (hs₂.extBut b o hbe (hs₁.extBut b o hbi hb)))
  have hit₄ : (h₃.push { cls := .type "tuple", data := .seq #[.int i tk, x] }).IsTupleIter it l (i + 1) := by
    obtain ⟨o, ho, r⟩ := hit₁
    exact ⟨o, Heap.get?_push_of_some _ (hs₃.extBut it o (Ne.symm hne) (hs₂.extBut it o (Ne.symm hne) ho)), r⟩
  generalize h₃.push { cls := .type "tuple", data := .seq #[.int i tk, x] } = h₄ at he₄ ht₄ hk₄ hit₄
  show wpAny _ _ (Builtin.SmallTypes.ownedTupleIsFree (.ref e) >>= _) _ _ ⟨h₄, g, d, tk + 1, os⟩
  rw [hsz]
  clear he₃ hs₃ he₂ hs₂ he₁ hs₁ hit₁ hsz
  refine wpAny_bind ?_
  unfold Builtin.SmallTypes.ownedTupleIsFree
  refine wpAny_bind (wpAny_field he₄ rfl (x := .none) rfl (wpAny_pure ?_))
  simp only [if_true]
  refine wpAny_bind (wpAny_rule ?_)
  refine wpAny_bind (wpAny_field he₄ rfl (x := old) rfl ?_)
  refine wpAny_bind (wpAny_setField_rec he₄ (by simp) fun h₅ he₅ hs₅ => ?_)
  replace hs₅ : Heap.SameBut e h₄ h₅ := hs₅
  replace he₅ : IsEnum h₅ e it ((i : Int) + 1) x := he₅
  show wpAny _ _ (Builtin.SmallTypes.ownedTupleHandOut (.ref e) (.ref hp.objs.size) >>= _) _ _ ⟨h₅, g, d, tk + 1, os⟩
  refine wpAny_bind ?_
  unfold Builtin.SmallTypes.ownedTupleHandOut
  refine wpAny_bind (wpAny_setField_rec he₅ (by simp) fun h₆ he₆ hs₆ => ?_)
  replace hs₆ : Heap.SameBut e h₅ h₆ := hs₆
  replace he₆ : IsEnumOut h₆ e it ((i : Int) + 1) x hp.objs.size := he₆
  refine wpAny_setField_rec he₆ (by simp) fun h₇ he₇ hs₇ => ?_
  replace hs₇ : Heap.SameBut e h₆ h₇ := hs₇
  replace he₇ : IsEnumOut h₇ e it ((i : Int) + 1) x hp.objs.size := he₇
  have kk7 : ∀ b o, b ≠ e → h₄.get? b = some o → h₇.get? b = some o := fun b o hbe hb => hs₇.extBut b o hbe (hs₆.extBut b o hbe (hs₅.extBut b o hbe hb))
  refine wpAny_bind (wpAny_letGo (wpAny_pure ⟨_, rfl, wpAny_pure (hQ h₇ he₇ ?_ (kk7 _ _ (Nat.ne_of_gt hel) ht₄) fun b o hbe hbi hb => kk7 b o hbe (hk₄ b o hbe hbi hb))⟩))
  obtain ⟨o, ho, r⟩ := hit₄
  exact ⟨o, kk7 it o (Ne.symm hne) ho, r⟩

theorem enum_end_tup {e it l : Addr} {i : Nat} {items : Array Value} {old : Value} {Q : Option Value → Shared → Prop} (hh : A.handled = none)
    (he : IsEnum s.heap e it i old) (hit : s.heap.IsTupleIter it l i) (hl : s.heap.IsTuple l items) (hx : items[i]? = none)
    (hQ : ∀ h', Heap.ExtBut it s.heap h' → Q none { s with heap := h' }) : wpAny (model prog w) A (pyNext (.ref e)) Q E s := by
  have hT : s.TypeIs (.ref e) "enumerate" := ⟨_, he, rfl⟩
  unfold pyNext
  refine wpAny_bind (wpAny_attempt (wpAny_callSpecial?_slot (name := Str.ofString "__next__") hT F.slot_enumerate_next
    (wpAny_call_entry F.slot_enumerate_next hT F.entry_enumerate_next ?_ (F.args_enumerate_next_1 _))))
  show wpAny _ _ (field (.ref e) 2 >>= _) _ _ _
  refine wpAny_bind (wpAny_field he rfl (x := .ref it) rfl ?_)
  refine wpAny_bind (nextOf_tup_end hh hit hl hx fun h' x he' hx' => ?_)
  obtain ⟨o, ho, hc⟩ := hx'
  refine wpAny_bind (wpAny_isInstance (T := "StopIteration") (b := true) ⟨o, ho, hc⟩ isSubtype_stop ?_)
  exact wpAny_pure (hQ _ he')

def FEnd2 {σ : Type} (h₀ : Heap) (L : Addr) (own : List (Addr × Obj)) (s : Shared) (Led : σ → List (Addr × Obj)) (ps : σ → List (Str × Value)) (P : Nat → σ → Prop) (i : Nat) (s₂ : Shared) : Prop :=
  ∃ (c' : σ) (h' : Heap) (tk : Nat) (m' : Str → Option Value) (news' : List (Addr × Obj)), s₂ = { s with heap := h', toks := tk } ∧ Fr h₀ L h' m' ∧ News h₀ L h' news' ∧ (∀ p ∈ own, p ∈ news') ∧ (∀ p ∈ Led c', p ∈ news') ∧ AllAt m' (ps c') ∧ P (i + 1) c'
def FPost2 {σ : Type} (h₀ : Heap) (L : Addr) (own : List (Addr × Obj)) (s : Shared) (Led : σ → List (Addr × Obj)) (ps : σ → List (Str × Value)) (P : Nat → σ → Prop) (Q : Flow → Shared → Prop) (i : Nat) (f : Flow) (s₂ : Shared) : Prop :=
  match f with
  | .ret v => Q (.ret v) s₂
  | .brk => Q .next s₂
  | _ => FEnd2 h₀ L own s Led ps P i s₂
theorem fpost2_brk {σ : Type} {h₀ : Heap} {L : Addr} {own : List (Addr × Obj)} {s : Shared} {Led : σ → List (Addr × Obj)} {ps : σ → List (Str × Value)} {P : Nat → σ → Prop} {Q : Flow → Shared → Prop} {i : Nat} {s₂ : Shared} (h : Q .next s₂) : FPost2 h₀ L own s Led ps P Q i .brk s₂ := h
theorem fpost2_next {σ : Type} {h₀ : Heap} {L : Addr} {own : List (Addr × Obj)} {s : Shared} {Led : σ → List (Addr × Obj)} {ps : σ → List (Str × Value)} {P : Nat → σ → Prop} {Q : Flow → Shared → Prop} {i : Nat} (c' : σ) {h' : Heap} {tk : Nat} {m' : Str → Option Value} {news' : List (Addr × Obj)}
    (F : Fr h₀ L h' m') (N : News h₀ L h' news') (ho : ∀ p ∈ own, p ∈ news') (hs : ∀ p ∈ Led c', p ∈ news') (ha : AllAt m' (ps c')) (hp : P (i + 1) c') : FPost2 h₀ L own s Led ps P Q i .next { s with heap := h', toks := tk } := ⟨c', h', tk, m', news', rfl, F, N, ho, hs, ha, hp⟩
def enObj (it : Addr) (i : Int) (old : Value) : Obj := { cls := .type "enumerate", dict := none, data := .fields #[.none, .bool false, .ref it, rawInt i, .none, old], slots := #[] }
/-- a for over enumerate(a tuple of the base) -/
theorem for_en {σ : Type} {X : Value → Shared → Prop} {Q : Flow → Shared → Prop} {env : Env} {h₀ : Heap} {e it l : Addr} {items : Array Value} {old : Value} {elts : List Expr} {k : Nat} {pos : Pos} {body orelse : List Stmt} {m₀ : Str → Option Value} {news₀ : List (Addr × Obj)}
    (hh : A.handled = none) (hl0 : h₀.IsTuple l items) (Led : σ → List (Addr × Obj)) (ps : σ → List (Str × Value)) (P : Nat → σ → Prop) (c₀ : σ)
    (F : Fr h₀ env.locals s.heap m₀) (N : News h₀ env.locals s.heap news₀) (he : IsEnum s.heap e it 0 old) (hit : s.heap.IsTupleIter it l 0) (hne : e ≠ it) (he0 : h₀.get? e = none) (hi0 : h₀.get? it = none) (heL : env.locals ≠ e) (hiL : env.locals ≠ it)
    (hl : ∀ p ∈ Led c₀, p ∈ news₀) (hk : AllAt m₀ (ps c₀)) (hp : P 0 c₀) (hLI : ∀ c, ∀ p ∈ Led c, p.1 ≠ e ∧ p.1 ≠ it)
    (turn : ∀ (i : Nat) (c : σ) (u : Str → Option Value) h tk (oe oi : Obj) (T : Addr) (t : Tok) (x : Value), items[i]? = some x → P i c → Fr h₀ env.locals h (kstB u (ps c)) → News h₀ env.locals h ((e, oe) :: (it, oi) :: Led c) → IsTup h T #[.int i t, x] →
      wpAny (model prog w) A (assign (.Tuple elts k pos) env (.ref T)) (fun _ s₂ => wpAny (model prog w) A (execs body env) (FPost2 h₀ env.locals [(e, oe), (it, oi)] s Led ps P Q i) (fun _ _ => False) s₂) (fun _ _ => False) { s with heap := h, toks := tk })
    (exit : ∀ (c : σ) (u : Str → Option Value) h tk, P items.size c → Fr h₀ env.locals h (kstB u (ps c)) → News h₀ env.locals h (Led c) → wpAny (model prog w) A (execs orelse env) Q (fun _ _ => False) { s with heap := h, toks := tk }) :
    codeAny (model prog w) A (.forLoop (.Tuple elts k pos) (.ref e) body orelse env) (fun r s' => match r with | .ok f => Q f s' | .error e => X e s') s := by
  have o1 : ∀ b o, h₀.get? b = some o → b ≠ e := fun b o x q => by rw [q, he0] at x; cases x
  have o2 : ∀ b o, h₀.get? b = some o → b ≠ it := fun b o x q => by rw [q, hi0] at x; cases x
  refine codeAny_forLoop_any
    (fun n s' => ∃ h' tk m' c i, s' = { s with heap := h', toks := tk } ∧ (∃ old, IsEnum h' e it (i : Nat) old) ∧ h'.IsTupleIter it l i ∧ Fr h₀ env.locals h' m' ∧ News h₀ env.locals h' (Led c) ∧ AllAt m' (ps c) ∧ P i c ∧ i ≤ items.size ∧ n = items.size + 1 - i) ?_ (items.size + 1)
    ⟨s.heap, s.toks, m₀, c₀, 0, rfl, ⟨old, he⟩, hit, F, fun p hp => N p (hl p hp), hk, hp, Nat.zero_le _, rfl⟩
  rintro n s' ⟨h', tk, m', c, i, rfl, ⟨old', he'⟩, hit', F', N', hk', hP, hi, rfl⟩
  have next : ∀ h₁ : Heap, (∀ b o, b ≠ e → b ≠ it → h'.get? b = some o → h₁.get? b = some o) → Fr h₀ env.locals h₁ m' ∧ News h₀ env.locals h₁ (Led c) := fun h₁ hk₁ =>
    ⟨⟨F'.ns.at' fun o x => hk₁ _ o heL hiL x, fun b o x => hk₁ b o (o1 b o x) (o2 b o x) (F'.keep b o x), F'.above⟩, fun p hp => ⟨hk₁ _ _ (hLI c p hp).1 (hLI c p hp).2 (N' p hp).1, (N' p hp).2⟩⟩
  have hlt : (Shared.heap { s with heap := h', toks := tk }).IsTuple l items := by
    obtain ⟨o, ho, r⟩ := hl0
    exact ⟨o, F'.keep _ _ ho, r⟩
  by_cases hlt' : i < items.size
  · have hx : items[i]? = some items[i] := Array.getElem?_eq_getElem hlt'
    refine enum_next_tup he' hit' hlt hx hne fun h₁ ho₁ hit₁ hT₁ hk₁ => ?_
    dsimp only at hT₁ ho₁ hk₁ ⊢
    have hTe : h'.objs.size ≠ e := Nat.ne_of_gt (Heap.lt_size he')
    refine wpAny_letOwnedTupleGo_enum ho₁ fun h₂ he₂ hs₂ => ?_
    replace hs₂ : Heap.SameBut e h₁ h₂ := hs₂
    obtain ⟨F₂, N₂⟩ := next h₂ fun b o q1 q2 x => hs₂.extBut b o q1 (hk₁ b o q1 q2 x)
    obtain ⟨oi, hoi, ri⟩ := hit₁
    have hoi₂ : h₂.get? it = some oi := hs₂.extBut it oi (Ne.symm hne) hoi
    have N₃ : News h₀ env.locals h₂ ((e, enObj it ((i : Int) + 1) items[i]) :: (it, oi) :: Led c) := fun p hp => by
      rcases List.mem_cons.mp hp with rfl | hp
      · exact ⟨he₂, fun q => heL q.symm, he0⟩
      · rcases List.mem_cons.mp hp with rfl | hp
        · exact ⟨hoi₂, fun q => hiL q.symm, hi0⟩
        · exact N₂ p hp
    refine wpAny_mono (turn i c m' h₂ (tk + 1) _ oi h'.objs.size tk items[i] hx hP (fr_norm F₂ (allAt hk')) N₃ ⟨_, hs₂.extBut _ _ hTe hT₁, rfl, _, rfl⟩) (fun _ s₂ h₂' => wpAny_mono h₂' (fun f s₃ h₃ => ?_) fun _ _ y => y.elim) fun _ _ y => y.elim
    have fin : FEnd2 h₀ env.locals [(e, enObj it ((i : Int) + 1) items[i]), (it, oi)] s Led ps P i s₃ → ∃ m, m < items.size + 1 - i ∧ ∃ h' tk m' c i, s₃ = { s with heap := h', toks := tk } ∧ (∃ old, IsEnum h' e it (i : Nat) old) ∧ h'.IsTupleIter it l i ∧ Fr h₀ env.locals h' m' ∧ News h₀ env.locals h' (Led c) ∧ AllAt m' (ps c) ∧ P i c ∧ i ≤ items.size ∧ m = items.size + 1 - i := by
      rintro ⟨c', h', tk, m', news', rfl, F₃, N₄, ho, hs, ha, hp⟩
      refine ⟨items.size + 1 - (i + 1), by omega, h', tk, m', c', i + 1, rfl, ⟨items[i], by simpa [enObj] using (N₄ _ (ho _ (.head _))).1⟩, ⟨oi, (N₄ _ (ho _ (.tail _ (.head _)))).1, ri⟩, F₃, fun p hp => N₄ p (hs p hp), ha, hp, hlt', rfl⟩
    cases f with
    | ret v => exact h₃
    | brk => exact h₃
    | cont => exact fin h₃
    | next => exact fin h₃
  · have hin : i = items.size := by omega
    subst hin
    refine enum_end_tup hh he' hit' hlt (Array.getElem?_eq_none (Nat.le_refl _)) fun h₁ hx₁ => ?_
    obtain ⟨F₁, N₁⟩ := next h₁ fun b o _ q2 x => hx₁ b o q2 x
    exact wpAny_mono (exit c m' h₁ tk hP (fr_norm F₁ (allAt hk')) N₁) (fun _ _ y => y) fun _ _ y => y.elim

def tiObj (l : Addr) : Obj := { cls := .type "tuple_iterator", data := .fields #[.ref l, .int 0 0] }
theorem iter_tp {h₀ : Heap} {L l : Addr} {items : Array Value} {m : Str → Option Value} {news : List (Addr × Obj)} {Q : Value → Shared → Prop} (F : Fr h₀ L s.heap m) (N : News h₀ L s.heap news) (hl : h₀.IsTuple l items)
    (h : ∀ D h', Fr h₀ L h' m → News h₀ L h' ((D, tiObj l) :: news) → (∀ p ∈ news, @LT.lt Nat _ p.1 D) → @LT.lt Nat _ L D → l ≠ D → Q (.ref D) { s with heap := h' }) : wpAny (model prog w) A (pyIter (.ref l)) Q E s := by
  have hl' : s.heap.IsTuple l items := by obtain ⟨o, ho, r⟩ := hl; exact ⟨o, F.keep _ _ ho, r⟩
  obtain ⟨D, hD, F2, N2, hlt, hLD⟩ := fr_new F N (tiObj l) rfl
  refine wpAny_pyIter_tuple hl' ?_
  have hne : l ≠ D := by
    obtain ⟨o, ho, _⟩ := hl'
    rw [hD]; exact Nat.ne_of_lt (Heap.lt_size ho)
  rw [← hD]
  exact h D _ F2 N2 hlt hLD hne
/-- a for over a tuple of the base -/
theorem for_tp {σ : Type} {X : Value → Shared → Prop} {Q : Flow → Shared → Prop} {env : Env} {h₀ : Heap} {I l : Addr} {items : Array Value} {target : Expr} {body orelse : List Stmt} {m₀ : Str → Option Value} {news₀ : List (Addr × Obj)}
    (hh : A.handled = none) (hl0 : h₀.IsTuple l items) (hne : l ≠ I) (Led : σ → List (Addr × Obj)) (ps : σ → List (Str × Value)) (P : Nat → σ → Prop) (c₀ : σ)
    (F : Fr h₀ env.locals s.heap m₀) (N : News h₀ env.locals s.heap news₀) (hI : (I, tiObj l) ∈ news₀) (hl : ∀ p ∈ Led c₀, p ∈ news₀) (hk : AllAt m₀ (ps c₀)) (hp : P 0 c₀) (hLI : ∀ c, ∀ p ∈ Led c, p.1 ≠ I)
    (turn : ∀ (i : Nat) (c : σ) (u : Str → Option Value) h tk o x, items[i]? = some x → P i c → Fr h₀ env.locals h (kstB u (ps c)) → News h₀ env.locals h ((I, o) :: Led c) →
      wpAny (model prog w) A (assign target env x) (fun _ s₂ => wpAny (model prog w) A (execs body env) (FPost h₀ env.locals I s Led ps P Q i o) (fun _ _ => False) s₂) (fun _ _ => False) { s with heap := h, toks := tk })
    (exit : ∀ (c : σ) (u : Str → Option Value) h tk, P items.size c → Fr h₀ env.locals h (kstB u (ps c)) → News h₀ env.locals h (Led c) → wpAny (model prog w) A (execs orelse env) Q (fun _ _ => False) { s with heap := h, toks := tk }) :
    codeAny (model prog w) A (.forLoop target (.ref I) body orelse env) (fun r s' => match r with | .ok f => Q f s' | .error e => X e s') s := by
  have hl' : s.heap.IsTuple l items := by obtain ⟨o, ho, r⟩ := hl0; exact ⟨o, F.keep _ _ ho, r⟩
  refine for_st (I := I) (bs := [l]) (n := items.size) (KTurns.ofWalks (Walks.tuple hh I l hne items) fun i v s Q E st q => letGo_tupleiter st.1 q) Led ps P c₀ (fun b hb => ?_) (N.fresh hI) (fun e => (N _ hI).2.1 e.symm) (fun i h st => ?_) ⟨⟨_, N.get hI, rfl, rfl⟩, hl'⟩ F N hl hk hp hLI ?_ exit
  · cases List.mem_singleton.mp hb
    obtain ⟨o, ho, _⟩ := hl0
    rw [ho]; rfl
  · obtain ⟨⟨o, ho, _⟩, _⟩ := st
    rw [ho]; rfl
  · intro i c u h tk o v hi hP hv F N
    exact turn i c u h tk o v hv hP F N
end
end Mine
end
section
open PySem PySem.W PyProof.Rows PySem.Calls
set_option Elab.async false
set_option maxRecDepth 100000
set_option maxHeartbeats 8000000
namespace Mine
structure Row where
  a : Addr
  b : Int
  tb : Tok
  ch : Str
  tc : Tok
def rowsOf : Nat → List Row
  | 0 => [⟨91, 40960, 424, ⟨#[108]⟩, 452⟩, ⟨92, 49152, 426, ⟨#[115]⟩, 453⟩, ⟨93, 32768, 420, ⟨#[45]⟩, 454⟩, ⟨94, 24576, 418, ⟨#[98]⟩, 455⟩, ⟨95, 16384, 414, ⟨#[100]⟩, 456⟩, ⟨96, 8192, 416, ⟨#[99]⟩, 457⟩, ⟨97, 4096, 422, ⟨#[112]⟩, 458⟩]
  | 1 => [⟨99, 256, 434, ⟨#[114]⟩, 459⟩]
  | 2 => [⟨101, 128, 436, ⟨#[119]⟩, 460⟩]
  | 3 => [⟨103, 2112, 461, ⟨#[115]⟩, 462⟩, ⟨104, 2048, 428, ⟨#[83]⟩, 463⟩, ⟨105, 64, 438, ⟨#[120]⟩, 464⟩]
  | 4 => [⟨107, 32, 440, ⟨#[114]⟩, 465⟩]
  | 5 => [⟨109, 16, 442, ⟨#[119]⟩, 466⟩]
  | 6 => [⟨111, 1032, 467, ⟨#[115]⟩, 468⟩, ⟨112, 1024, 430, ⟨#[83]⟩, 469⟩, ⟨113, 8, 444, ⟨#[120]⟩, 470⟩]
  | 7 => [⟨115, 4, 446, ⟨#[114]⟩, 471⟩]
  | 8 => [⟨117, 2, 448, ⟨#[119]⟩, 472⟩]
  | 9 => [⟨119, 513, 473, ⟨#[116]⟩, 474⟩, ⟨120, 512, 432, ⟨#[84]⟩, 475⟩, ⟨121, 1, 450, ⟨#[120]⟩, 476⟩]
  | _ => []
def tabItems : List Value := [.ref 98, .ref 100, .ref 102, .ref 106, .ref 108, .ref 110, .ref 114, .ref 116, .ref 118, .ref 122]
/-- the rows stand in the base -/
def RowsIn (g : Heap) : List Row → Prop
  | [] => True
  | r :: rs => g.IsTuple r.a #[.int r.b r.tb, .str r.ch r.tc] ∧ RowsIn g rs
theorem RowsIn.get {g : Heap} : ∀ {rs : List Row}, RowsIn g rs → ∀ {j : Nat} {r : Row}, rs[j]? = some r → g.IsTuple r.a #[.int r.b r.tb, .str r.ch r.tc]
  | [], _, j, r, h => by simp at h
  | r' :: rs, hR, 0, r, h => by simp at h; rw [← h]; exact hR.1
  | r' :: rs, hR, j + 1, r, h => by simp at h; exact hR.2.get h
def refsOf (rs : List Row) : List Value := rs.map fun r => .ref r.a
def condF (i : Nat) (n b : Int) : Bool := if i = 0 then decide (Builtin.bitAnd n 61440 = b) else decide (Builtin.bitAnd n b = b)
theorem condF_0 {n b : Int} : condF 0 n b = decide (Builtin.bitAnd n 61440 = b) := rfl
theorem condF_1 {i : Nat} {n b : Int} (h : i ≠ 0) : condF i n b = decide (Builtin.bitAnd n b = b) := if_neg h
def pickF (i : Nat) (n : Int) : List Row → Str
  | [] => if i = 0 then Str.ofString "?" else Str.ofString "-"
  | r :: rs => if condF i n r.b then r.ch else pickF i n rs
theorem pickF_drop {i : Nat} {n : Int} {rs : List Row} {j : Nat} {r : Row} (h : rs[j]? = some r) : pickF i n (rs.drop j) = if condF i n r.b then r.ch else pickF i n (rs.drop (j + 1)) := by
  have hj : j < rs.length := by
    rcases Nat.lt_or_ge j rs.length with h' | h'
    · exact h'
    · rw [List.getElem?_eq_none h'] at h; cases h
  rw [List.drop_eq_getElem_cons hj, pickF]
  rw [List.getElem?_eq_getElem hj] at h
  cases h
  rfl
theorem refs_get {rs : List Row} {j : Nat} {x : Value} (h : (refsOf rs).toArray[j]? = some x) : ∃ r, rs[j]? = some r ∧ x = .ref r.a := by
  simp [refsOf] at h
  obtain ⟨r, h1, h2⟩ := h
  exact ⟨r, h1, h2.symm⟩
def signsF (n : Int) (i : Nat) : List Str := (List.range i).map fun i => pickF i n (rowsOf i)
theorem signsF_succ (n : Int) (i : Nat) : signsF n (i + 1) = signsF n i ++ [pickF i n (rowsOf i)] := by
  unfold signsF; rw [List.range_succ, List.map_append]; rfl
theorem signsF_length (n : Int) (i : Nat) : (signsF n i).length = i := by unfold signsF; simp
theorem strs_append : ∀ {vs : List Value} {cs : List Str} {x : Str} {t : Tok}, StrsAre vs cs → StrsAre (vs ++ [.str x t]) (cs ++ [x])
  | _, _, x, t, .nil => .cons x t .nil
  | _, _, _, _, .cons y u h => .cons y u (strs_append h)
theorem strs_length : ∀ {vs : List Value} {cs : List Str}, StrsAre vs cs → vs.length = cs.length
  | _, _, .nil => rfl
  | _, _, .cons _ _ h => congrArg (· + 1) (strs_length h)
theorem after_none {h₀ h h' : Heap} {L : Addr} {m : Str → Option Value} {news : List (Addr × Obj)} (F : Fr h₀ L h m) (N : News h₀ L h news) (hk : Kept h h' []) : Fr h₀ L h' m ∧ News h₀ L h' news := by
  have k : ∀ b o, h.get? b = some o → h'.get? b = some o := fun b o e => hk b o e (by simp)
  exact ⟨⟨F.ns.at' fun o x => k _ o x, fun b o x => k b o (F.keep b o x), F.above⟩, fun p hp => ⟨k _ _ (N p hp).1, (N p hp).2⟩⟩
theorem pickF_len {i : Nat} {n : Int} : ∀ {rs : List Row}, (∀ r ∈ rs, r.ch.length = 1) → (pickF i n rs).length = 1
  | [], _ => by
    rw [pickF]
    split <;> decide
  | r :: rs, h => by
    rw [pickF]
    split
    · exact h r (.head _)
    · exact pickF_len fun r hr => h r (.tail _ hr)
theorem rowsOf_len : ∀ i, ∀ r ∈ rowsOf i, r.ch.length = 1 := by
  intro i
  match i with
  | 0 => decide
  | 1 => decide
  | 2 => decide
  | 3 => decide
  | 4 => decide
  | 5 => decide
  | 6 => decide
  | 7 => decide
  | 8 => decide
  | 9 => decide
  | i + 10 => intro r hr; cases hr
theorem signsF_len {n : Int} {i : Nat} : ∀ x ∈ signsF n i, x.length = 1 := fun x hx => by
  unfold signsF at hx
  obtain ⟨j, _, rfl⟩ := List.mem_map.mp hx
  exact pickF_len (rowsOf_len j)
theorem sum_ones : ∀ {l : List Str}, (∀ x ∈ l, x.length = 1) → (l.map (·.length)).sum = l.length
  | [], _ => rfl
  | x :: r, h => by
    rw [List.map_cons, List.sum_cons, h x (.head _), sum_ones fun y hy => h y (.tail _ hy), List.length_cons]; omega
theorem table_in {w : World} {g : Heap} (X : (hd.heap_39 w.params).In g) : g.IsTuple 123 tabItems.toArray := by
  have hk : hd.heap_39 w.params = hd.heap_39 w.params ∧ PySem.Challenge.rw_oc0087_01 = PySem.Challenge.rw_oc0087_01 := by
    k_fill
    exact ⟨rfl, rfl⟩
  exact ⟨_, X _ _ (by k_is), rfl, _, rfl⟩
theorem rows_in {w : World} {g : Heap} (X : (hd.heap_39 w.params).In g) {i : Nat} {x : Value} (hx : tabItems.toArray[i]? = some x) :
    ∃ ad, x = .ref ad ∧ g.IsTuple ad (refsOf (rowsOf i)).toArray ∧ RowsIn g (rowsOf i) ∧ (rowsOf i).length ≤ 7 ∧ i < 10 := by
  have hk : hd.heap_39 w.params = hd.heap_39 w.params ∧ PySem.Challenge.rw_oc0087_01 = PySem.Challenge.rw_oc0087_01 := by
    k_fill
    exact ⟨rfl, rfl⟩
  clear hk
  match i, hx with
  | 0, hx => refine ⟨98, (Option.some.inj hx).symm, ⟨_, X _ _ (by k_is), rfl, _, rfl⟩, ⟨⟨_, X _ _ (by k_is), rfl, _, rfl⟩, ⟨_, X _ _ (by k_is), rfl, _, rfl⟩, ⟨_, X _ _ (by k_is), rfl, _, rfl⟩, ⟨_, X _ _ (by k_is), rfl, _, rfl⟩, ⟨_, X _ _ (by k_is), rfl, _, rfl⟩, ⟨_, X _ _ (by k_is), rfl, _, rfl⟩, ⟨_, X _ _ (by k_is), rfl, _, rfl⟩, trivial⟩, by decide, by decide⟩
  | 1, hx => refine ⟨100, (Option.some.inj hx).symm, ⟨_, X _ _ (by k_is), rfl, _, rfl⟩, ⟨⟨_, X _ _ (by k_is), rfl, _, rfl⟩, trivial⟩, by decide, by decide⟩
  | 2, hx => refine ⟨102, (Option.some.inj hx).symm, ⟨_, X _ _ (by k_is), rfl, _, rfl⟩, ⟨⟨_, X _ _ (by k_is), rfl, _, rfl⟩, trivial⟩, by decide, by decide⟩
  | 3, hx => refine ⟨106, (Option.some.inj hx).symm, ⟨_, X _ _ (by k_is), rfl, _, rfl⟩, ⟨⟨_, X _ _ (by k_is), rfl, _, rfl⟩, ⟨_, X _ _ (by k_is), rfl, _, rfl⟩, ⟨_, X _ _ (by k_is), rfl, _, rfl⟩, trivial⟩, by decide, by decide⟩
  | 4, hx => refine ⟨108, (Option.some.inj hx).symm, ⟨_, X _ _ (by k_is), rfl, _, rfl⟩, ⟨⟨_, X _ _ (by k_is), rfl, _, rfl⟩, trivial⟩, by decide, by decide⟩
  | 5, hx => refine ⟨110, (Option.some.inj hx).symm, ⟨_, X _ _ (by k_is), rfl, _, rfl⟩, ⟨⟨_, X _ _ (by k_is), rfl, _, rfl⟩, trivial⟩, by decide, by decide⟩
  | 6, hx => refine ⟨114, (Option.some.inj hx).symm, ⟨_, X _ _ (by k_is), rfl, _, rfl⟩, ⟨⟨_, X _ _ (by k_is), rfl, _, rfl⟩, ⟨_, X _ _ (by k_is), rfl, _, rfl⟩, ⟨_, X _ _ (by k_is), rfl, _, rfl⟩, trivial⟩, by decide, by decide⟩
  | 7, hx => refine ⟨116, (Option.some.inj hx).symm, ⟨_, X _ _ (by k_is), rfl, _, rfl⟩, ⟨⟨_, X _ _ (by k_is), rfl, _, rfl⟩, trivial⟩, by decide, by decide⟩
  | 8, hx => refine ⟨118, (Option.some.inj hx).symm, ⟨_, X _ _ (by k_is), rfl, _, rfl⟩, ⟨⟨_, X _ _ (by k_is), rfl, _, rfl⟩, trivial⟩, by decide, by decide⟩
  | 9, hx => refine ⟨122, (Option.some.inj hx).symm, ⟨_, X _ _ (by k_is), rfl, _, rfl⟩, ⟨⟨_, X _ _ (by k_is), rfl, _, rfl⟩, ⟨_, X _ _ (by k_is), rfl, _, rfl⟩, ⟨_, X _ _ (by k_is), rfl, _, rfl⟩, trivial⟩, by decide, by decide⟩
  | i + 10, hx => simp [tabItems] at hx
end Mine
end
section
open PySem PySem.W PyProof.Rows PySem.Calls
set_option Elab.async false
set_option maxRecDepth 100000
set_option maxHeartbeats 8000000
namespace Mine
local macro_rules | `(tactic| walk_at "none 0") => `(tactic| fail)
local macro_rules | `(tactic| walk_at "none 1") => `(tactic| fail)
local macro_rules | `(tactic| walk_at "none 2") => `(tactic| fail)
local macro_rules | `(tactic| walk_at "none 3") => `(tactic| fail)
local macro_rules | `(tactic| walk_at "none 4") => `(tactic| fail)
local macro_rules | `(tactic| walk_at "none 5") => `(tactic| fail)
local macro_rules | `(tactic| walk_at "none 6") => `(tactic| fail)
local macro_rules | `(tactic| walk_at "none 7") => `(tactic| fail)
local macro_rules | `(tactic| walk_at "none 8") => `(tactic| fail)
local macro_rules | `(tactic| walk_at "none 9") => `(tactic| fail)
local macro_rules | `(tactic| walk_at "none 10") => `(tactic| fail)
local macro_rules | `(tactic| walk_at "none 11") => `(tactic| fail)
local macro_rules | `(tactic| walk_at "none 12") => `(tactic| fail)
local macro_rules | `(tactic| walk_at "none 13") => `(tactic| fail)
local macro_rules | `(tactic| walk_at "none 14") => `(tactic| fail)
local macro_rules | `(tactic| walk_at "none 15") => `(tactic| fail)
local macro_rules | `(tactic| walk_at "none 16") => `(tactic| fail)
local macro_rules | `(tactic| walk_at "none 17") => `(tactic| fail)
local macro_rules | `(tactic| walk_at "call ref") => `(tactic| (refine stop_intro ?_))
local macro_rules | `(tactic| walk_at "call type:enumerate") => `(tactic| (refine stop_intro ?_))
local macro_rules | `(tactic| walk_at "pyIter ref") => `(tactic| (refine stop_intro ?_))
local macro_rules | `(tactic| walk_at "FPost") => `(tactic| (with_reducible refine fpost_brk ?_; (try dsimp only)))
local macro_rules | `(tactic| walk_at "FPost2") => `(tactic| (with_reducible refine fpost2_brk ?_; (try dsimp only)))
local macro_rules | `(tactic| walk_at "exec For Tuple Name cons cons") => `(tactic| (k_dflt (refine wpAny_For ?_ (by intro _; rfl))))
local macro_rules | `(tactic| walk_at "exec For Tuple Call cons nil") => `(tactic| (k_dflt (refine wpAny_For ?_ (by intro _; rfl))))
theorem fmt {prog : Program} {w : World} {A : Around} {s : Shared} {h₀ : Heap} {loose : List Str} {mean : ExcName → Option Value} {mg mb : Str → Option Value}
  (X₀ : (hd.heap_39 w.params).In h₀) (T : Top hd.view_39 loose mean mg mb h₀) (st : h₀.StaysIn s.heap) (hroom : A.depth < recursionLimit) (n : Int) (un : Tok)
   : codeAny (model prog w) A (.call (.ref 90) ⟨[.int n un], []⟩) (fun r s' => match r with | .ok (.ret v) => (∃ u, v = .int (Builtin.bitAnd n 61440) u) ∧ Did s s' [] (fun _ => True) | _ => False) s := by
  have hk : hd.heap_39 w.params = hd.heap_39 w.params ∧ PySem.Challenge.rw_oc0087_01 = PySem.Challenge.rw_oc0087_01 := by
    k_fill
    exact ⟨rfl, rfl⟩
  clear hk
  refine' enter2 (K := hd.heap_39 w.params) (R := fun v s' => (∃ u, v = .int (Builtin.bitAnd n 61440) u) ∧ Did s s' [] (fun _ => True)) (binds := [("mode", .int n un)]) X₀ T st [] ?hn ?ho ?hcd (by omega) ?hb ?hl ?h ?c1 ?c2 ?c3 ?c4
  case ho => k_is
  case hcd => k_is
  case hn => intro p hp; cases hp
  case hb => exact BindsTo.of_eq rfl
  case hl => exact locs rfl
  case c4 => decide
  case c1 => exact rfl
  case c2 => exact rfl
  case c3 => exact rfl
  case h =>
    intro g L' h₁ F N X T st' lt kg
    k_steps
    exact endB_intro F N fun hk _ => ⟨⟨_, rfl⟩, _, _, rfl, hk, trivial⟩
structure FS where
  vs : List Value
  cs : List Str
  c : Nat
theorem fm {prog : Program} {w : World} {A : Around} {s : Shared} {h₀ : Heap} {loose : List Str} {mean : ExcName → Option Value} {mg mb : Str → Option Value}
  (X₀ : (hd.heap_39 w.params).In h₀) (T : Top hd.view_39 loose mean mg mb h₀) (st : h₀.StaysIn s.heap) (hroom : A.depth + 1 < recursionLimit) (hh : A.handled = none) (n : Int) (un : Tok)
   : codeAny (model prog w) A (.call (.ref 130) ⟨[.int n un], []⟩) (fun r s' => match r with | .ok (.ret v) => (∃ u, v = .str (Txt.join (Str.ofString "") (signsF n 10)) u) ∧ Did s s' [] (fun _ => True) | _ => False) s := by
  have hk : hd.heap_39 w.params = hd.heap_39 w.params ∧ PySem.Challenge.rw_oc0087_01 = PySem.Challenge.rw_oc0087_01 := by
    k_fill
    exact ⟨rfl, rfl⟩
  clear hk
  refine' enter2 (K := hd.heap_39 w.params) (R := fun v s' => (∃ u, v = .str (Txt.join (Str.ofString "") (signsF n 10)) u) ∧ Did s s' [] (fun _ => True)) (binds := [("mode", .int n un)]) X₀ T st [] ?hn ?ho ?hcd (by omega) ?hb ?hl ?h ?c1 ?c2 ?c3 ?c4
  case ho => k_is
  case hcd => k_is
  case hn => intro p hp; cases hp
  case hb => exact BindsTo.of_eq rfl
  case hl => exact locs rfl
  case c4 => decide
  case c1 => exact rfl
  case c2 => exact rfl
  case c3 => exact rfl
  case h =>
    intro g L' h₁ F N X T st' lt kg
    k_steps
    rename_i pD h2 l2 h3 F3 N3
    refine stop_elim ?_
    refine call_enum_tup (by obtain ⟨o, ho, r⟩ := table_in X; exact ⟨o, F3.keep _ _ ho, r⟩) fun h4 he4 hit4 hsz4 hk4 => ?_
    have hP3 : pD < h3.objs.size := Heap.lt_size (N3.get (.head _))
    have hL3 : L' < h3.objs.size := by obtain ⟨oL, _, _, hL, _⟩ := F3.ns; exact Heap.lt_size hL
    have hfr : ∀ a, h3.objs.size ≤ a → g.get? a = none := fun a ha => by
      cases q : g.get? a with
      | none => rfl
      | some o => exact absurd (Heap.lt_size (F3.keep _ _ q)) (Nat.not_lt.mpr ha)
    dsimp only at he4 hit4 hsz4 hk4 ⊢
    have F4 : Fr g L' h4 _ := ⟨F3.ns.at' fun o x => hk4 _ o x, fun b o x => hk4 b o (F3.keep b o x), F3.above⟩
    have N4 : News g L' h4 [(pD, listOf #[] 0)] := fun p hp => ⟨hk4 _ _ (N3 p hp).1, (N3 p hp).2⟩
    clear F3 N3 hk4
    generalize h3.objs.size = it at he4 hit4 hsz4 hP3 hL3 hfr
    refine wpAny_pyIter_enum he4 ?_
    refine for_en (σ := FS) (show (A.deeper _).handled = none from hh) (table_in X) (fun c => [(pD, listOf c.vs.toArray c.c)]) (fun c => [("mode", .int n un), ("perm", .ref pD)]) (fun i c => StrsAre c.vs c.cs ∧ c.cs = signsF n i) ⟨[], [], 0⟩
      F4 N4 he4 hit4 (Nat.succ_ne_self _) (hfr _ (Nat.le_succ _)) (hfr _ (Nat.le_refl _)) (Nat.ne_of_lt (Nat.lt_succ_of_lt hL3)) (Nat.ne_of_lt hL3) (fun _ h => h) ⟨rfl, rfl, trivial⟩ ⟨.nil, rfl⟩ ?_ ?_ ?_
    · intro c p hp
      cases List.mem_singleton.mp hp
      exact ⟨Nat.ne_of_lt (Nat.lt_succ_of_lt hP3), Nat.ne_of_lt hP3⟩
    · intro i c1 u1 h1 tk1 oe oi TT t x hx P1 F1 N1 hT1
      obtain ⟨vs1, cs1, cn1⟩ := c1
      obtain ⟨hS1, hc1⟩ := P1
      dsimp only [kstB] at F1 N1 hS1 hc1
      obtain ⟨ad, rfl, hta, hri, hr7, hi10⟩ := rows_in X hx
      have hvl : vs1.length = i := by rw [strs_length hS1, hc1, signsF_length]
      refine unpackN_ F1 N1 hT1 (show (A.deeper _).handled = none from hh) rfl rfl fun h5 F5 N5 => ?_
      clear F1 N1
      k_steps
      clear F5 N5
      rename Fr _ _ _ _ => F5
      rename News _ _ _ _ => N5
      refine stop_elim ?_
      refine iter_tp F5 N5 hta fun D h6 F6 N6 hltD hLD hneD => ?_
      clear F5 N5
      have hD1 : @LT.lt Nat _ (it + 1) D := hltD _ (.head _)
      have hD2 : @LT.lt Nat _ it D := hltD _ (.tail _ (.head _))
      have hD3 : @LT.lt Nat _ pD D := hltD _ (.tail _ (.tail _ (.head _)))
      have hP3' : @LT.lt Nat _ pD it := hP3
      dsimp only
      refine for_tp (σ := Unit) (show (A.deeper _).handled = none from hh) hta hneD (fun _ => [(it + 1, oe), (it, oi), (pD, listOf vs1.toArray cn1)]) (fun _ => [("mode", .int n un), ("perm", .ref pD), ("index", .int (i : Int) t)]) (fun j _ => pickF i n ((rowsOf i).drop j) = pickF i n (rowsOf i)) ()
        F6 N6 (.head _) (fun _ h => .tail _ h) ⟨rfl, rfl, rfl, trivial⟩ rfl (fun _ p hp => ?_) ?_ ?_
      · exact Nat.ne_of_lt (hltD p hp)
      · clear F6 N6
        intro j c2 u2 h2 tk2 o2 x2 hx2 P2 F2 N2
        dsimp only [kstB] at F2 N2 P2
        obtain ⟨r, hr, rfl⟩ := refs_get hx2
        have hrt : IsTup h2 r.a #[.int r.b r.tb, .str r.ch r.tc] := by obtain ⟨o, ho, q⟩ := hri.get hr; exact ⟨o, F2.keep _ _ ho, q⟩
        rw [pickF_drop hr] at P2
        refine unpackN_ F2 N2 hrt (show (A.deeper _).handled = none from hh) rfl rfl fun h7 F7 N7 => ?_
        clear F2 N2
        k_steps
        · refine stop_elim ?_
          clear F7 N7
          rename Fr _ _ _ _ => F'
          rename News _ _ _ _ => N'
          rename (i : Int) = 0 => hi0
          have hi0' : i = 0 := by omega
          refine use_call (fmt X T (fun b o e => F'.keep b o e) (by rw [depth_deeper]; omega) n un) ?_
          rintro v s' ⟨⟨uu, rfl⟩, h8, tk8, rfl, hk8, -⟩
          obtain ⟨F8, N8⟩ := after_none F' N' hk8
          clear F' N'
          dsimp only
          k_steps
          · rename Fr _ _ _ _ => F9
            rename News _ _ _ _ => N9
            try simp only [List.push_toArray] at N9
            refine fpost2_next ⟨_, cs1 ++ [r.ch], _⟩ F9 N9 (sub2 (by k_mem) (by k_mem)) (sub1 (by k_mem)) ⟨rfl, rfl, trivial⟩ ⟨strs_append hS1, ?_⟩
            rw [signsF_succ, hc1, ← P2, if_pos (by rw [hi0', condF_0]; exact decide_eq_true (by assumption))]
          · rename Fr _ _ _ _ => F9
            rename News _ _ _ _ => N9
            refine fpost_next () F9 N9 (.head _) (fun _ h => .tail _ h) ⟨rfl, rfl, rfl, trivial⟩ ?_
            rw [← P2, if_neg (by rw [hi0', condF_0]; simpa using (by assumption))]
        · rename Fr _ _ _ _ => F9
          rename News _ _ _ _ => N9
          rename (i : Int) ≠ 0 => hi0
          have hi0' : i ≠ 0 := by omega
          try simp only [List.push_toArray] at N9
          refine fpost2_next ⟨_, cs1 ++ [r.ch], _⟩ F9 N9 (sub2 (by k_mem) (by k_mem)) (sub1 (by k_mem)) ⟨rfl, rfl, trivial⟩ ⟨strs_append hS1, ?_⟩
          rw [signsF_succ, hc1, ← P2, if_pos (by rw [condF_1 hi0']; exact decide_eq_true (by assumption))]
        · rename Fr _ _ _ _ => F9
          rename News _ _ _ _ => N9
          rename (i : Int) ≠ 0 => hi0
          have hi0' : i ≠ 0 := by omega
          refine fpost_next () F9 N9 (.head _) (fun _ h => .tail _ h) ⟨rfl, rfl, rfl, trivial⟩ ?_
          rw [← P2, if_neg (by rw [condF_1 hi0']; simpa using (by assumption))]
      · clear F6 N6
        intro c2 u2 h2 tk2 P2 F2 N2
        dsimp only [kstB] at F2 N2 P2
        rw [List.drop_eq_nil_of_le (by simp [refsOf])] at P2
        k_steps
        · rename Fr _ _ _ _ => F9
          rename News _ _ _ _ => N9
          try simp only [List.push_toArray] at N9
          refine fpost2_next ⟨_, _, _⟩ F9 N9 (sub2 (by k_mem) (by k_mem)) (sub1 (by k_mem)) ⟨rfl, rfl, trivial⟩ ⟨strs_append hS1, ?_⟩
          dsimp only
          rw [signsF_succ, hc1, ← P2, pickF, if_pos (by omega)]
        · rename Fr _ _ _ _ => F9
          rename News _ _ _ _ => N9
          try simp only [List.push_toArray] at N9
          refine fpost2_next ⟨_, _, _⟩ F9 N9 (sub2 (by k_mem) (by k_mem)) (sub1 (by k_mem)) ⟨rfl, rfl, trivial⟩ ⟨strs_append hS1, ?_⟩
          dsimp only
          rw [signsF_succ, hc1, ← P2, pickF, if_neg (by omega)]
    · intro c1 u1 h1 tk1 P1 F1 N1
      obtain ⟨vs1, cs1, cn1⟩ := c1
      obtain ⟨hS1, hc1⟩ := P1
      dsimp only [kstB] at F1 N1 hS1 hc1
      k_steps
      have hl1 : (signsF n 10).length = 10 := signsF_length n 10
      have hc2 : cs1 = signsF n 10 := hc1
      subst hc2
      refine join_list (N1.isList (.head _)) hS1 ?_ fun t' k => ?_
      · rw [sum_ones signsF_len, hl1]; decide
      · k_steps
        exact endB_intro F1 N1 fun hk _ => ⟨⟨_, rfl⟩, _, _, rfl, hk, trivial⟩
end Mine
end
section
open PySem PySem.W PyProof.Rows PySem.Calls
open PySem.Builtin.Re
set_option Elab.async false
set_option maxRecDepth 100000
set_option maxHeartbeats 8000000
namespace Mine
open PySem.Sre (M)
theorem runFor_done {m : M} (h : m.outcome.isSome = true) : ∀ k, m.runFor k = m
  | 0 => rfl
  | k + 1 => by rw [M.runFor, if_pos h]
theorem runFor_add (m : M) : ∀ a b, m.runFor (a + b) = (m.runFor a).runFor b
  | 0, b => by rw [Nat.zero_add]; rfl
  | a + 1, b => by
    rw [Nat.succ_add, M.runFor, M.runFor]
    split
    · rename_i h; rw [runFor_done h]
    · exact runFor_add _ a b
section
variable {prog : Program} {w : World} {A : Around} {E : Value → Shared → Prop} {s : Shared}
theorem drive_ {Q : M → Shared → Prop} {m' : M} (hd : m'.outcome.isSome = true) (hQ : Q m' s) : ∀ (turns k : Nat) (m : M), k ≤ 4 * turns → 0 < turns → m.runFor k = m' → wpAny (model prog w) A (reDrive turns m) Q E s
  | 0, _, _, _, h0, _ => absurd h0 (Nat.lt_irrefl 0)
  | turns + 1, k, m, hk, _, e => by
    show wpAny _ _ (if (m.runFor 4).outcome.isSome = true then pure (m.runFor 4) else do rule "sre.turn"; reDrive turns (m.runFor 4)) _ _ _
    by_cases h4 : k ≤ 4
    · have e4 : m.runFor 4 = m' := by
        rw [show 4 = k + (4 - k) from by omega, runFor_add, e, runFor_done hd]
      rw [e4, if_pos hd]
      exact wpAny_pure hQ
    · by_cases hdn : (m.runFor 4).outcome.isSome = true
      · have e4 : m.runFor 4 = m' := by
          rw [← e, show k = 4 + (k - 4) from by omega, runFor_add, runFor_done hdn]
        rw [if_pos hdn, e4]
        exact wpAny_pure hQ
      · rw [if_neg hdn]
        refine wpAny_bind (wpAny_rule ?_)
        exact drive_ hd hQ turns (k - 4) _ (by omega) (by omega) (by rw [← runFor_add, ← e, show 4 + (k - 4) = k from by omega])
theorem rules_ {Q : PUnit → Shared → Prop} (f : Nat → Bool) (g : Nat → String) (l : List Nat) (h : Q PUnit.unit s) : wpAny (model prog w) A (forIn l PUnit.unit fun i (_ : PUnit) => if f i = true then do rule (g i); pure (ForInStep.yield PUnit.unit) else pure (ForInStep.yield PUnit.unit)) Q E s := by
  induction l with
  | nil => exact wpAny_pure h
  | cons a r ih =>
    rw [List.forIn_cons]
    refine wpAny_bind (wpAny_mono (Q := fun x s' => x = ForInStep.yield PUnit.unit ∧ s' = s) ?_ ?_ fun _ _ y => y)
    · by_cases hf : f a = true
      · simp only [hf, if_true]
        exact wpAny_bind (wpAny_rule (wpAny_pure ⟨rfl, rfl⟩))
      · simp only [hf]
        exact wpAny_pure ⟨rfl, rfl⟩
    · rintro x s' ⟨rfl, rfl⟩
      exact ih
theorem runToEnd_ {Q : Option M → Shared → Prop} {m m' : M} (k : Nat) (hk : k ≤ 1000000) (e : m.runFor k = m') (h : (m'.outcome = some .matched ∧ Q (some m') s) ∨ (m'.outcome = some .failed ∧ Q none s)) : wpAny (model prog w) A (reRunToEnd m) Q E s := by
  unfold reRunToEnd
  have hd : m'.outcome.isSome = true := by rcases h with h | h <;> rw [h.1] <;> rfl
  refine wpAny_bind (drive_ hd ?_ (2 ^ 64) k m (by omega) (by decide) e)
  refine wpAny_bind (rules_ (fun i => m'.seen.has i) (fun i => Sre.names.getD i "") _ ?_)
  rcases h with ⟨h1, h2⟩ | ⟨h1, h2⟩
  · rw [h1]; exact wpAny_pure h2
  · rw [h1]; exact wpAny_pure h2
end
end Mine
end
section
open PySem PySem.W PyProof.Rows PySem.Calls
open PySem.Builtin.Re
set_option Elab.async false
set_option maxRecDepth 100000
set_option maxHeartbeats 4000000
namespace Mine
open PySem.Sre (M)
def C1 : Array Nat := #[14, 4, 0, 1, 1, 6, 1, 16, 46, 1]
/-- the machine about to try the place p -/
def a1 (T : Array Nat) (n p : Nat) (first : Bool) (seen : Sre.Seen) : M :=
  { code := C1, text := T, lim := n, start := p, lastStart := n, pc := 5, pos := p, handed := p, outermost := first, marks := #[], frames := [{ wait := .nextStart, pc := 5, pos := p, outermost := first }], weight := 1, seen }
theorem a1_at (T : Array Nat) (n p : Nat) (first : Bool) (seen : Sre.Seen) : (a1 T n p first seen).step = (let m : M := { a1 T n p first seen with seen := (seen.add 6).add (43 + 1) }; if (p == 0 || T.getD (p - 1) 0 == 10) = true then { m with pc := 7 } else m.say false) := rfl
theorem a1_start (T : Array Nat) (n p : Nat) (h : p < n) : Sre.forSearch C1 T 0 p n false = a1 T n p true (({} : Sre.Seen).add 14) := by
  unfold Sre.forSearch
  have e : (decide (p > n) || decide (n - p < (Sre.header C1).1)) = false := by
    have : (Sre.header C1).1 = 1 := rfl
    rw [this]; simp; omega
  rw [if_neg (by rw [e]; decide)]
  rfl
def b1 (T : Array Nat) (n p : Nat) (first : Bool) (seen : Sre.Seen) : M := { a1 T n p first seen with pc := 7 }
def c1 (T : Array Nat) (n p : Nat) (first : Bool) (seen : Sre.Seen) : M := { a1 T n p first seen with pc := 9, pos := p + 1 }
/-- the machine after a no, at pc -/
def no1 (T : Array Nat) (n p : Nat) (first : Bool) (seen : Sre.Seen) (pc : Nat) : M := { a1 T n p first seen with pc := pc, answer := some false }
theorem a1_yes {T : Array Nat} {n p : Nat} {first : Bool} {seen : Sre.Seen} (h : (p == 0 || T.getD (p - 1) 0 == 10) = true) : (a1 T n p first seen).step = b1 T n p first ((seen.add 6).add (43 + 1)) := by
  rw [a1_at]; dsimp only; rw [if_pos h]; rfl
theorem a1_no {T : Array Nat} {n p : Nat} {first : Bool} {seen : Sre.Seen} (h : (p == 0 || T.getD (p - 1) 0 == 10) = false) : (a1 T n p first seen).step = no1 T n p first ((seen.add 6).add (43 + 1)) 5 := by
  rw [a1_at]; dsimp only; rw [h]; rfl
theorem b1_out {T : Array Nat} {n p : Nat} {first : Bool} {seen : Sre.Seen} (h : n ≤ p) : (b1 T n p first seen).step = no1 T n p first (seen.add 16) 7 := by
  show (if p ≥ n then _ else _) = _
  rw [if_pos h]; rfl
theorem b1_yes {T : Array Nat} {n p : Nat} {first : Bool} {seen : Sre.Seen} (hp : p < n) (h : (T.getD p 0 == 46) = true) : (b1 T n p first seen).step = c1 T n p first (seen.add 16) := by
  show (if p ≥ n then _ else match (Except.ok (T.getD p 0 == 46, seen.add 16) : Except String (Bool × Sre.Seen)) with | .error why => _ | .ok (false, seen) => _ | .ok (true, seen) => _) = _
  rw [if_neg (by omega), h]; rfl
theorem b1_no {T : Array Nat} {n p : Nat} {first : Bool} {seen : Sre.Seen} (hp : p < n) (h : (T.getD p 0 == 46) = false) : (b1 T n p first seen).step = no1 T n p first (seen.add 16) 7 := by
  show (if p ≥ n then _ else match (Except.ok (T.getD p 0 == 46, seen.add 16) : Except String (Bool × Sre.Seen)) with | .error why => _ | .ok (false, seen) => _ | .ok (true, seen) => _) = _
  rw [if_neg (by omega), h]; rfl
theorem no1_next {T : Array Nat} {n p : Nat} {first : Bool} {seen : Sre.Seen} {pc : Nat} (h : p < n) : (no1 T n p first seen pc).step = a1 T n (p + 1) false seen := by
  show (if p < n then _ else _) = _
  rw [if_pos h]; rfl
theorem no1_end {T : Array Nat} {n p : Nat} {first : Bool} {seen : Sre.Seen} {pc : Nat} (h : ¬ p < n) : ((no1 T n p first seen pc).step.step).outcome = some .failed := by
  have e : (no1 T n p first seen pc).step = { no1 T n p first seen pc with frames := [], weight := 0, pc := 5, answer := some false } := by
    show (if p < n then _ else _) = _
    rw [if_neg h]; rfl
  rw [e]; rfl
theorem c1_hit {T : Array Nat} {n p : Nat} {first : Bool} {seen : Sre.Seen} : ((c1 T n p first seen).step.step.step).outcome = some .matched ∧ ((c1 T n p first seen).step.step.step).start = p ∧ ((c1 T n p first seen).step.step.step).handed = p + 1 := by
  cases first <;> exact ⟨rfl, rfl, rfl⟩
def dot (T : Array Nat) (p : Nat) : Bool := (p == 0 || T.getD (p - 1) 0 == 10) && (T.getD p 0 == 46)
theorem run_step {m : M} (h : m.outcome = none) (k : Nat) : m.runFor (k + 1) = m.step.runFor k := by
  rw [M.runFor, if_neg (by rw [h]; decide)]
theorem s1_step {T : Array Nat} {n p : Nat} {first : Bool} {seen : Sre.Seen} (hp : p < n) (h : dot T p = false) : ∃ k seen', k ≤ 3 ∧ (a1 T n p first seen).runFor k = a1 T n (p + 1) false seen' := by
  unfold dot at h
  cases h1 : (p == 0 || T.getD (p - 1) 0 == 10) with
  | false => exact ⟨2, _, by omega, by rw [run_step rfl, a1_no h1, run_step rfl, no1_next hp]; rfl⟩
  | true =>
    rw [h1, Bool.true_and] at h
    exact ⟨3, _, by omega, by rw [run_step rfl, a1_yes h1, run_step rfl, b1_no hp h, run_step rfl, no1_next hp]; rfl⟩
theorem s1_hit {T : Array Nat} {n p : Nat} {first : Bool} {seen : Sre.Seen} (hp : p < n) (h : dot T p = true) : ∃ m', (a1 T n p first seen).runFor 5 = m' ∧ m'.outcome = some .matched ∧ m'.start = p ∧ m'.handed = p + 1 := by
  unfold dot at h
  obtain ⟨h1, h2⟩ := Bool.and_eq_true_iff.mp h
  refine ⟨_, rfl, ?_⟩
  rw [run_step rfl, a1_yes h1, run_step rfl, b1_yes hp h2]
  have e : (c1 T n p first (((seen.add 6).add (43 + 1)).add 16)).runFor 3 = (c1 T n p first (((seen.add 6).add (43 + 1)).add 16)).step.step.step := by
    cases first <;> rfl
  rw [e]
  exact c1_hit
theorem s1_end {T : Array Nat} {n : Nat} {first : Bool} {seen : Sre.Seen} : ∃ k m', k ≤ 4 ∧ (a1 T n n first seen).runFor k = m' ∧ m'.outcome = some .failed := by
  cases h1 : (n == 0 || T.getD (n - 1) 0 == 10) with
  | false =>
    refine ⟨3, _, by omega, rfl, ?_⟩
    rw [run_step rfl, a1_no h1, run_step rfl, run_step (by show (if n < n then _ else _ : M).outcome = none; rw [if_neg (Nat.lt_irrefl n)]; rfl)]
    exact no1_end (Nat.lt_irrefl n)
  | true =>
    refine ⟨4, _, by omega, rfl, ?_⟩
    rw [run_step rfl, a1_yes h1, run_step rfl, b1_out (Nat.le_refl n), run_step rfl, run_step (by show (if n < n then _ else _ : M).outcome = none; rw [if_neg (Nat.lt_irrefl n)]; rfl)]
    exact no1_end (Nat.lt_irrefl n)
/-- the first dot at a line's start, at or behind p -/
def nextDot (T : Array Nat) (n : Nat) : Nat → Nat → Option Nat
  | 0, _ => none
  | f + 1, p => if p < n then (if dot T p then some p else nextDot T n f (p + 1)) else none
theorem s1_search {T : Array Nat} {n : Nat} : ∀ (f p : Nat) (first : Bool) (seen : Sre.Seen), p ≤ n → n - p < f → ∃ k m', k ≤ 3 * (n - p) + 5 ∧ (a1 T n p first seen).runFor k = m' ∧
    (match nextDot T n f p with | some q => m'.outcome = some .matched ∧ m'.start = q ∧ m'.handed = q + 1 | none => m'.outcome = some .failed)
  | 0, p, _, _, _, h => absurd h (Nat.not_lt_zero _)
  | f + 1, p, first, seen, hp, hf => by
    rw [nextDot]
    by_cases hlt : p < n
    · rw [if_pos hlt]
      cases hd : dot T p with
      | true =>
        obtain ⟨m', e, q⟩ := s1_hit (seen := seen) (first := first) hlt hd
        exact ⟨5, m', by omega, e, by simpa using q⟩
      | false =>
        obtain ⟨k, seen', hk, e⟩ := s1_step (seen := seen) (first := first) hlt hd
        obtain ⟨k', m', hk', e', q⟩ := s1_search f (p + 1) false seen' hlt (by omega)
        exact ⟨k + k', m', by omega, by rw [runFor_add, e, e'], by simpa using q⟩
    · have : p = n := by omega
      subst this
      obtain ⟨k, m', hk, e, q⟩ := s1_end (T := T) (n := p) (first := first) (seen := seen)
      exact ⟨k, m', by omega, e, by simpa using q⟩
end Mine
end
section
open PySem PySem.W PyProof.Rows PySem.Calls
open PySem.Builtin.Re
set_option Elab.async false
set_option maxRecDepth 100000
set_option maxHeartbeats 4000000
namespace Mine
open PySem.Sre (M)
def C2 : Array Nat := #[14, 9, 4, 1, 2, 16, 10, 16, 13, 0, 7, 7, 16, 13, 16, 10, 15, 18, 5, 16, 10, 15, 13, 11, 16, 13, 5, 5, 0, 16, 10, 1, 15, 2, 0, 1]
def f0 (q : Nat) (first : Bool) : Sre.Frame := { wait := .nextStart, pc := 10, pos := q, outermost := first }
def f1 (q : Nat) (first : Bool) (pc : Nat) : Sre.Frame := { wait := .nextBranch, pc := pc, pos := q, outermost := first }
def a2 (T : Array Nat) (n q : Nat) (first : Bool) (seen : Sre.Seen) : M :=
  { code := C2, text := T, lim := n, start := q, lastStart := n, pc := 10, pos := q, handed := q, outermost := first, marks := #[], frames := [f0 q first], weight := 1, seen }
def b2 (T : Array Nat) (n q : Nat) (first : Bool) (seen : Sre.Seen) : M := { a2 T n q first seen with frames := [f1 q first 11, f0 q first], weight := 2, pc := 12 }
def c2 (T : Array Nat) (n q : Nat) (first : Bool) (seen : Sre.Seen) : M := { b2 T n q first seen with answer := some false }
def d2 (T : Array Nat) (n q : Nat) (first : Bool) (seen : Sre.Seen) : M := { a2 T n q first seen with frames := [f1 q first 18, f0 q first], weight := 2, pc := 19 }
def e2 (T : Array Nat) (n q : Nat) (first : Bool) (seen : Sre.Seen) : M := { d2 T n q first seen with pc := 21, pos := q + 1 }
theorem a2_step {T : Array Nat} {n q : Nat} {first : Bool} {seen : Sre.Seen} : (a2 T n q first seen).step = b2 T n q first (seen.add 7) := rfl
theorem b2_step {T : Array Nat} {n q : Nat} {first : Bool} {seen : Sre.Seen} (hp : q < n) (h : (T.getD q 0 == 13) = false) : (b2 T n q first seen).step = c2 T n q first (seen.add 16) := by
  show (if q ≥ n then _ else match (Except.ok (T.getD q 0 == 13, seen.add 16) : Except String (Bool × Sre.Seen)) with | .error why => _ | .ok (false, seen) => _ | .ok (true, seen) => _) = _
  rw [if_neg (by omega), h]; rfl
theorem c2_step {T : Array Nat} {n q : Nat} {first : Bool} {seen : Sre.Seen} : (c2 T n q first seen).step = d2 T n q first seen := rfl
theorem d2_step {T : Array Nat} {n q : Nat} {first : Bool} {seen : Sre.Seen} (hp : q < n) (h : (T.getD q 0 == 10) = true) : (d2 T n q first seen).step = e2 T n q first (seen.add 16) := by
  show (if q ≥ n then _ else match (Except.ok (T.getD q 0 == 10, seen.add 16) : Except String (Bool × Sre.Seen)) with | .error why => _ | .ok (false, seen) => _ | .ok (true, seen) => _) = _
  rw [if_neg (by omega), h]; rfl
theorem e2_hit {T : Array Nat} {n q : Nat} {first : Bool} {seen : Sre.Seen} : ((e2 T n q first seen).runFor 5).outcome = some .matched ∧ ((e2 T n q first seen).runFor 5).start = q ∧ ((e2 T n q first seen).runFor 5).handed = q + 1 := by
  cases first <;> exact ⟨by kernel_rfl, by kernel_rfl, by kernel_rfl⟩
theorem s2_hit {T : Array Nat} {n q : Nat} {first : Bool} {seen : Sre.Seen} (hp : q < n) (h : T.getD q 0 = 10) : ∃ m', (a2 T n q first seen).runFor 9 = m' ∧ m'.outcome = some .matched ∧ m'.start = q ∧ m'.handed = q + 1 := by
  refine ⟨_, rfl, ?_⟩
  rw [run_step rfl, a2_step, run_step rfl, b2_step hp (by rw [h]; decide), run_step rfl, c2_step, run_step rfl, d2_step hp (by rw [h]; decide)]
  exact e2_hit
theorem inSet_10 {seen : Sre.Seen} : ∃ seen', Sre.inSet C2 10 C2.size 5 true seen = .ok (true, seen') := ⟨_, rfl⟩
theorem inSet_no {c : Nat} {seen : Sre.Seen} (h1 : (c == 10) = false) (h2 : (c == 13) = false) : ∃ seen', Sre.inSet C2 c C2.size 5 true seen = .ok (false, seen') := by
  refine ⟨((seen.add 16).add 16).add 0, ?_⟩
  show (if (c == 10) = true then _ else (if (c == 13) = true then _ else _)) = _
  rw [h1, h2]
  rfl
/-- the first line end at or behind p -/
def nextNl (T : Array Nat) (n : Nat) : Nat → Nat → Option Nat
  | 0, _ => none
  | f + 1, p => if p < n then (if T.getD p 0 = 10 then some p else nextNl T n f (p + 1)) else none
theorem admitted_ {m : M} {T : Array Nat} {n : Nat} (hc : m.code = C2) (ht : m.text = T) (hn : m.lim = n) (no13 : ∀ j, T.getD j 0 ≠ 13) : ∀ (f p : Nat) (seen : Sre.Seen), ∃ seen', m.admitted f p seen = .ok (nextNl T n f p, seen')
  | 0, p, seen => ⟨seen, rfl⟩
  | f + 1, p, seen => by
    rw [nextNl, M.admitted]
    by_cases hp : p < n
    · rw [if_pos hp, if_neg (by rw [hn]; omega), hc, ht]
      by_cases h10 : T.getD p 0 = 10
      · rw [if_pos h10, h10]
        obtain ⟨seen', e⟩ := inSet_10 (seen := seen)
        rw [e]
        exact ⟨_, rfl⟩
      · rw [if_neg h10]
        obtain ⟨seen', e⟩ := inSet_no (c := T.getD p 0) (seen := seen) (by simpa using h10) (by simpa using no13 p)
        rw [e]
        exact admitted_ hc ht hn no13 f (p + 1) seen'
    · rw [if_neg hp, if_pos (by rw [hn]; omega)]
      exact ⟨_, rfl⟩
theorem nextNl_spec {T : Array Nat} {n : Nat} : ∀ {f p q : Nat}, nextNl T n f p = some q → p ≤ q ∧ q < n ∧ T.getD q 0 = 10
  | 0, _, _, h => by cases h
  | f + 1, p, q, h => by
    rw [nextNl] at h
    split at h
    · split at h
      · cases h; exact ⟨Nat.le_refl _, by assumption, by assumption⟩
      · have := nextNl_spec h; exact ⟨by omega, this.2⟩
    · cases h
theorem s2_search {T : Array Nat} {n p : Nat} (hp : p ≤ n) (no13 : ∀ j, T.getD j 0 ≠ 13) : ∃ k m', k ≤ 20 ∧ (Sre.forSearch C2 T 0 p n false).runFor k = m' ∧
    (match nextNl T n (n + 1 - p) p with | some q => m'.outcome = some .matched ∧ m'.start = q ∧ m'.handed = q + 1 | none => m'.outcome = some .failed) := by
  unfold Sre.forSearch
  have hh : (Sre.header C2).1 = 1 := rfl
  by_cases hlt : p < n
  · have e : (decide (p > n) || decide (n - p < (Sre.header C2).1)) = false := by rw [hh]; simp; omega
    rw [if_neg (by rw [e]; decide)]
    have hfs : ∀ m : M, m.code = C2 → m.hasFirstSet = true := fun m h => by unfold M.hasFirstSet; rw [h]; rfl
    have em : Sre.forSearch C2 T 0 p n false = M.attemptFrom { code := C2, text := T, lim := n, start := p, lastStart := n, pc := 10, pos := p, handed := p, marks := #[], seen := ({} : Sre.Seen).add 14 } p true := by
      unfold Sre.forSearch
      rw [if_neg (by rw [e]; decide)]
      kernel_rfl
    have em' := em
    unfold Sre.forSearch at em'
    rw [if_neg (by rw [e]; decide)] at em'
    rw [em']
    obtain ⟨seen', ea⟩ := admitted_ (T := T) (n := n) (m := { code := C2, text := T, lim := n, start := p, lastStart := n, pc := 10, pos := p, handed := p, marks := #[], seen := ({} : Sre.Seen).add 14 }) rfl rfl rfl no13 (n + 1 - p) p (({} : Sre.Seen).add 14)
    unfold M.attemptFrom
    rw [if_neg (by rw [hfs _ rfl]; decide)]
    dsimp only
    rw [ea]
    cases hq : nextNl T n (n + 1 - p) p with
    | none => exact ⟨1, _, by omega, rfl, rfl⟩
    | some q =>
      obtain ⟨h1, h2, h3⟩ := nextNl_spec hq
      obtain ⟨m', e9, r⟩ := s2_hit (T := T) (n := n) (q := q) (first := true) (seen := seen') h2 h3
      exact ⟨9, m', by omega, e9, r⟩
  · have : p = n := by omega
    subst this
    have e : (decide (p > p) || decide (p - p < (Sre.header C2).1)) = true := by rw [hh]; simp
    rw [if_pos e]
    have en : nextNl T p (p + 1 - p) p = none := by
      rw [show p + 1 - p = 0 + 1 from by omega, nextNl, if_neg (Nat.lt_irrefl p)]
    rw [en]
    exact ⟨1, _, by omega, rfl, rfl⟩
end Mine
end
section
open PySem PySem.W PyProof.Rows PySem.Calls
open PySem.Builtin.Re
set_option Elab.async false
set_option maxRecDepth 100000
set_option maxHeartbeats 4000000
namespace Mine
open PySem.Sre (M)
section
variable {prog : Program} {w : World} {A : Around} {E : Value → Shared → Prop} {s : Shared}
/-- a compiled pattern stands at a, its code at c -/
def PatAt (h : Heap) (a : Addr) (C : Array Nat) : Prop :=
  ∃ o c oc fs its n, h.get? a = some o ∧ o.data = .fields fs ∧ o.cls = .type "re.Pattern" ∧ fs.getD 2 .none = rawInt 0 ∧ fs.getD 5 .none = .ref c ∧ fs.getD 6 .none = rawInt 0 ∧ h.get? c = some oc ∧ oc.data = .seq its n ∧ oc.cls = .type "tuple" ∧ (its.map reRawOf).map (·.toNat) = C
theorem target_ {a : Addr} {C : Array Nat} {x : Str} {t : Tok} {Q : ReTarget → Shared → Prop} (hp : PatAt s.heap a C)
    (h : Q { pattern := .ref a, string := .str x t, code := C, text := x.cps, kind := 0, groups := 0, pos := 0, lim := x.cps.size } s) : wpAny (model prog w) A (reWholeTarget (.ref a) (.str x t)) Q E s := by
  obtain ⟨o, c, oc, fs, its, n, ho, hd, hc, h2, h5, h6, hoc, hdc, hcc, hC⟩ := hp
  unfold reWholeTarget
  refine wpAny_bind (wpAny_fieldsOf ho hd ?_)
  refine wpAny_bind (wpAny_of_eq (a := (x.cps, 0)) rfl ?_)
  dsimp only
  rw [h6, h5, h2]
  refine wpAny_bind (wpAny_of_eq (a := ()) rfl ?_)
  unfold reRawItems
  refine wpAny_bind (wpAny_bind (wpAny_seqItems hoc hdc (wpAny_pure ?_)))
  refine wpAny_pure ?_
  rw [show ((some its).getD #[]) = its from rfl, hC]
  exact h
theorem push_ {D : Addr} {vs : List Value} {n : Nat} {x : Value} {Q : Unit → Shared → Prop} (ho : s.heap.get? D = some (listOf vs.toArray n)) (hz : vs.length ≤ 1000)
    (h : ∀ h', Heap.SameBut D s.heap h' → h'.get? D = some (listOf (vs ++ [x]).toArray (n + 1)) → Q () { s with heap := h' }) : wpAny (model prog w) A (updateSeq D (·.push x)) Q E s := by
  refine wpAny_updateSeq ho rfl (h _ (Heap.SameBut.update ..) ?_) (by rw [List.size_toArray, PySem.sizeLine_eq]; omega) (by rw [Array.size_push, List.size_toArray, PySem.sizeLine_eq]; omega)
  rw [Heap.get?_update_self _ ho (by rw [mapSeq_push]; rfl), mapSeq_push]
  simp
theorem slice_ {T : Array Nat} {b e : Nat} {Q : Value → Shared → Prop} (hz : T.size ≤ 1000) (h : ∀ t k, Q (.str ⟨T.extract b e⟩ t) { s with toks := k }) : wpAny (model prog w) A (reSlice T 0 b e) Q E s := by
  unfold reSlice
  rw [if_pos (by rfl)]
  unfold mkStr
  have : (Str.mk (T.extract b e)).length ≤ 1000 := by
    show (T.extract b e).size ≤ 1000
    rw [Array.size_extract]; omega
  rw [if_neg (by rw [PySem.sizeLine_eq]; omega)]
  exact wpAny_bind (wpAny_fresh (wpAny_pure (h _ _)))
end
/-- what the substitution leaves from the place p on -/
def subP (T : Array Nat) (n : Nat) (r : Str) (next : Nat → Option Nat) : Nat → Nat → List Str
  | 0, _ => []
  | f + 1, p => match next p with
    | some q => (if p < q then [⟨T.extract p q⟩] else []) ++ (r :: subP T n r next f (q + 1))
    | none => if p < n then [⟨T.extract p n⟩] else []
end Mine
end
section
open PySem PySem.W PyProof.Rows PySem.Calls
open PySem.Builtin.Re
set_option Elab.async false
set_option maxRecDepth 100000
set_option maxHeartbeats 4000000
namespace Mine
open PySem.Sre (M)
/-- one search of the code C upon T, from any place on, is told by next -/
def Finds (C T : Array Nat) (n : Nat) (next : Nat → Option Nat) : Prop :=
  ∀ p, p ≤ n → (∃ k m', k ≤ 1000000 ∧ (Sre.forSearch C T 0 p n false).runFor k = m' ∧ (match next p with | some q => m'.outcome = some .matched ∧ m'.start = q ∧ m'.handed = q + 1 | none => m'.outcome = some .failed)) ∧
    ∀ q, next p = some q → p ≤ q ∧ q < n
theorem entry_subloop : entryFor table "re.Pattern.sub.loop" = some Builtin.«re.Pattern.sub.loop» := entryFor_of_tree (by kernel_rfl)
theorem plain_subloop : plainId "re.Pattern.sub.loop" = true := by decide +kernel
section
variable {prog : Program} {w : World} {A : Around} {E : Value → Shared → Prop} {s : Shared}
theorem PatAt.keep {h h' : Heap} {a : Addr} {C : Array Nat} {D : Addr} (hp : PatAt h a C) (hs : ∀ b o, b ≠ D → h.get? b = some o → h'.get? b = some o) {oD : Obj} (hD : h.get? D = some oD) (hl : oD.cls = .type "list") : PatAt h' a C := by
  obtain ⟨o, c, oc, fs, its, n, ho, hd, hc, h2, h5, h6, hoc, hdc, hcc, hC⟩ := hp
  refine ⟨o, c, oc, fs, its, n, hs a o ?_ ho, hd, hc, h2, h5, h6, hs c oc ?_ hoc, hdc, hcc, hC⟩
  · rintro rfl
    rw [hD] at ho; cases ho; rw [hl] at hc; simp at hc
  · rintro rfl
    rw [hD] at hoc; cases hoc; rw [hl] at hcc; simp at hcc
theorem join_nil : Txt.join (Str.ofString "") [] = Str.ofString "" := by rfl
theorem ejoin {T : Array Nat} : (⟨T.extract 0 0⟩ : Str) = Str.ofString "" := by
  have : T.extract 0 0 = #[] := by simp
  rw [this]; rfl
theorem sub_kept {h h' : Heap} {D : Addr} (hs : Heap.SameBut D h h') : Kept h h' [D] := fun b o e q => hs.extBut b o (fun x => q (by rw [x]; exact .head _)) e
/-- the end of a substitution: the pieces joined -/
theorem fin_ {D : Addr} {T : Array Nat} {vs : List Value} {cs : List Str} {n : Nat} {Q : Fin → Shared → Prop} {X : Value → Sem Fin} (hT : T.size ≤ 100) (ho : s.heap.get? D = some (listOf vs.toArray n)) (hS : StrsAre vs cs) (hz : (cs.map (·.length)).sum ≤ 10000)
    (h : ∀ u k, Q (.done (.ret (.str (Txt.join (Str.ofString "") cs) u))) { s with toks := k }) :
    wpAny (model prog w) A (do
      let joiner ← reSlice T 0 0 0
      let __do_lift ← seqItems? (Value.ref D)
      if (__do_lift.getD #[]).isEmpty = true then do
          let text ← pure joiner
          if false = true then X text else ret text
        else do
          let text ← call (Value.builtin (if (0 == 0) = true then "str.join" else "bytes.join")) [joiner, Value.ref D]
          if false = true then X text else ret text) Q E s := by
  refine wpAny_bind (slice_ (by omega) fun tj kj => ?_)
  refine wpAny_bind (wpAny_seqItems (s := { s with toks := kj }) ho rfl ?_)
  by_cases hemp : ((some vs.toArray : Option (Array Value)).getD #[]).isEmpty = true
  · rw [if_pos hemp]
    have hv : vs = [] := by simpa using hemp
    have hc' : cs = [] := by have := strs_length hS; rw [hv] at this; exact List.eq_nil_of_length_eq_zero this.symm
    refine wpAny_bind (wpAny_pure ?_)
    rw [if_neg (by decide)]
    have := h tj kj
    rw [hc', join_nil] at this
    rw [ejoin]
    exact wpAny_pure this
  · rw [if_neg hemp, if_pos (by rfl)]
    refine wpAny_bind (join_list ⟨_, ho, rfl, _, rfl⟩ hS ?_ fun t' k' => ?_)
    · rw [ejoin]
      show _ + cs.length * 0 ≤ _
      omega
    · rw [if_neg (by decide), ejoin]
      exact wpAny_pure (h t' k')
theorem subLoop_ {a D : Addr} {C : Array Nat} {x r : Str} {t tr : Tok} {next : Nat → Option Nat} (hF : Finds C x.cps x.cps.size next) (hx : x.cps.size ≤ 100) (hr : r.length ≤ 10) :
    ∀ (f : Nat) (s : Shared) (p k : Nat) (vs : List Value) (cs : List Str) (n : Nat), p ≤ x.cps.size → x.cps.size - p < f → PatAt s.heap a C → s.heap.get? D = some (listOf vs.toArray n) → StrsAre vs cs → vs.length ≤ 2 * p → (cs.map (·.length)).sum ≤ 11 * p →
    codeAny (model prog w) A (.builtin "re.Pattern.sub.loop" ⟨[.ref a, .str x t, .str r tr, rawInt 0, rawInt 0, rawInt k, rawInt p, rawInt p, .bool false, .ref D, .bool false], []⟩)
      (fun res s' => match res with | .ok (.ret v) => (∃ u, v = .str (Txt.join (Str.ofString "") (cs ++ subP x.cps x.cps.size r next f p)) u) ∧ Did s s' [D] (fun _ => True) | _ => False) s
  | 0, _, _, _, _, _, _, _, h, _, _, _, _, _ => absurd h (Nat.not_lt_zero _)
  | f + 1, s, p, k, vs, cs, n, hp, hf, hP, hD, hS, hvl, hsm => by
    refine codeAny_builtin entry_subloop ?_
    rw [Around.under_plainId plain_subloop _]
    unfold Builtin.«re.Pattern.sub.loop»
    dsimp only
    refine wpAny_bind (target_ hP ?_)
    dsimp only
    rw [if_pos (by rfl)]
    refine wpAny_bind (wpAny_of_eq (a := ()) rfl ?_)
    rw [if_neg (by simp)]
    rw [Int.toNat_natCast]
    obtain ⟨⟨kk, m', hkk, em, hm⟩, hb⟩ := hF p hp
    refine wpAny_bind ?_
    unfold reNextFound
    cases hn : next p with
    | none =>
      rw [hn] at hm
      refine runToEnd_ kk hkk em (.inr ⟨hm, ?_⟩)
      dsimp only
      rw [subP, hn]
      dsimp only
      by_cases hlt : p < x.cps.size
      · rw [if_pos hlt, if_pos hlt]
        refine wpAny_bind (slice_ (by omega) fun ts ks => ?_)
        refine wpAny_bind (push_ (s := { s with toks := ks }) hD (by omega) fun h1 hs1 hD1 => ?_)
        have hlen : (Str.mk (x.cps.extract p x.cps.size)).length ≤ 100 := by show (x.cps.extract p x.cps.size).size ≤ 100; rw [Array.size_extract]; omega
        refine fin_ (cs := cs ++ [⟨x.cps.extract p x.cps.size⟩]) hx hD1 (strs_append hS) ?_ fun u k' => ⟨⟨u, rfl⟩, h1, k', rfl, sub_kept hs1, trivial⟩
        rw [List.map_append, List.sum_append]
        simp only [List.map_cons, List.map_nil, List.sum_cons, List.sum_nil]
        omega
      · rw [if_neg hlt, if_neg hlt, List.append_nil]
        exact fin_ hx hD hS (by omega) fun u k' => ⟨⟨u, rfl⟩, s.heap, k', rfl, fun b o e _ => e, trivial⟩
    | some q =>
      rw [hn] at hm
      obtain ⟨ho, hs', hh'⟩ := hm
      obtain ⟨hq1, hq2⟩ := hb q hn
      refine runToEnd_ kk hkk em (.inl ⟨ho, ?_⟩)
      dsimp only
      rw [hs', hh', subP, hn]
      dsimp only
      have hbq : (q + 1 == q) = false := by simp
      by_cases hlt : p < q
      · rw [if_pos hlt, if_pos hlt]
        refine wpAny_bind (slice_ (by omega) fun ts ks => ?_)
        refine wpAny_bind (push_ (s := { s with toks := ks }) hD (by omega) fun h1 hs1 hD1 => ?_)
        rw [if_pos (by rfl)]
        refine wpAny_bind (wpAny_pure ?_)
        rw [if_pos (by rfl)]
        refine wpAny_bind (push_ (s := { s with toks := ks, heap := h1 }) hD1 (by simp; omega) fun h2 hs2 hD2 => ?_)
        refine wpAny_pure ⟨plainId_quiet plain_subloop _, ?_⟩
        rw [hbq]
        have hlen : (Str.mk (x.cps.extract p q)).length = q - p := by show (x.cps.extract p q).size = _; rw [Array.size_extract]; omega
        refine codeAny_mono (subLoop_ hF hx hr f { s with toks := ks, heap := h2 } (q + 1) (k + 1) _ (cs ++ [⟨x.cps.extract p q⟩] ++ [r]) _ (by omega) (by omega) ((hP.keep (D := D) (fun b o hb e => hs1.extBut b o hb e) hD rfl).keep (D := D) (fun b o hb e => hs2.extBut b o hb e) hD1 rfl) hD2 (strs_append (strs_append hS)) (by simp; omega) ?_) ?_
        · simp only [List.map_append, List.sum_append, List.map_cons, List.map_nil, List.sum_cons, List.sum_nil]
          omega
        · intro res s' hres
          split at hres
          · obtain ⟨⟨u, hu⟩, h3, k3, e3, hk3, _⟩ := hres
            refine ⟨⟨u, ?_⟩, h3, k3, e3, kept_trans (kept_trans (sub_kept hs1) (sub_kept hs2)) hk3, trivial⟩
            rw [hu]; simp
          · exact hres.elim
      · rw [if_neg hlt, if_neg hlt]
        rw [if_pos (by rfl)]
        refine wpAny_bind (wpAny_pure ?_)
        rw [if_pos (by rfl)]
        refine wpAny_bind (push_ hD (by omega) fun h2 hs2 hD2 => ?_)
        refine wpAny_pure ⟨plainId_quiet plain_subloop _, ?_⟩
        rw [hbq]
        refine codeAny_mono (subLoop_ hF hx hr f { s with heap := h2 } (q + 1) (k + 1) _ (cs ++ [r]) _ (by omega) (by omega) (hP.keep (D := D) (fun b o hb e => hs2.extBut b o hb e) hD rfl) hD2 (strs_append hS) (by simp; omega) ?_) ?_
        · simp only [List.map_append, List.sum_append, List.map_cons, List.map_nil, List.sum_cons, List.sum_nil]
          omega
        · intro res s' hres
          split at hres
          · obtain ⟨⟨u, hu⟩, h3, k3, e3, hk3, _⟩ := hres
            refine ⟨⟨u, ?_⟩, h3, k3, e3, kept_trans (sub_kept hs2) hk3, trivial⟩
            rw [hu]; simp
          · exact hres.elim
end
end Mine
end
section
open PySem PySem.W PyProof.Rows PySem.Calls
open PySem.Builtin.Re
set_option Elab.async false
set_option maxRecDepth 100000
set_option maxHeartbeats 8000000
namespace Mine
theorem slot_pat_sub : Slot "re.Pattern" "sub" "re.Pattern.sub" :=
  .of (owner := "re.Pattern") (n := "sub") (by rw [typeLookup_type, builtinLookup_eq_fast]; kernel_rfl) (by decide +kernel) (by decide +kernel) (by decide +kernel)
    (.inr (by decide +kernel)) (by rw [isSubtype_type]; kernel_rfl)
theorem type_pat_sub : typeOf (.builtin "re.Pattern.sub") = pure (.type "method_descriptor") := by show builtinType _ = _; rw [builtinType_eq_fast]; kernel_rfl
theorem entry_pat_sub : entryFor table "re.Pattern.sub" = some Builtin.«re.Pattern.sub» := entryFor_of_tree (by kernel_rfl)
theorem plainAttrs_pat : PlainAttrs "re.Pattern" :=
  ⟨⟨"object.__getattribute__", by rw [typeLookup_type, builtinLookup_eq_fast]; kernel_rfl, by decide +kernel⟩, by rw [typeLookup_type, builtinLookup_eq_fast]; kernel_rfl⟩
theorem plain_sub : plainId "re.Pattern.sub" = true := by decide +kernel
theorem owner_pat : Manifest.owners.lookup (String.ofList ['n', 'r', 'e', 't', 't', 'a', 'P', '.', 'e', 'r'].reverse) = some Manifest.sig_re_Pattern := by kernel_rfl
theorem args_pat_sub (a b c : Value) : argsOk "re.Pattern.sub" ⟨[a, b, c], []⟩ := by
  unfold argsOk; rw [signature?_of (id := "re.Pattern.sub") (n := ['b', 'u', 's']) (o := ['n', 'r', 'e', 't', 't', 'a', 'P', '.', 'e', 'r']) (by kernel_rfl) owner_pat]; kernel_rfl
theorem no_call_str : typeLookup (.type "str") "__call__" = pure none := by rw [typeLookup_type, builtinLookup_eq_fast]; kernel_rfl
section
variable {prog : Program} {w : World} {A : Around} {E : Value → Shared → Prop} {s : Shared}
theorem call_sub {a : Addr} {C : Array Nat} {x r : Str} {t tr : Tok} {next : Nat → Option Nat} {Q : Value → Shared → Prop} (hF : Finds C x.cps x.cps.size next) (hx : x.cps.size ≤ 100) (hr : r.length ≤ 10) (h92 : r.cps.contains 92 = false) (hP : PatAt s.heap a C)
    (h : ∀ u h' k, Kept s.heap h' [] → Q (.str (Txt.join (Str.ofString "") (subP x.cps x.cps.size r next (x.cps.size + 1) 0)) u) { s with heap := h', toks := k }) :
    wpAny (model prog w) A (call (.builtin "re.Pattern.sub") [.ref a, .str r tr, .str x t]) Q E s := by
  have hT : s.TypeIs (.ref a) "re.Pattern" := by
    obtain ⟨o, c, oc, fs, its, n, ho, hd, hc, _⟩ := hP
    exact ⟨o, ho, hc⟩
  refine wpAny_call (codeAny_call_builtin slot_pat_sub.plain entry_pat_sub (slot_pat_sub.check _ _ _ _ _ _ _ _ hT (args_pat_sub _ _ _) ?_))
  unfold Builtin.«re.Pattern.sub» reSubstitute
  dsimp only
  refine wpAny_bind (wpAny_of_eq (a := [some (.str r tr), some (.str x t), none]) (by rfl) ?_)
  dsimp only
  refine wpAny_bind (wpAny_pure ?_)
  refine wpAny_bind (wpAny_specialOf (typeIs_str _ _ _) no_call_str ?_)
  rw [if_neg (by decide)]
  refine wpAny_bind (wpAny_of_eq (a := some r) rfl ?_)
  dsimp only
  rw [h92]
  refine wpAny_bind (wpAny_pure ?_)
  rw [if_neg (by decide), if_pos (by rfl)]
  refine wpAny_bind (wpAny_pure ?_)
  dsimp only
  refine wpAny_bind ?_
  rw [show holding [Value.str r tr] (reWholeTarget (.ref a) (.str x t)) = reWholeTarget (.ref a) (.str x t) from rfl]
  refine target_ hP ?_
  rw [if_neg (by decide)]
  refine wpAny_bind (wpAny_newList ?_ (by rw [PySem.sizeLine_eq]; decide))
  have hk : ∀ b o, s.heap.get? b = some o → (s.heap.push (listOf (#[] : Array Value) 0)).get? b = some o := fun b o e => by
    rw [Heap.get?_push_ne _ _ _ (Nat.ne_of_lt (Heap.lt_size e))]; exact e
  have hD : (s.heap.push (listOf (#[] : Array Value) 0)).get? s.heap.objs.size = some (listOf (#[] : Array Value) 0) := Heap.get?_push_size _ rfl
  refine wpAny_pure ⟨plainId_quiet plain_subloop _, ?_⟩
  refine codeAny_mono (subLoop_ (D := s.heap.objs.size) hF hx hr (x.cps.size + 1) { s with heap := s.heap.push (listOf (#[] : Array Value) 0) } 0 0 [] [] 0 (Nat.zero_le _) (by omega) ?_ hD .nil (Nat.zero_le _) (Nat.zero_le _)) ?_
  · obtain ⟨o, c, oc, fs, its, n, ho, hd, hc, h2, h5, h6, hoc, hdc, hcc, hC⟩ := hP
    exact ⟨o, c, oc, fs, its, n, hk _ _ ho, hd, hc, h2, h5, h6, hk _ _ hoc, hdc, hcc, hC⟩
  · intro res s' hres
    split at hres
    · obtain ⟨⟨u, rfl⟩, h3, k3, rfl, hk3, _⟩ := hres
      exact h u h3 k3 fun b o e _ => hk3 b o (hk b o e) fun q => absurd (Heap.lt_size e) (by rw [List.mem_singleton.mp q]; exact Nat.lt_irrefl _)
    · exact hres.elim
end
end Mine
end
section
open PySem PySem.W PyProof.Rows PySem.Calls
open PySem.Builtin.Re
set_option Elab.async false
set_option maxRecDepth 100000
set_option maxHeartbeats 8000000
namespace Mine
local macro_rules | `(tactic| walk_at "none 0") => `(tactic| fail)
local macro_rules | `(tactic| walk_at "none 1") => `(tactic| fail)
local macro_rules | `(tactic| walk_at "none 2") => `(tactic| fail)
local macro_rules | `(tactic| walk_at "none 3") => `(tactic| fail)
local macro_rules | `(tactic| walk_at "none 4") => `(tactic| fail)
local macro_rules | `(tactic| walk_at "none 5") => `(tactic| fail)
local macro_rules | `(tactic| walk_at "none 6") => `(tactic| fail)
local macro_rules | `(tactic| walk_at "none 7") => `(tactic| fail)
local macro_rules | `(tactic| walk_at "none 8") => `(tactic| fail)
local macro_rules | `(tactic| walk_at "none 9") => `(tactic| fail)
local macro_rules | `(tactic| walk_at "none 10") => `(tactic| fail)
local macro_rules | `(tactic| walk_at "none 11") => `(tactic| fail)
local macro_rules | `(tactic| walk_at "none 12") => `(tactic| fail)
local macro_rules | `(tactic| walk_at "none 13") => `(tactic| fail)
local macro_rules | `(tactic| walk_at "none 14") => `(tactic| fail)
local macro_rules | `(tactic| walk_at "none 15") => `(tactic| fail)
local macro_rules | `(tactic| walk_at "none 16") => `(tactic| fail)
local macro_rules | `(tactic| walk_at "none 17") => `(tactic| fail)
local macro_rules | `(tactic| walk_at "none 18") => `(tactic| fail)
local macro_rules | `(tactic| walk_at "none 19") => `(tactic| fail)
local macro_rules | `(tactic| walk_at "none 20") => `(tactic| fail)
local macro_rules | `(tactic| walk_at "none 21") => `(tactic| fail)
local macro_rules | `(tactic| walk_at "none 22") => `(tactic| fail)
local macro_rules | `(tactic| walk_at "none 23") => `(tactic| fail)
local macro_rules | `(tactic| walk_at "none 24") => `(tactic| fail)
local macro_rules | `(tactic| walk_at "none 25") => `(tactic| fail)
local macro_rules | `(tactic| walk_at "none 26") => `(tactic| fail)
local macro_rules | `(tactic| walk_at "none 27") => `(tactic| fail)
local macro_rules | `(tactic| walk_at "none 28") => `(tactic| fail)
local macro_rules | `(tactic| walk_at "none 29") => `(tactic| fail)
theorem pats_in {w : World} {g : Heap} (X : (hd.heap_39 w.params).In g) : PatAt g 71 C1 ∧ PatAt g 76 C2 ∧ (∃ o, g.get? 71 = some o ∧ o.dict = none) ∧ (∃ o, g.get? 76 = some o ∧ o.dict = none) := by
  have hk : hd.heap_39 w.params = hd.heap_39 w.params ∧ PySem.Challenge.rw_oc0087_01 = PySem.Challenge.rw_oc0087_01 := by
    k_fill
    exact ⟨rfl, rfl⟩
  refine ⟨⟨_, _, _, _, _, _, X _ _ (by k_is), rfl, rfl, rfl, rfl, rfl, X _ _ (by k_is), rfl, rfl, by kernel_rfl⟩, ⟨_, _, _, _, _, _, X _ _ (by k_is), rfl, rfl, rfl, rfl, rfl, X _ _ (by k_is), rfl, rfl, by kernel_rfl⟩, ⟨_, X _ _ (by k_is), rfl⟩, ⟨_, X _ _ (by k_is), rfl⟩⟩
theorem nextDot_spec {T : Array Nat} {n : Nat} : ∀ {f p q : Nat}, nextDot T n f p = some q → p ≤ q ∧ q < n
  | 0, _, _, h => by cases h
  | f + 1, p, q, h => by
    rw [nextDot] at h
    split at h
    · split at h
      · cases h; exact ⟨Nat.le_refl _, by assumption⟩
      · have := nextDot_spec h; exact ⟨by omega, this.2⟩
    · cases h
def nx1 (T : Array Nat) (p : Nat) : Option Nat := nextDot T T.size (T.size + 1 - p) p
def nx2 (T : Array Nat) (p : Nat) : Option Nat := nextNl T T.size (T.size + 1 - p) p
theorem finds2 {T : Array Nat} (no13 : ∀ j, T.getD j 0 ≠ 13) : Finds C2 T T.size (nx2 T) := by
  intro p hp
  refine ⟨?_, fun q hq => ?_⟩
  · obtain ⟨k, m', hk, e, h⟩ := s2_search (T := T) hp no13
    exact ⟨k, m', by omega, e, h⟩
  · obtain ⟨a, b, _⟩ := nextNl_spec hq
    exact ⟨a, b⟩
theorem finds1 {T : Array Nat} (hT : T.size ≤ 1000) : Finds C1 T T.size (nx1 T) := by
  intro p hp
  refine ⟨?_, fun q hq => nextDot_spec hq⟩
  by_cases hlt : p < T.size
  · rw [a1_start T T.size p hlt]
    obtain ⟨k, m', hk, e, h⟩ := s1_search (T := T) (n := T.size) (T.size + 1 - p) p true (({} : Sre.Seen).add 14) hp (by omega)
    exact ⟨k, m', by omega, e, h⟩
  · have : p = T.size := by omega
    subst this
    have en : nx1 T T.size = none := by
      unfold nx1
      rw [show T.size + 1 - T.size = 0 + 1 from by omega, nextDot, if_neg (Nat.lt_irrefl _)]
    rw [en]
    have hh : (Sre.header C1).1 = 1 := rfl
    have e : (decide (T.size > T.size) || decide (T.size - T.size < (Sre.header C1).1)) = true := by rw [hh]; simp
    unfold Sre.forSearch
    rw [if_pos e]
    exact ⟨1, _, by omega, rfl, rfl⟩
def subN (x : Str) : Str := Txt.join (Str.ofString "") (subP x.cps x.cps.size (Str.ofString "\r\n") (nx2 x.cps) (x.cps.size + 1) 0)
def subD (x : Str) : Str := Txt.join (Str.ofString "") (subP x.cps x.cps.size (Str.ofString "..") (nx1 x.cps) (x.cps.size + 1) 0)
theorem PatAt.keeps {h h' : Heap} {a : Addr} {C : Array Nat} (hp : PatAt h a C) (hk : h.StaysIn h') : PatAt h' a C := by
  obtain ⟨o, c, oc, fs, its, n, ho, hd, hc, h2, h5, h6, hoc, hdc, hcc, hC⟩ := hp
  exact ⟨o, c, oc, fs, its, n, hk _ _ ho, hd, hc, h2, h5, h6, hk _ _ hoc, hdc, hcc, hC⟩
theorem PatAt.type {s : Shared} {a : Addr} {C : Array Nat} (hP : PatAt s.heap a C) : s.TypeIs (.ref a) "re.Pattern" := by
  obtain ⟨o, c, oc, fs, its, n, ho, hd, hc, _⟩ := hP
  exact ⟨o, ho, hc⟩
local macro_rules | `(tactic| walk_at "getMethod ref") => `(tactic| (refine stop_intro ?_))
local macro_rules | `(tactic| walk_at "call builtin:re.Pattern.sub") => `(tactic| (refine stop_intro ?_))
theorem qd {prog : Program} {w : World} {A : Around} {s : Shared} {h₀ : Heap} {loose : List Str} {mean : ExcName → Option Value} {mg mb : Str → Option Value}
  (X₀ : (hd.heap_39 w.params).In h₀) (T : Top hd.view_39 loose mean mg mb h₀) (st : h₀.StaysIn s.heap) (hroom : A.depth + 1 < recursionLimit) (hh : A.handled = none) (x : Str) (un : Tok)
  (hx : x.cps.size ≤ 100) (no13 : ∀ j, x.cps.getD j 0 ≠ 13) (hy : (subN x).cps.size ≤ 100)
   : codeAny (model prog w) A (.call (.ref 83) ⟨[.str x un], []⟩) (fun r s' => match r with | .ok (.ret v) => (∃ u, v = .str (subD (subN x)) u) ∧ Did s s' [] (fun _ => True) | _ => False) s := by
  have hk : hd.heap_39 w.params = hd.heap_39 w.params ∧ PySem.Challenge.rw_oc0087_01 = PySem.Challenge.rw_oc0087_01 := by
    k_fill
    exact ⟨rfl, rfl⟩
  clear hk
  refine' enter2 (K := hd.heap_39 w.params) (R := fun v s' => (∃ u, v = .str (subD (subN x)) u) ∧ Did s s' [] (fun _ => True)) (binds := [("data", .str x un)]) X₀ T st [] ?hn ?ho ?hcd (by omega) ?hb ?hl ?h ?c1 ?c2 ?c3 ?c4
  case ho => k_is
  case hcd => k_is
  case hn => intro p hp; cases hp
  case hb => exact BindsTo.of_eq rfl
  case hl => exact locs rfl
  case c4 => decide
  case c1 => exact rfl
  case c2 => exact rfl
  case c3 => exact rfl
  case h =>
    intro g L' h₁ F N X T st' lt kg
    obtain ⟨hp1, hp2, ⟨o1, ho1, hd1⟩, ⟨o2, ho2, hd2⟩⟩ := pats_in X
    k_steps
    refine stop_elim ?_
    refine getMethod_builtin ((hp1.keeps F.keep).type) plainAttrs_pat slot_pat_sub type_pat_sub (fun a e => by cases e; exact ⟨_, F.keep _ _ ho1, hd1⟩) ?_
    k_steps
    refine stop_elim ?_
    refine getMethod_builtin ((hp2.keeps F.keep).type) plainAttrs_pat slot_pat_sub type_pat_sub (fun a e => by cases e; exact ⟨_, F.keep _ _ ho2, hd2⟩) ?_
    k_steps
    refine stop_elim ?_
    refine call_sub (finds2 no13) hx (by decide +kernel) (by decide +kernel) (hp2.keeps F.keep) fun u1 h1 k1 hk1 => ?_
    obtain ⟨F1, N1⟩ := after_none F N hk1
    clear F N
    k_steps
    refine stop_elim ?_
    refine call_sub (x := subN x) (finds1 (by omega)) hy (by decide +kernel) (by decide +kernel) (hp1.keeps F1.keep) fun u2 h2 k2 hk2 => ?_
    obtain ⟨F2, N2⟩ := after_none F1 N1 hk2
    clear F1 N1
    k_steps
    exact endB_intro F2 N2 fun hk _ => ⟨⟨_, rfl⟩, _, _, rfl, hk, trivial⟩
end Mine
end
section
open PySem PySem.W PyProof.Rows PySem.Calls
set_option Elab.async false
set_option maxRecDepth 100000
set_option maxHeartbeats 8000000
namespace Mine
open LCg
section
variable {prog : Program} {w : World} {A : Around} {E : Value → Shared → Prop} {s : Shared} {h₀ : Heap} {L : Addr} {m : Str → Option Value} {env : Env}
/-- a comprehension's turns by an invariant, the ledger unchanged -/
theorem rest_inv {elt : Expr} {x : Str} {scope : Scope} {cl : List (Str × Addr)} {S : List (Addr × Obj) → Prop} {P : Nat → Value → Prop} {Fin : List Value → List (Addr × Obj) → Prop} {n : Nat} {news : List (Addr × Obj)} (Inv : Nat → List Value → Prop)
    (h0 : Inv 0 []) (turn : ∀ i v ys I oI C oC D m₂ h tk (E' : Value → Shared → Prop), i < n → Inv i ys → P i v → NsObj oC m₂ → m₂ x = some v → Fr h₀ L h m → News h₀ L h ((I, oI) :: (C, oC) :: (D, lst ys) :: news) → Off3 I C D news → ((@Ne Nat I C) ∧ (@Ne Nat I D) ∧ (@Ne Nat C D)) →
      wpAny (model prog w) A (eval elt (compEnvC scope cl C env)) (CompEnd h₀ L m { s with heap := h, toks := tk } I oI C oC D (lst ys) S (fun y news' => news' = news ∧ Inv (i + 1) (ys ++ [y]))) E' { s with heap := h, toks := tk })
    (fin : ∀ ys, Inv n ys → Fin ys news) : CompRest prog w A h₀ L m env elt x scope cl s S P Fin n 0 [] news := by
  have key : ∀ (j i : Nat) (ys : List Value), i + j = n → Inv i ys → CompRest prog w A h₀ L m env elt x scope cl s S P Fin j i ys news := by
    intro j
    induction j with
    | zero => intro i ys hi hI; exact CompRest.zero (fin ys (by rw [← hi]; exact hI))
    | succ j ih =>
      intro i ys hi hI
      refine CompRest.succ ?_
      intro v I oI C oC D m₂ h tk E' hv hC hx F N off ne
      refine wpAny_mono (turn i v ys I oI C oC D m₂ h tk E' (by omega) hI hv hC hx F N off ne) (fun y s₂ hq => ?_) fun _ _ e => e
      obtain ⟨h', tk', nw, e, F', N', off', hS, hn, hI'⟩ := hq
      rw [hn] at N' off' hS
      exact ⟨h', tk', news, e, F', N', off', hS, ih (i + 1) _ (by omega) hI'⟩
  exact key n 0 [] (by omega) h0
theorem restT_inv {ct elt : Expr} {x : Str} {scope : Scope} {cl : List (Str × Addr)} {S : List (Addr × Obj) → Prop} {P : Nat → Value → Prop} {Fin : List Value → List (Addr × Obj) → Prop} {n : Nat} {news : List (Addr × Obj)} (Inv : Nat → List Value → Prop)
    (h0 : Inv 0 []) (turn : ∀ i v ys I oI C oC D m₂ h tk (E' : Value → Shared → Prop), i < n → Inv i ys → P i v → NsObj oC m₂ → m₂ x = some v → Fr h₀ L h m → News h₀ L h ((I, oI) :: (C, oC) :: (D, lst ys) :: news) → Off3 I C D news → ((@Ne Nat I C) ∧ (@Ne Nat I D) ∧ (@Ne Nat C D)) →
      wpAny (model prog w) A (isTrue ct (compEnvC scope cl C env) (eval ct (compEnvC scope cl C env))) (fun ok s' => if ok = true then
        wpAny (model prog w) A (eval elt (compEnvC scope cl C env)) (CompEnd h₀ L m { s with heap := h, toks := tk } I oI C oC D (lst ys) S (fun y news' => news' = news ∧ Inv (i + 1) (ys ++ [y]))) E' s'
        else CompEnd h₀ L m { s with heap := h, toks := tk } I oI C oC D (lst ys) S (fun _ news' => news' = news ∧ Inv (i + 1) ys) Value.none s') E' { s with heap := h, toks := tk })
    (fin : ∀ ys, Inv n ys → Fin ys news) : LCt.CompRestT prog w A h₀ L m env ct elt x scope cl s S P Fin n 0 [] news := by
  have key : ∀ (j i : Nat) (ys : List Value), i + j = n → Inv i ys → LCt.CompRestT prog w A h₀ L m env ct elt x scope cl s S P Fin j i ys news := by
    intro j
    induction j with
    | zero => intro i ys hi hI; exact LCt.CompRestT.zero (fin ys (by rw [← hi]; exact hI))
    | succ j ih =>
      intro i ys hi hI
      refine LCt.CompRestT.succ ?_
      intro v I oI C oC D m₂ h tk E' hv hC hx F N off ne
      refine wpAny_mono (turn i v ys I oI C oC D m₂ h tk E' (by omega) hI hv hC hx F N off ne) (fun ok s₂ hq => ?_) fun _ _ e => e
      cases ok with
      | true =>
        simp only [if_true] at hq ⊢
        refine wpAny_mono hq (fun y s₃ hq => ?_) fun _ _ e => e
        obtain ⟨h', tk', nw, e, F', N', off', hS, hn, hI'⟩ := hq
        rw [hn] at N' off' hS
        exact ⟨h', tk', news, e, F', N', off', hS, ih (i + 1) _ (by omega) hI'⟩
      | false =>
        simp only [Bool.false_eq_true, if_false] at hq ⊢
        obtain ⟨h', tk', nw, e, F', N', off', hS, hn, hI'⟩ := hq
        rw [hn] at N' off' hS
        exact ⟨h', tk', news, e, F', N', off', hS, ih (i + 1) _ (by omega) hI'⟩
  exact key n 0 [] (by omega) h0
/-- the end of a comprehension over a text's signs -/
theorem ListComp_S {elt iter : Expr} {x : Str} {px : Pos} {scope : Scope} {cl : List (Str × Addr)} {pos : Pos} {Q : Value → Shared → Prop} {y : Str} {t : Tok} {news : List (Addr × Obj)} (hh : A.handled = none) (F : Fr h₀ L s.heap m) (N : News h₀ L s.heap news)
    (hi : ∀ Q' : Value → Shared → Prop, Q' (.str y t) s → wpAny (model prog w) A (eval iter env) Q' E s)
    (hclos : closureFor scope env = pure cl) (hcell : ∀ y ∈ scope.names, y.2 ≠ .cell) (hkind : scope.kind = .function)
    (hnames : ∀ y ∈ scope.names, y.2 = .local → scope.names.lookup y.1 = some .local) (hx : scope.names.lookup x = some .local) (hsz : y.cps.size ≤ sizeLine)
    (h : ∀ g, CompRest prog w A h₀ L m env elt x scope cl { s with heap := g } (fun _ => True) (SignAt y) (FinE h₀ L m { s with heap := g } Q) y.cps.size 0 [] news)
    (hs : ∀ x, foldedSetIterable iter env x = pure x := by intro _; rfl) :
    wpAny (model prog w) A (eval (.ListComp elt [⟨.Name x px, iter, [], 0⟩] scope pos) env) Q E s := by
  rw [eval_ListComp]
  refine wpAny_comprehension_free (use := none) rfl hs hclos hkind hnames (hi _ ?_)
  have fin : ∀ (o : Obj) (St : Nat → Heap → Prop), Walks prog w A s.heap.objs.size [s.heap.objs.size] [s.heap.objs.size] y.cps.size (SignAt y) St → St 0 (s.heap.push o) →
      (∀ i h, St i h → ∃ o, h.get? s.heap.objs.size = some o) → (∀ i (h h' : Heap) (o : Obj), St i h → h.get? s.heap.objs.size = some o → h'.get? s.heap.objs.size = some o → St i h') →
      wpAny (model prog w) A (newList []) (fun acc s₃ => wpAny (model prog w) A (newFunctionEnv scope env.globals cl [] env.qual none .none (some env)) (fun cenv s₄ =>
      codeAny (model prog w) A (.compStart (.ListComp elt [⟨.Name x px, iter, [], 0⟩] scope pos) 0 (.ref s.heap.objs.size) acc { cenv with scope := relabel scope env }) (compPost (model prog w) A E none Q acc cenv.locals) s₄) E s₃) E { s with heap := s.heap.push o } := by
    intro o St W st hIo hSt
    refine block_U (S := fun _ => True) (m := m) W hsz hIo (fun i h h' o _ st e e' _ _ _ => hSt i h h' o st e e') hcell hkind hx st (fun b hb => ?_)
      (F.keeps fun _ _ e => Heap.get?_push_of_some _ e) (N.grown fun _ _ e => Heap.get?_push_of_some _ e) (Nat.ne_of_lt F.ns.lt) (next_is_new F) (fun p hp => Nat.ne_of_lt (Heap.lt_size (N p hp).1)) trivial (h _) ?_
    · rw [List.mem_singleton.mp hb]
      show s.heap.objs.size < (s.heap.push _).objs.size
      rw [Heap.size_push]; exact Nat.lt_succ_self _
    · intro D C h tk m' ys news' F' N' o1 hn hC₀ hD₀ hCL hDL hCD offC fin
      refine ⟨m', hn, fun h'' hs'' => fin D h'' tk (F'.change hs'' hCL hC₀) (fun p hp => ?_) o1⟩
      refine ⟨hs''.extBut _ _ ?_ (N' p hp).1, (N' p hp).2⟩
      rcases List.mem_cons.mp hp with rfl | hp
      · exact Ne.symm hCD
      · exact offC p hp
  cases ha : y.cps.all (· < 128)
  · refine wpAny_pyIter_wide ha (fin _ _ (Walks.strWide hh _ y t) ⟨_, Heap.get?_push_size _ rfl, rfl, rfl⟩ (fun i h ⟨o, ho, _⟩ => ⟨o, ho⟩) fun i h h' o ⟨o', ho', r⟩ e e' => ?_)
    rw [e] at ho'; cases ho'; exact ⟨_, e', r⟩
  · refine wpAny_pyIter_ascii ha (fin _ _ (Walks.strAscii hh _ y t) ⟨_, Heap.get?_push_size _ rfl, rfl, rfl⟩ (fun i h ⟨o, ho, _⟩ => ⟨o, ho⟩) fun i h h' o ⟨o', ho', r⟩ e e' => ?_)
    rw [e] at ho'; cases ho'; exact ⟨_, e', r⟩
theorem ListComp_ST {ct elt iter : Expr} {x : Str} {px : Pos} {scope : Scope} {cl : List (Str × Addr)} {pos : Pos} {Q : Value → Shared → Prop} {y : Str} {t : Tok} {news : List (Addr × Obj)} (hh : A.handled = none) (F : Fr h₀ L s.heap m) (N : News h₀ L s.heap news)
    (hi : ∀ Q' : Value → Shared → Prop, Q' (.str y t) s → wpAny (model prog w) A (eval iter env) Q' E s)
    (hclos : closureFor scope env = pure cl) (hcell : ∀ y ∈ scope.names, y.2 ≠ .cell) (hkind : scope.kind = .function)
    (hnames : ∀ y ∈ scope.names, y.2 = .local → scope.names.lookup y.1 = some .local) (hx : scope.names.lookup x = some .local) (hsz : y.cps.size ≤ sizeLine)
    (h : ∀ g, LCt.CompRestT prog w A h₀ L m env ct elt x scope cl { s with heap := g } (fun _ => True) (SignAt y) (FinE h₀ L m { s with heap := g } Q) y.cps.size 0 [] news)
    (hs : ∀ x, foldedSetIterable iter env x = pure x := by intro _; rfl) :
    wpAny (model prog w) A (eval (.ListComp elt [⟨.Name x px, iter, [ct], 0⟩] scope pos) env) Q E s := by
  rw [eval_ListComp]
  refine wpAny_comprehension_free (use := none) rfl hs hclos hkind hnames (hi _ ?_)
  have fin : ∀ (o : Obj) (St : Nat → Heap → Prop), Walks prog w A s.heap.objs.size [s.heap.objs.size] [s.heap.objs.size] y.cps.size (SignAt y) St → St 0 (s.heap.push o) →
      (∀ i h, St i h → ∃ o, h.get? s.heap.objs.size = some o) → (∀ i (h h' : Heap) (o : Obj), St i h → h.get? s.heap.objs.size = some o → h'.get? s.heap.objs.size = some o → St i h') →
      wpAny (model prog w) A (newList []) (fun acc s₃ => wpAny (model prog w) A (newFunctionEnv scope env.globals cl [] env.qual none .none (some env)) (fun cenv s₄ =>
      codeAny (model prog w) A (.compStart (.ListComp elt [⟨.Name x px, iter, [ct], 0⟩] scope pos) 0 (.ref s.heap.objs.size) acc { cenv with scope := relabel scope env }) (compPost (model prog w) A E none Q acc cenv.locals) s₄) E s₃) E { s with heap := s.heap.push o } := by
    intro o St W st hIo hSt
    refine LCt.block_T (S := fun _ => True) (m := m) W hsz hIo (fun i h h' o _ st e e' _ _ _ => hSt i h h' o st e e') hcell hkind hx st (fun b hb => ?_)
      (F.keeps fun _ _ e => Heap.get?_push_of_some _ e) (N.grown fun _ _ e => Heap.get?_push_of_some _ e) (Nat.ne_of_lt F.ns.lt) (next_is_new F) (fun p hp => Nat.ne_of_lt (Heap.lt_size (N p hp).1)) trivial (h _) ?_
    · rw [List.mem_singleton.mp hb]
      show s.heap.objs.size < (s.heap.push _).objs.size
      rw [Heap.size_push]; exact Nat.lt_succ_self _
    · intro D C h tk m' ys news' F' N' o1 hn hC₀ hD₀ hCL hDL hCD offC fin
      refine ⟨m', hn, fun h'' hs'' => fin D h'' tk (F'.change hs'' hCL hC₀) (fun p hp => ?_) o1⟩
      refine ⟨hs''.extBut _ _ ?_ (N' p hp).1, (N' p hp).2⟩
      rcases List.mem_cons.mp hp with rfl | hp
      · exact Ne.symm hCD
      · exact offC p hp
  cases ha : y.cps.all (· < 128)
  · refine wpAny_pyIter_wide ha (fin _ _ (Walks.strWide hh _ y t) ⟨_, Heap.get?_push_size _ rfl, rfl, rfl⟩ (fun i h ⟨o, ho, _⟩ => ⟨o, ho⟩) fun i h h' o ⟨o', ho', r⟩ e e' => ?_)
    rw [e] at ho'; cases ho'; exact ⟨_, e', r⟩
  · refine wpAny_pyIter_ascii ha (fin _ _ (Walks.strAscii hh _ y t) ⟨_, Heap.get?_push_size _ rfl, rfl, rfl⟩ (fun i h ⟨o, ho, _⟩ => ⟨o, ho⟩) fun i h h' o ⟨o', ho', r⟩ e e' => ?_)
    rw [e] at ho'; cases ho'; exact ⟨_, e', r⟩
end
end Mine
end
section
open PySem PySem.W PyProof.Rows PySem.Calls
set_option Elab.async false
set_option maxRecDepth 100000
set_option maxHeartbeats 8000000
namespace Mine
def mailC (c : Nat) : Str := if c = 45 ∨ c = 83 ∨ c = 84 then Str.ofString ".\n" else ⟨#[c, 10]⟩
def isRight (c : Nat) : Bool := c == 114 || c == 119 || c == 120 || c == 115 || c == 116
def alpha : List Nat := [114, 119, 120, 115, 116, 45, 83, 84]
theorem occ_mail : ∀ c ∈ alpha, (Builtin.Str.occurrences (Str.ofString "-ST") { cps := #[c] } 0 (Str.ofString "-ST").length 1).isEmpty = !(decide (c = 45 ∨ c = 83 ∨ c = 84)) := by decide +kernel
theorem occ_right : ∀ c ∈ alpha, (Builtin.Str.occurrences (Str.ofString "rwxst") { cps := #[c] } 0 (Str.ofString "rwxst").length 1).isEmpty = !(isRight c) := by decide +kernel
def mailT (l : List Nat) : Str := Txt.join (Str.ofString "") (l.map mailC)
def qC (c : Nat) : Nat := if c = 45 ∨ c = 83 ∨ c = 84 then 46 else c
theorem mailC_q (c : Nat) : mailC c = ⟨#[qC c, 10]⟩ := by
  unfold mailC qC
  split
  · decide +kernel
  · rfl
theorem mailT_q (a b c d e f : Nat) : mailT [a, b, c, d, e, f] = ⟨#[qC a, 10, qC b, 10, qC c, 10, qC d, 10, qC e, 10, qC f, 10]⟩ := by
  unfold mailT
  simp only [List.map_cons, List.map_nil, mailC_q]
  rfl
theorem subN_q {a b c d e f : Nat} (ha : a ≠ 10) (hb : b ≠ 10) (hc : c ≠ 10) (hd : d ≠ 10) (he : e ≠ 10) (hf : f ≠ 10) :
    subN ⟨#[a, 10, b, 10, c, 10, d, 10, e, 10, f, 10]⟩ = ⟨#[a, 13, 10, b, 13, 10, c, 13, 10, d, 13, 10, e, 13, 10, f, 13, 10]⟩ := by
  have e0 : nx2 #[a, 10, b, 10, c, 10, d, 10, e, 10, f, 10] 0 = some 1 := by simp [nx2, nextNl, ha]
  have e2 : nx2 #[a, 10, b, 10, c, 10, d, 10, e, 10, f, 10] 2 = some 3 := by simp [nx2, nextNl, hb]
  have e4 : nx2 #[a, 10, b, 10, c, 10, d, 10, e, 10, f, 10] 4 = some 5 := by simp [nx2, nextNl, hc]
  have e6 : nx2 #[a, 10, b, 10, c, 10, d, 10, e, 10, f, 10] 6 = some 7 := by simp [nx2, nextNl, hd]
  have e8 : nx2 #[a, 10, b, 10, c, 10, d, 10, e, 10, f, 10] 8 = some 9 := by simp [nx2, nextNl, he]
  have e10 : nx2 #[a, 10, b, 10, c, 10, d, 10, e, 10, f, 10] 10 = some 11 := by simp [nx2, nextNl, hf]
  have e12 : nx2 #[a, 10, b, 10, c, 10, d, 10, e, 10, f, 10] 12 = none := by simp [nx2, nextNl]
  unfold subN
  show Txt.join (Str.ofString "") (subP #[a, 10, b, 10, c, 10, d, 10, e, 10, f, 10] 12 (Str.ofString "\r\n") (nx2 #[a, 10, b, 10, c, 10, d, 10, e, 10, f, 10]) 13 0) = _
  simp only [subP, e0, e2, e4, e6, e8, e10, e12, Nat.reduceAdd]
  kernel_rfl
def cntD (T : Array Nat) : Nat → Nat → Nat
  | 0, _ => 0
  | k + 1, p => (if dot T p then 1 else 0) + cntD T k (p + 1)
theorem nextDot_cnt {T : Array Nat} {n : Nat} : ∀ {f p : Nat}, p ≤ n → n - p < f →
    match nextDot T n f p with | some q => p ≤ q ∧ q < n ∧ cntD T (n - p) p = 1 + cntD T (n - (q + 1)) (q + 1) | none => cntD T (n - p) p = 0
  | 0, _, _, h => absurd h (Nat.not_lt_zero _)
  | f + 1, p, hp, hf => by
    rw [nextDot]
    by_cases hlt : p < n
    · rw [if_pos hlt]
      obtain ⟨k, hk⟩ : ∃ k, n - p = k + 1 := ⟨n - p - 1, by omega⟩
      have hk' : n - (p + 1) = k := by omega
      rw [hk, cntD]
      by_cases hd : dot T p = true
      · rw [if_pos hd, if_pos hd]
        exact ⟨Nat.le_refl _, hlt, by rw [hk']⟩
      · rw [if_neg hd, if_neg hd]
        have ih := @nextDot_cnt T n f (p + 1) hlt (by omega)
        rw [hk'] at ih
        split at ih
        · exact ⟨by omega, ih.2.1, by rw [← ih.2.2]; omega⟩
        · rw [ih]
    · rw [if_neg hlt]
      rw [show n - p = 0 by omega]; rfl
theorem subP_len {T : Array Nat} {r : Str} (hr : r.length = 2) : ∀ (f p : Nat), p ≤ T.size → T.size - p < f → ((subP T T.size r (nx1 T) f p).map (·.length)).sum = (T.size - p) + cntD T (T.size - p) p
  | 0, _, _, h => absurd h (Nat.not_lt_zero _)
  | f + 1, p, hp, hf => by
    have hc := @nextDot_cnt T T.size (T.size + 1 - p) p hp (by omega)
    rw [subP]
    unfold nx1
    split at hc
    · rename_i q hq
      obtain ⟨h1, h2, h3⟩ := hc
      (try rw [hq])
      (try dsimp only)
      have ih := subP_len hr f (q + 1) h2 (by omega)
      rw [List.map_append, List.sum_append, List.map_cons, List.sum_cons]
      have ih' : ((subP T T.size r (fun p => nextDot T T.size (T.size + 1 - p) p) f (q + 1)).map (·.length)).sum = _ := ih
      have ee : (nx1 T) = fun p => nextDot T T.size (T.size + 1 - p) p := rfl
      rw [ih', hr, h3]
      have hx : (Str.mk (T.extract p q)).length = q - p := by show (T.extract p q).size = _; rw [Array.size_extract]; omega
      by_cases hlt : p < q
      · rw [if_pos hlt]
        simp only [List.map_cons, List.map_nil, List.sum_cons, List.sum_nil, hx]
        omega
      · rw [if_neg hlt]
        simp only [List.map_nil, List.sum_nil]
        omega
    · rename_i hq
      (try rw [hq])
      (try dsimp only)
      rw [hc]
      have hx : (Str.mk (T.extract p T.size)).length = T.size - p := by show (T.extract p T.size).size = _; rw [Array.size_extract]; omega
      by_cases hlt : p < T.size
      · rw [if_pos hlt]
        simp only [List.map_cons, List.map_nil, List.sum_cons, List.sum_nil, hx]
      · rw [if_neg hlt]
        simp only [List.map_nil, List.sum_nil]
        omega
theorem join_len : ∀ l : List Str, (Str.join (Str.ofString "") l).length = (l.map (·.length)).sum
  | [] => rfl
  | [x] => by
    show x.length = _
    simp only [List.map_cons, List.map_nil, List.sum_cons, List.sum_nil]
    omega
  | x :: y :: r => by
    have h := join_len (y :: r)
    show (x ++ Str.ofString "" ++ Str.join (Str.ofString "") (y :: r)).length = _
    rw [Str.length_append, Str.length_append, h]
    rw [show (Str.ofString "").length = 0 by decide +kernel]
    simp only [List.map_cons, List.sum_cons]
    omega
theorem txt_len (l : List Str) : (Txt.join (Str.ofString "") l).length = (l.map (·.length)).sum := by
  show (Builtin.Str.glued _ _).length = _
  rw [StrLaws.glued_eq_join, join_len]
theorem subD_len (x : Str) : (subD x).length = x.cps.size + cntD x.cps x.cps.size 0 := by
  unfold subD
  rw [txt_len, subP_len (by decide +kernel) _ _ (Nat.zero_le _) (by omega), Nat.sub_zero]
theorem cnt_q {a b c d e f : Nat} : cntD #[a, 13, 10, b, 13, 10, c, 13, 10, d, 13, 10, e, 13, 10, f, 13, 10] 18 0 =
    (if a = 46 then 1 else 0) + (if b = 46 then 1 else 0) + (if c = 46 then 1 else 0) + (if d = 46 then 1 else 0) + (if e = 46 then 1 else 0) + (if f = 46 then 1 else 0) := by
  simp [cntD, dot]
  omega
def dots (l : List Nat) : Nat := (l.filter fun c => !isRight c).length
theorem dots_cons (c : Nat) (l : List Nat) : dots (c :: l) = (if isRight c then 0 else 1) + dots l := by
  unfold dots
  rw [List.filter_cons]
  cases isRight c <;> simp <;> omega
theorem qC_alpha : ∀ c ∈ alpha, qC c ≠ 10 ∧ qC c ≠ 13 ∧ ((if qC c = 46 then 1 else 0) = if isRight c then 0 else 1) := by decide
theorem mail_size (a b c d e f : Nat) : (mailT [a, b, c, d, e, f]).cps.size = 12 := by rw [mailT_q]; rfl
theorem mail_no13 {a b c d e f : Nat} (ha : a ∈ alpha) (hb : b ∈ alpha) (hc : c ∈ alpha) (hd : d ∈ alpha) (he : e ∈ alpha) (hf : f ∈ alpha) (j : Nat) : (mailT [a, b, c, d, e, f]).cps.getD j 0 ≠ 13 := by
  rw [mailT_q]
  have h1 := (qC_alpha a ha).2.1
  have h2 := (qC_alpha b hb).2.1
  have h3 := (qC_alpha c hc).2.1
  have h4 := (qC_alpha d hd).2.1
  have h5 := (qC_alpha e he).2.1
  have h6 := (qC_alpha f hf).2.1
  match j with
  | 0 => exact h1
  | 1 => exact (by decide : (10 : Nat) ≠ 13)
  | 2 => exact h2
  | 3 => exact (by decide : (10 : Nat) ≠ 13)
  | 4 => exact h3
  | 5 => exact (by decide : (10 : Nat) ≠ 13)
  | 6 => exact h4
  | 7 => exact (by decide : (10 : Nat) ≠ 13)
  | 8 => exact h5
  | 9 => exact (by decide : (10 : Nat) ≠ 13)
  | 10 => exact h6
  | 11 => exact (by decide : (10 : Nat) ≠ 13)
  | j + 12 => simp
theorem mail_sub {a b c d e f : Nat} (ha : a ∈ alpha) (hb : b ∈ alpha) (hc : c ∈ alpha) (hd : d ∈ alpha) (he : e ∈ alpha) (hf : f ∈ alpha) :
    (subN (mailT [a, b, c, d, e, f])).cps.size = 18 ∧ (subD (subN (mailT [a, b, c, d, e, f]))).length = 18 + dots [a, b, c, d, e, f] := by
  obtain ⟨a1, -, a2⟩ := qC_alpha a ha
  obtain ⟨b1, -, b2⟩ := qC_alpha b hb
  obtain ⟨c1, -, c2⟩ := qC_alpha c hc
  obtain ⟨d1, -, d2⟩ := qC_alpha d hd
  obtain ⟨e1, -, e2⟩ := qC_alpha e he
  obtain ⟨f1, -, f2⟩ := qC_alpha f hf
  rw [mailT_q, subN_q a1 b1 c1 d1 e1 f1, subD_len]
  refine ⟨rfl, ?_⟩
  show 18 + cntD _ 18 0 = _
  rw [cnt_q, a2, b2, c2, d2, e2, f2]
  rw [dots_cons, dots_cons, dots_cons, dots_cons, dots_cons, dots_cons]
  show _ = 18 + (_ + (_ + (_ + (_ + (_ + (_ + 0))))))
  omega
end Mine
end
section
open PySem PySem.W PyProof.Rows PySem.Calls
set_option Elab.async false
set_option maxRecDepth 100000
set_option maxHeartbeats 8000000
namespace Mine
local macro_rules | `(tactic| walk_at "none 0") => `(tactic| fail)
local macro_rules | `(tactic| walk_at "none 1") => `(tactic| fail)
local macro_rules | `(tactic| walk_at "none 2") => `(tactic| fail)
local macro_rules | `(tactic| walk_at "none 3") => `(tactic| fail)
local macro_rules | `(tactic| walk_at "none 4") => `(tactic| fail)
local macro_rules | `(tactic| walk_at "none 5") => `(tactic| fail)
local macro_rules | `(tactic| walk_at "none 6") => `(tactic| fail)
local macro_rules | `(tactic| walk_at "none 7") => `(tactic| fail)
local macro_rules | `(tactic| walk_at "none 8") => `(tactic| fail)
local macro_rules | `(tactic| walk_at "none 9") => `(tactic| fail)
local macro_rules | `(tactic| walk_at "none 10") => `(tactic| fail)
local macro_rules | `(tactic| walk_at "none 11") => `(tactic| fail)
local macro_rules | `(tactic| walk_at "none 12") => `(tactic| fail)
local macro_rules | `(tactic| walk_at "none 13") => `(tactic| fail)
local macro_rules | `(tactic| walk_at "none 14") => `(tactic| fail)
local macro_rules | `(tactic| walk_at "none 15") => `(tactic| fail)
local macro_rules | `(tactic| walk_at "none 16") => `(tactic| fail)
local macro_rules | `(tactic| walk_at "none 17") => `(tactic| fail)
local macro_rules | `(tactic| walk_at "none 18") => `(tactic| fail)
local macro_rules | `(tactic| walk_at "none 19") => `(tactic| fail)
local macro_rules | `(tactic| walk_at "none 20") => `(tactic| fail)
local macro_rules | `(tactic| walk_at "none 21") => `(tactic| fail)
local macro_rules | `(tactic| walk_at "none 22") => `(tactic| fail)
local macro_rules | `(tactic| walk_at "none 23") => `(tactic| fail)
local macro_rules | `(tactic| walk_at "none 24") => `(tactic| fail)
local macro_rules | `(tactic| walk_at "none 25") => `(tactic| fail)
local macro_rules | `(tactic| walk_at "none 26") => `(tactic| fail)
local macro_rules | `(tactic| walk_at "none 27") => `(tactic| fail)
local macro_rules | `(tactic| walk_at "none 28") => `(tactic| fail)
local macro_rules | `(tactic| walk_at "none 29") => `(tactic| fail)
local macro_rules | `(tactic| walk_at "none 30") => `(tactic| fail)
local macro_rules | `(tactic| walk_at "none 31") => `(tactic| fail)
local macro_rules | `(tactic| walk_at "none 32") => `(tactic| fail)
local macro_rules | `(tactic| walk_at "call ref") => `(tactic| (refine stop_intro ?_))
local macro_rules | `(tactic| walk_at "eval ListComp") => `(tactic| (refine stop_intro ?_))
theorem mailC_len (c : Nat) : (mailC c).length = 2 := by rw [mailC_q]; rfl
theorem ml {prog : Program} {w : World} {A : Around} {s : Shared} {h₀ : Heap} {loose : List Str} {mean : ExcName → Option Value} {mg mb : Str → Option Value}
  (X₀ : (hd.heap_39 w.params).In h₀) (T : Top hd.view_39 loose mean mg mb h₀) (st : h₀.StaysIn s.heap) (hroom : A.depth + 2 < recursionLimit) (hh : A.handled = none) (x : Str) (un : Tok)
  {a b c d e f : Nat} (hx : x.cps.toList = [a, b, c, d, e, f]) (ha : a ∈ alpha) (hb : b ∈ alpha) (hc : c ∈ alpha) (hd' : d ∈ alpha) (he : e ∈ alpha) (hf : f ∈ alpha)
   : codeAny (model prog w) A (.call (.ref 149) ⟨[.str x un], []⟩) (fun r s' => match r with | .ok (.ret v) => (∃ z u, v = .str z u ∧ z.length = 18 + dots [a, b, c, d, e, f]) ∧ Did s s' [] (fun _ => True) | _ => False) s := by
  have hk : hd.heap_39 w.params = hd.heap_39 w.params ∧ PySem.Challenge.rw_oc0087_01 = PySem.Challenge.rw_oc0087_01 := by
    k_fill
    exact ⟨rfl, rfl⟩
  clear hk
  have hx6 : x.cps.size = 6 := by rw [← Array.length_toList, hx]; rfl
  have hal : ∀ (i : Nat) c', x.cps[i]? = some c' → c' ∈ alpha := by
    intro i c' hi
    rw [← Array.getElem?_toList, hx] at hi
    have := List.mem_of_getElem? hi
    simp only [List.mem_cons, List.not_mem_nil, or_false] at this
    rcases this with rfl | rfl | rfl | rfl | rfl | rfl <;> assumption
  refine' enter2 (K := hd.heap_39 w.params) (R := fun v s' => (∃ z u, v = .str z u ∧ z.length = 18 + dots [a, b, c, d, e, f]) ∧ Did s s' [] (fun _ => True)) (binds := [("signs", .str x un)]) X₀ T st [] ?hn ?ho ?hcd (by omega) ?hb ?hl ?h ?c1 ?c2 ?c3 ?c4
  case ho => k_is
  case hcd => k_is
  case hn => intro p hp; cases hp
  case hb => exact BindsTo.of_eq rfl
  case hl => exact locs rfl
  case c4 => decide
  case c1 => exact rfl
  case c2 => exact rfl
  case c3 => exact rfl
  case h =>
    intro g L' h₁ F N X T st' lt kg
    k_steps
    refine stop_elim ?_
    refine ListComp_S (show (A.deeper _).handled = none from hh) F N (fun Q' q => nameX_L F rfl q) (by with_unfolding_all rfl) (by decide) (by rfl) (by decide) (by rfl) (by rw [hx6, PySem.sizeLine_eq]; decide) fun g1 => ?_
    clear F N
    refine rest_inv (fun i ys => StrsAre ys ((x.cps.toList.take i).map mailC)) .nil ?_ ?_
    · rintro i v ys I oI C oC D m₂ h tk E' hi hI ⟨c', u, hc', rfl⟩ hC hx2 F N off ⟨n1, n2, n3⟩
      have hca := occ_mail c' (hal i c' hc')
      have htk : (x.cps.toList.take (i + 1)).map mailC = (x.cps.toList.take i).map mailC ++ [mailC c'] := by
        rw [List.take_add_one, Array.getElem?_toList, hc', List.map_append]; rfl
      k_steps
      · rename (Builtin.Str.occurrences _ _ _ _ _).isEmpty = _ => hoc
        rw [hca] at hoc
        rw [htk]
        have : mailC c' = ({ cps := #[c'] } : Str) ++ Str.ofString "\n" := by
          unfold mailC
          rw [if_neg (by simpa using hoc)]
          rfl
        rw [this]
        exact strs_append hI
      · rename (Builtin.Str.occurrences _ _ _ _ _).isEmpty = _ => hoc
        rw [hca] at hoc
        rw [htk]
        have : mailC c' = Str.ofString "." ++ Str.ofString "\n" := by
          unfold mailC
          rw [if_pos (by simp only [Bool.not_eq_false', decide_eq_true_eq] at hoc; exact hoc)]
          decide +kernel
        rw [this]
        exact strs_append hI
    · intro ys hI D h tk F N off
      rw [List.take_of_length_le (by rw [Array.length_toList]; omega)] at hI
      k_steps
      rw [hx] at hI
      refine join_list (N.isList (.head _)) hI ?_ fun t' k => ?_
      · simp only [List.map_cons, List.map_nil, List.sum_cons, List.sum_nil, mailC_len]
        show _ + 6 * 0 ≤ _
        decide
      · k_steps
        refine stop_elim ?_
        obtain ⟨e1, e2⟩ := mail_sub ha hb hc hd' he hf
        refine use_call (qd X T (fun b o e => F.keep b o e) (by rw [depth_deeper]; omega) (show (A.deeper _).handled = none from hh) (mailT [a, b, c, d, e, f]) _ (by rw [mail_size]; decide) (mail_no13 ha hb hc hd' he hf) (by rw [e1]; decide)) ?_
        rintro v s' ⟨⟨uu, rfl⟩, h8, tk8, rfl, hk8, -⟩
        obtain ⟨F8, N8⟩ := after_none F N hk8
        clear F N
        k_steps
        exact endB_intro F8 N8 fun hk _ => ⟨⟨_, _, rfl, e2⟩, _, _, rfl, hk, trivial⟩
end Mine
end
section
open PySem PySem.W PyProof.Rows PySem.Calls
set_option Elab.async false
set_option maxRecDepth 100000
set_option maxHeartbeats 8000000
namespace Mine
theorem bitAnd_nat {x y : Int} (hx : 0 ≤ x) (hy : 0 ≤ y) : Builtin.bitAnd x y = ((x.toNat &&& y.toNat : Nat) : Int) := by
  obtain ⟨a, rfl⟩ := Int.eq_ofNat_of_zero_le hx
  obtain ⟨b, rfl⟩ := Int.eq_ofNat_of_zero_le hy
  rfl
theorem bit_at {x : Int} (hx : 0 ≤ x) (i : Nat) : (Builtin.bitAnd x ((2 ^ i : Nat) : Int) = ((2 ^ i : Nat) : Int)) ↔ x.toNat.testBit i = true := by
  rw [bitAnd_nat hx (Int.natCast_nonneg _), Int.toNat_natCast]
  constructor
  · intro h
    have h' : x.toNat &&& 2 ^ i = 2 ^ i := by exact_mod_cast h
    have := congrArg (fun z => z.testBit i) h'
    simpa [Nat.testBit_and] using this
  · intro h
    have : x.toNat &&& 2 ^ i = 2 ^ i := by
      apply Nat.eq_of_testBit_eq
      intro k
      rw [Nat.testBit_and, Nat.testBit_two_pow]
      by_cases hk : i = k
      · subst hk; simp [h]
      · simp [hk]
    exact_mod_cast this
theorem bit_two {x : Int} (hx : 0 ≤ x) (i j : Nat) (b : Nat) (hb : b = 2 ^ i ||| 2 ^ j) : (Builtin.bitAnd x (b : Int) = (b : Int)) ↔ (x.toNat.testBit i = true ∧ x.toNat.testBit j = true) := by
  rw [← bit_at hx i, ← bit_at hx j, bitAnd_nat hx (Int.natCast_nonneg _), bitAnd_nat hx (Int.natCast_nonneg _), bitAnd_nat hx (Int.natCast_nonneg _), Int.toNat_natCast, Int.toNat_natCast, Int.toNat_natCast]
  have e1 : (2 ^ i ||| 2 ^ j) &&& 2 ^ i = 2 ^ i := by rw [Nat.and_comm]; apply Nat.eq_of_testBit_eq; intro k; simp only [Nat.testBit_and, Nat.testBit_or]; cases (2 ^ i).testBit k <;> simp
  have e2 : (2 ^ i ||| 2 ^ j) &&& 2 ^ j = 2 ^ j := by rw [Nat.and_comm]; apply Nat.eq_of_testBit_eq; intro k; simp only [Nat.testBit_and, Nat.testBit_or]; cases (2 ^ j).testBit k <;> simp
  subst hb
  constructor
  · intro h
    have h' : x.toNat &&& (2 ^ i ||| 2 ^ j) = 2 ^ i ||| 2 ^ j := by exact_mod_cast h
    constructor
    · have : x.toNat &&& 2 ^ i = 2 ^ i := by
        rw [← e1, ← Nat.and_assoc, h']
      exact_mod_cast this
    · have : x.toNat &&& 2 ^ j = 2 ^ j := by
        rw [← e2, ← Nat.and_assoc, h']
      exact_mod_cast this
  · rintro ⟨h1, h2⟩
    have h1' : x.toNat &&& 2 ^ i = 2 ^ i := by exact_mod_cast h1
    have h2' : x.toNat &&& 2 ^ j = 2 ^ j := by exact_mod_cast h2
    have : x.toNat &&& (2 ^ i ||| 2 ^ j) = 2 ^ i ||| 2 ^ j := by rw [Nat.and_or_distrib_left, h1', h2']
    exact_mod_cast this
def cdF (i : Nat) (n : Int) : Nat := (pickF i n (rowsOf i)).cps.getD 0 0
theorem right_1 {i : Nat} {n : Int} {b : Nat} (hn : 0 ≤ n) (c : Nat) (r : Row) (hi : i ≠ 0) (hr : rowsOf i = [r]) (hb : r.b = ((2 ^ b : Nat) : Int)) (hc : r.ch = ⟨#[c]⟩) (hcr : isRight c = true) : isRight (cdF i n) = n.toNat.testBit b := by
  unfold cdF
  rw [hr, pickF, pickF, condF_1 hi, if_neg hi]
  have h := bit_at hn b
  rw [← hb] at h
  cases ht : n.toNat.testBit b with
  | true => rw [if_pos (decide_eq_true (h.mpr ht)), hc]; exact hcr
  | false => rw [if_neg (by rw [decide_eq_true_eq, h, ht]; decide)]; decide +kernel
theorem right_3 {i : Nat} {n : Int} {b b' : Nat} (hn : 0 ≤ n) (c1 c2 c3 : Nat) (r1 r2 r3 : Row) (hi : i ≠ 0) (hr : rowsOf i = [r1, r2, r3]) (hb1 : r1.b = ((2 ^ b' ||| 2 ^ b : Nat) : Int)) (hb2 : r2.b = ((2 ^ b' : Nat) : Int)) (hb3 : r3.b = ((2 ^ b : Nat) : Int))
    (hc1 : r1.ch = ⟨#[c1]⟩) (hc2 : r2.ch = ⟨#[c2]⟩) (hc3 : r3.ch = ⟨#[c3]⟩) (h1 : isRight c1 = true) (h2 : isRight c2 = false) (h3 : isRight c3 = true) : isRight (cdF i n) = n.toNat.testBit b := by
  unfold cdF
  rw [hr, pickF, pickF, pickF, pickF, condF_1 hi, condF_1 hi, condF_1 hi, if_neg hi]
  have e3 := bit_at hn b
  have e2 := bit_at hn b'
  have e1 := bit_two hn b' b _ rfl
  rw [← hb1] at e1
  rw [← hb2] at e2
  rw [← hb3] at e3
  cases ht : n.toNat.testBit b with
  | true =>
    cases ht' : n.toNat.testBit b' with
    | true => rw [if_pos (decide_eq_true (e1.mpr ⟨ht', ht⟩)), hc1]; exact h1
    | false => rw [if_neg (by rw [decide_eq_true_eq, e1, ht']; simp), if_neg (by rw [decide_eq_true_eq, e2, ht']; simp), if_pos (decide_eq_true (e3.mpr ht)), hc3]; exact h3
  | false =>
    cases ht' : n.toNat.testBit b' with
    | true => rw [if_neg (by rw [decide_eq_true_eq, e1, ht]; simp), if_pos (decide_eq_true (e2.mpr ht')), hc2]; exact h2
    | false => rw [if_neg (by rw [decide_eq_true_eq, e1, ht']; simp), if_neg (by rw [decide_eq_true_eq, e2, ht']; simp), if_neg (by rw [decide_eq_true_eq, e3, ht]; simp)]; decide +kernel
def wt6 (x : Int) : Nat := ((List.range 6).filter fun i => x.toNat.testBit i).length
theorem rights_wt {q wd : Int} (hq : 0 ≤ q) (h0 : 0 ≤ wd) (h1 : wd < 64) :
    ([cdF 4 (q * 64 + wd), cdF 5 (q * 64 + wd), cdF 6 (q * 64 + wd), cdF 7 (q * 64 + wd), cdF 8 (q * 64 + wd), cdF 9 (q * 64 + wd)].filter isRight).length = wt6 wd := by
  have hn : 0 ≤ q * 64 + wd := by omega
  have ht : ∀ i, i < 6 → (q * 64 + wd).toNat.testBit i = wd.toNat.testBit i := by
    intro i hi
    have e : wd.toNat = (q * 64 + wd).toNat % 2 ^ 6 := by omega
    rw [e, Nat.testBit_mod_two_pow]
    simp [hi]
  have a4 := (right_1 (b := 5) hn 114 _ (by decide) (show rowsOf 4 = [_] from rfl) rfl rfl rfl).trans (ht 5 (by decide))
  have a5 := (right_1 (b := 4) hn 119 _ (by decide) (show rowsOf 5 = [_] from rfl) rfl rfl rfl).trans (ht 4 (by decide))
  have a6 := (right_3 (b := 3) (b' := 10) hn 115 83 120 _ _ _ (by decide) (show rowsOf 6 = [_, _, _] from rfl) rfl rfl rfl rfl rfl rfl rfl rfl rfl).trans (ht 3 (by decide))
  have a7 := (right_1 (b := 2) hn 114 _ (by decide) (show rowsOf 7 = [_] from rfl) rfl rfl rfl).trans (ht 2 (by decide))
  have a8 := (right_1 (b := 1) hn 119 _ (by decide) (show rowsOf 8 = [_] from rfl) rfl rfl rfl).trans (ht 1 (by decide))
  have a9 := (right_3 (b := 0) (b' := 9) hn 116 84 120 _ _ _ (by decide) (show rowsOf 9 = [_, _, _] from rfl) rfl rfl rfl rfl rfl rfl rfl rfl rfl).trans (ht 0 (by decide))
  unfold wt6
  rw [show List.range 6 = [0, 1, 2, 3, 4, 5] from rfl]
  simp only [List.filter_cons, List.filter_nil, a4, a5, a6, a7, a8, a9]
  generalize wd.toNat.testBit 0 = b0
  generalize wd.toNat.testBit 1 = b1
  generalize wd.toNat.testBit 2 = b2
  generalize wd.toNat.testBit 3 = b3
  generalize wd.toNat.testBit 4 = b4
  generalize wd.toNat.testBit 5 = b5
  cases b0 <;> cases b1 <;> cases b2 <;> cases b3 <;> cases b4 <;> cases b5 <;> rfl
theorem wt6_le (x : Int) : wt6 x ≤ 6 := by
  unfold wt6
  exact Nat.le_trans (List.length_filter_le _ _) (by rw [List.length_range]; decide)
theorem bits_le {x : Int} {n : Nat} (h : x.natAbs < 2 ^ n) : Builtin.Int.intBits x ≤ n := by
  unfold Builtin.Int.intBits
  split
  · exact Nat.zero_le _
  · rename_i hx
    have : x.natAbs ≠ 0 := by
      intro q
      apply hx
      have : x = 0 := by omega
      rw [this]; rfl
    have := (Nat.log2_lt this).mpr h
    omega
theorem pow_bits {x : Int} {k : Nat} (h : -1000000 ≤ x ∧ x ≤ 1000000) (hk : k ≤ 6) : Builtin.Int.intBits (x ^ k) ≤ 120 := by
  refine bits_le ?_
  rw [Int.natAbs_pow]
  have h1 : x.natAbs ≤ 2 ^ 20 - 1 := by omega
  have h2 : x.natAbs ^ k ≤ (2 ^ 20 - 1) ^ k := Nat.pow_le_pow_left h1 k
  have h3 : (2 ^ 20 - 1) ^ k ≤ (2 ^ 20 - 1) ^ 6 := Nat.pow_le_pow_right (by decide) hk
  have h4 : (2 ^ 20 - 1) ^ 6 < 2 ^ 120 := by decide
  omega
theorem mul_ok {x y : Int} {k l : Nat} (hx : -1000000 ≤ x ∧ x ≤ 1000000) (hy : -1000000 ≤ y ∧ y ≤ 1000000) (hk : k ≤ 6) (hl : l ≤ 6) : IntMulOk (x ^ k) (y ^ l) :=
  IntMulOk.of_bits (Nat.le_trans (pow_bits hx hk) (by decide)) (Nat.le_trans (pow_bits hy hl) (by decide))
end Mine
end
section
open PySem PySem.W PyProof.Rows PySem.Calls
set_option Elab.async false
set_option maxRecDepth 100000
set_option maxHeartbeats 8000000
namespace Mine
theorem with_law {w : World} {G : List Stmt → Scope → Prop} {name qual name' qual' : Str} {params params' : Arguments} {body body' : List Stmt} {scope scope' : Scope} {dV kV doc pm cdv ct oc dV' kV' doc' pm' cdv' ct' oc' : Value} {an od an' od' : Option Addr} {osl osl' : Array (Option Value)}
    (ho : (hd.heap_39 w.params).lookup 154 = some ⟨oc, od, .func (fnOf name qual params body scope dV kV doc pm an cdv ct), osl⟩)
    (ho' : (hd.heap_39 w.params).lookup 154 = some ⟨oc', od', .func (fnOf name' qual' params' body' scope' dV' kV' doc' pm' an' cdv' ct'), osl'⟩)
    (h : G body' scope') : G body scope := by
  have e := ho.symm.trans ho'
  injection e with e
  injection e with e1 e2 e3 e4
  injection e3 with e3
  injection e3 with e1 e2 e3 e4 e5
  injection e4 with e4
  rw [e4, e5]; exact h
theorem join_at {M : Model} {A : Around} {E : Value → Shared → Prop} {s : Shared} {x : Sem Value} {Q : Value → Shared → Prop} (P : Value → Shared → Prop) (key : ∀ v s', P v s' → Q v s') (walk : wpAny M A x P E s) : wpAny M A x Q E s := wpAny_mono walk key fun _ _ e => e
def nth : List Stmt → Nat → Stmt
  | [], _ => .Pass ⟨0, 0, 0, 0⟩
  | x :: _, 0 => x
  | _ :: r, n + 1 => nth r n
structure TailIn (g : Heap) (L' : Addr) (h : Heap) (m : Str → Option Value) (M : Addr) (mv : List Value) (ms : List Int) (mc : Nat) (t : Int) (u1 : Tok) (o1 o2 o3 : Obj) : Prop where
  F : Fr g L' h m
  N : News g L' h [(M, listOf mv.toArray mc), (L' + 1 + 1 + 1, o3), (L' + 1 + 1, o2), (L' + 1, o1)]
  d1 : o1.data = .cell (some (.int t u1))
  d2 : o2.data = .cell (some (.ref M))
  d3 : o3.data = .cell none
  hlt : @Ne Nat (L' + 1 + 1 + 1) M ∧ @Ne Nat (L' + 1 + 1) M ∧ @Ne Nat (L' + 1) M
  hI : IntsAre mv ms
  hl1 : 1 ≤ ms.length
  hl5 : ms.length ≤ 5
  hb : ∀ x ∈ ms, 0 ≤ x ∧ x < 65536
  ht : -500000 ≤ t ∧ t < 500000
end Mine
end
section
open PySem PySem.W PyProof.Rows PySem.Calls
set_option Elab.async false
set_option maxRecDepth 100000
set_option maxHeartbeats 8000000
namespace Mine
open LCg
/-- a turn's end of a comprehension whose target is a cell -/
def CEnd (h₀ : Heap) (L : Addr) (m : Str → Option Value) (s₁ : Shared) (led : List (Addr × Obj)) (R : Prop) (s₂ : Shared) : Prop := ∃ h' tk, s₂ = { s₁ with heap := h', toks := tk } ∧ Fr h₀ L h' m ∧ News h₀ L h' led ∧ R
theorem CEnd.intro {h₀ : Heap} {L : Addr} {m : Str → Option Value} {s₁ : Shared} {led all : List (Addr × Obj)} {R : Prop} {h' : Heap} {tk : Nat} (F : Fr h₀ L h' m) (N : News h₀ L h' all) (sub : ∀ p ∈ led, p ∈ all) (r : R) : CEnd h₀ L m s₁ led R { s₁ with heap := h', toks := tk } :=
  ⟨h', tk, rfl, F, fun p hp => N p (sub p hp), r⟩
section
variable {prog : Program} {w : World} {A : Around} {E : Value → Shared → Prop} {s : Shared} {h₀ : Heap} {L : Addr} {m : Str → Option Value} {env : Env}
theorem block_C {elt iter : Expr} {x : Str} {px : Pos} {ifs : List Expr} {scope : Scope} {cl : List (Str × Addr)} {pos : Pos} {s₂ : Shared} {I : Addr} {n : Nat} {P : Nat → Value → Prop} {St : Nat → Heap → Prop} {news : List (Addr × Obj)} {RR : Value → Addr → Result → Shared → Prop}
    (Inv : Nat → List Value → Prop) (W : Walks prog w A I [I] [I] n P St) (hsz : n ≤ sizeLine) (hIo : ∀ i h, St i h → ∃ o, h.get? I = some o)
    (hSt : ∀ i (h h' : Heap) (o : Obj), St i h → h.get? I = some o → h'.get? I = some o → St i h')
    (hone : ∀ k, cellsFrom k scope.names cl = (x, k) :: cl) (hpush : ∀ h, pushCells h scope.names = h.push { cls := .type "cell", data := .cell none })
    (hkind : scope.kind = .function) (hx : (relabel scope env).names.lookup x = some .cell) (hst : St 0 s₂.heap) (hIlt : I < s₂.heap.objs.size)
    (F : Fr h₀ L s₂.heap m) (N : News h₀ L s₂.heap news) (hIL : L ≠ I) (hI₀ : h₀.get? I = none) (off : ∀ p ∈ news, p.1 ≠ I) (h0 : Inv 0 [])
    (turn : ∀ i ys v oI C oC c oc D h tk (E' : Value → Shared → Prop), i < n → Inv i ys → P i v → oc.data = .cell (some v) → Fr h₀ L h m → News h₀ L h ((I, oI) :: (C, oC) :: (c, oc) :: (D, lst ys) :: news) →
      (∀ p ∈ news, @LT.lt Nat _ p.1 I) → (@LT.lt Nat _ I D ∧ @LT.lt Nat _ D C ∧ @LT.lt Nat _ C c) →
      wpAny (model prog w) A (forIn ifs true fun ce r => if r = true then do let ok ← isTrue ce (compEnvC scope ((x, c) :: cl) C env) (eval ce (compEnvC scope ((x, c) :: cl) C env)); pure (ForInStep.yield ok) else pure (ForInStep.yield r)) (fun ok s' =>
        if ok = true then wpAny (model prog w) A (eval elt (compEnvC scope ((x, c) :: cl) C env)) (fun y s₄ => CEnd h₀ L m { s₂ with heap := h, toks := tk } ((I, oI) :: (C, oC) :: (c, oc) :: (D, lst ys) :: news) (Inv (i + 1) (ys ++ [y])) s₄) E' s'
        else CEnd h₀ L m { s₂ with heap := h, toks := tk } ((I, oI) :: (C, oC) :: (c, oc) :: (D, lst ys) :: news) (Inv (i + 1) ys) s') E' { s₂ with heap := h, toks := tk })
    (hlast : ∀ p ∈ news, @LT.lt Nat _ p.1 I)
    (hRR : ∀ D C h tk m' ys, Fr h₀ L h m → News h₀ L h ((D, lst ys) :: news) → (∀ p ∈ news, @LT.lt Nat _ p.1 D) → h.Ns C m' → h₀.get? C = none → h₀.get? D = none → C ≠ L → D ≠ L → C ≠ D → (∀ p ∈ news, p.1 ≠ C) → Inv n ys → RR (.ref D) C (.ok .next) { s₂ with heap := h, toks := tk }) :
    wpAny (model prog w) A (newList []) (fun acc s₃ => wpAny (model prog w) A (newFunctionEnv scope env.globals cl [] env.qual none .none (some env)) (fun cenv s₄ =>
      codeAny (model prog w) A (.compStart (.ListComp elt [⟨.Name x px, iter, ifs, 0⟩] scope pos) 0 (.ref I) acc { cenv with scope := relabel scope env }) (RR acc cenv.locals) s₄) E s₃) E s₂ := by
  refine wpAny_newObj_type ?_
  have fresh : ∀ a, s₂.heap.objs.size ≤ a → s₂.heap.get? a = none := fun a ha => by
    cases e : s₂.heap.get? a with
    | none => rfl
    | some o' => exact absurd (Heap.lt_size e) (Nat.not_lt.mpr ha)
  have fresh₀ : ∀ a, s₂.heap.objs.size ≤ a → h₀.get? a = none := fun a ha => by
    cases e : h₀.get? a with
    | none => rfl
    | some o' => have := F.keep a o' e; rw [fresh a ha] at this; cases this
  generalize hD : s₂.heap.objs.size = D at *
  have hH2 : (s₂.heap.push { cls := .type "list", dict := none, data := .seq ([] : List Value).toArray }).objs.size = D + 1 := by rw [Heap.size_push, hD]
  have upD : ∀ b o, s₂.heap.get? b = some o → (s₂.heap.push { cls := .type "list", dict := none, data := .seq ([] : List Value).toArray }).get? b = some o := fun b o e => Heap.get?_push_of_some _ e
  have atD : (s₂.heap.push { cls := .type "list", dict := none, data := .seq ([] : List Value).toArray }).get? D = some (lst []) := by rw [← hD]; exact Heap.get?_push_size _ rfl
  generalize s₂.heap.push { cls := .type "list", dict := none, data := .seq ([] : List Value).toArray } = H2 at hH2 upD atD
  simp only [newFunctionEnv, Option.isSome_some, if_true]
  refine wpAny_bind (wpAny_alloc ?_)
  refine wpAny_bind (wpAny_layCells _ (fun name kind cells => by cases hkc : kind == NameKind.cell <;> simp [hkc]) _ _ _ _ ?_)
  dsimp only
  rw [Heap.size_push, hH2, hone, hpush]
  have hH3 : (H2.push { cls := .type "dict", data := .dict #[] }).objs.size = D + 1 + 1 := by rw [Heap.size_push, hH2]
  have upC : ∀ b o, H2.get? b = some o → (H2.push { cls := .type "dict", data := .dict #[] }).get? b = some o := fun b o e => Heap.get?_push_of_some _ e
  have nsC : (H2.push { cls := .type "dict", data := .dict #[] }).Ns (D + 1) (fun _ => none) := by rw [← hH2]; exact Heap.Ns.new H2 (.type "dict")
  generalize H2.push { cls := .type "dict", data := .dict #[] } = H3 at hH3 upC nsC
  have upc : ∀ b o, H3.get? b = some o → (H3.push { cls := .type "cell", data := .cell none }).get? b = some o := fun b o e => Heap.get?_push_of_some _ e
  have atc : (H3.push { cls := .type "cell", data := .cell none }).IsCell (D + 1 + 1) none := by rw [← hH3]; exact ⟨_, Heap.get?_push_size _ rfl, rfl⟩
  generalize H3.push { cls := .type "cell", data := .cell none } = H4 at upc atc
  refine wpAny_bind ?_
  rw [List.forIn_nil]
  refine wpAny_pure (wpAny_pure ?_)
  dsimp only
  have old : ∀ b o, s₂.heap.get? b = some o → H4.get? b = some o := fun b o e => upc b o (upC b o (upD b o e))
  have hacc : H4.get? D = some (lst []) := upc _ _ (upC _ _ atD)
  have hns : H4.Ns (D + 1) (fun _ => none) := nsC.at' fun o e => upc _ _ e
  have hI4 : @LT.lt Nat _ I D := hIlt
  have hL4 : @LT.lt Nat _ L D := by rw [← hD]; exact F.ns.lt
  have hD₀ : h₀.get? D = none := fresh₀ _ (Nat.le_refl _)
  have hC₀ : h₀.get? (D + 1) = none := fresh₀ _ (Nat.le_succ _)
  have hc₀ : h₀.get? (D + 1 + 1) = none := fresh₀ _ (Nat.le_succ_of_le (Nat.le_succ _))
  have dC : @Ne Nat D (D + 1) := by omega
  have dc : @Ne Nat D (D + 1 + 1) := by omega
  have Cc : @Ne Nat (D + 1) (D + 1 + 1) := by omega
  have ID : @Ne Nat I D := by omega
  have IC : @Ne Nat I (D + 1) := by omega
  have Ic : @Ne Nat I (D + 1 + 1) := by omega
  have LD : @Ne Nat L D := by omega
  have LC : @Ne Nat L (D + 1) := by omega
  have Lc : @Ne Nat L (D + 1 + 1) := by omega
  have nlt : ∀ p ∈ news, @LT.lt Nat _ p.1 D := fun p hp => by have := hlast p hp; omega
  have nD : ∀ p ∈ news, @Ne Nat p.1 D := fun p hp => by have := nlt p hp; omega
  have nC : ∀ p ∈ news, @Ne Nat p.1 (D + 1) := fun p hp => by have := nlt p hp; omega
  have nc : ∀ p ∈ news, @Ne Nat p.1 (D + 1 + 1) := fun p hp => by have := nlt p hp; omega
  have loop : ∀ s₃ : Shared, s₃ = { s₂ with heap := H4 } →
      codeAny (model prog w) A (.compLoop (.ListComp elt [⟨.Name x px, iter, ifs, 0⟩] scope pos) 0 (.ref I) (.ref D) (compEnvC scope ((x, D + 1 + 1) :: cl) (D + 1) env)) (RR (.ref D) (D + 1)) s₃ := by
    rintro s₃ rfl
    refine codeAny_compLoop_tests
      (fun k s' => ∃ h' tk i ys m' v₀, s' = { s₂ with heap := h', toks := tk } ∧ i ≤ n ∧ k = n + 1 - i ∧ ys.length ≤ i ∧ St i h' ∧ Fr h₀ L h' m ∧ h'.Ns (D + 1) m' ∧ h'.IsCell (D + 1 + 1) v₀ ∧ News h₀ L h' ((D, lst ys) :: news) ∧ Inv i ys) ?_ (n + 1)
      ⟨H4, _, 0, [], _, none, rfl, Nat.zero_le _, rfl, Nat.le_refl _, W.frame _ _ _ hst fun b _ o e => old b o e, F.keeps old, hns, atc, fun p hp => ?_, h0⟩
    · rintro k s' ⟨h', tk, i, ys, m', v₀, rfl, hi, rfl, hyl, hst', F', hn', hc', N', R'⟩
      by_cases hlt : i < n
      · refine W.item i _ _ _ hlt hst' fun v h₂ tk₂ hPv hst₂ hk₂ => ?_
        have k1 : ∀ b o, b ≠ I → h'.get? b = some o → h₂.get? b = some o := fun b o hb e => hk₂ b o (by simpa using hb) e
        have hc₂ : h₂.IsCell (D + 1 + 1) v₀ := by obtain ⟨o, e, r⟩ := hc'; exact ⟨o, k1 _ _ (Ne.symm Ic) e, r⟩
        refine wpAny_assign_Name (wpAny_storeName_cell (c := D + 1 + 1) hkind hx (by show List.lookup x ((x, _) :: cl) = _; simp) hc₂ fun h₃ hc₃ hs₃ => ?_)
        have hst₃ : St (i + 1) h₃ := W.frame _ _ _ hst₂ fun b hb o e => hs₃.extBut b o (fun q => Ic (by rw [List.mem_singleton.mp hb] at q; exact q)) e
        obtain ⟨oI, heI⟩ := hIo _ _ hst₃
        obtain ⟨oc, hec, hoc⟩ := hc₃
        have hn₂ : h₂.Ns (D + 1) m' := hn'.at' fun o e => k1 _ _ (Ne.symm IC) e
        have hn₃ : h₃.Ns (D + 1) m' := hn₂.at' fun o e => hs₃.extBut _ _ Cc e
        obtain ⟨oC, heC, hoC⟩ := ns_obj hn₃
        have F₃ : Fr h₀ L h₃ m := (fr_but F' hk₂ hIL hI₀).change hs₃ (Ne.symm Lc) hc₀
        have N₃ : News h₀ L h₃ ((I, oI) :: (D + 1, oC) :: (D + 1 + 1, oc) :: (D, lst ys) :: news) := fun p hp => by
          rcases List.mem_cons.mp hp with rfl | hp
          · exact ⟨heI, Ne.symm hIL, hI₀⟩
          · rcases List.mem_cons.mp hp with rfl | hp
            · exact ⟨heC, Ne.symm LC, hC₀⟩
            · rcases List.mem_cons.mp hp with rfl | hp
              · exact ⟨hec, Ne.symm Lc, hc₀⟩
              · have z := N' p hp
                rcases List.mem_cons.mp hp with rfl | hp
                · exact ⟨hs₃.extBut _ _ dc (k1 _ _ (Ne.symm ID) z.1), z.2⟩
                · exact ⟨hs₃.extBut _ _ (nc p hp) (k1 _ _ (off p hp) z.1), z.2⟩
        refine wpAny_mono (turn i ys v oI (D + 1) oC (D + 1 + 1) oc D h₃ _ _ hlt R' hPv hoc F₃ N₃ hlast ⟨hI4, Nat.lt_succ_self _, Nat.lt_succ_self _⟩) (fun ok s₄ h₄ => ?_) fun _ _ e => e
        have fin : ∀ (s₅ : Shared) (R : Prop), CEnd h₀ L m { s₂ with heap := h₃, toks := tk₂ } ((I, oI) :: (D + 1, oC) :: (D + 1 + 1, oc) :: (D, lst ys) :: news) R s₅ →
            ∃ h₅ tk₅, s₅ = { s₂ with heap := h₅, toks := tk₅ } ∧ St (i + 1) h₅ ∧ Fr h₀ L h₅ m ∧ h₅.Ns (D + 1) m' ∧ h₅.IsCell (D + 1 + 1) (some v) ∧ News h₀ L h₅ ((D, lst ys) :: news) ∧ R := by
          rintro s₅ R ⟨h₅, tk₅, rfl, F₅, N₅, r⟩
          have zI := (N₅ (I, oI) (.head _)).1
          have zC := (N₅ (D + 1, oC) (.tail _ (.head _))).1
          have zc := (N₅ (D + 1 + 1, oc) (.tail _ (.tail _ (.head _)))).1
          exact ⟨h₅, tk₅, rfl, hSt _ _ _ _ hst₃ heI zI, F₅, hoC.ns zC, ⟨_, zc, hoc⟩, fun p hp => N₅ p (.tail _ (.tail _ (.tail _ hp))), r⟩
        cases ok with
        | true =>
          simp only [if_true] at h₄ ⊢
          refine wpAny_mono h₄ (fun y s₅ h₅ => ?_) fun _ _ e => e
          obtain ⟨h₆, tk₆, rfl, st₆, F₆, n₆, c₆, N₆, r₆⟩ := fin _ _ h₅
          refine append_at (hsz := by show ys.toArray.size ≤ sizeLine; rw [List.size_toArray]; exact Nat.le_trans (Nat.le_trans hyl hi) hsz) (N₆ _ (.head _)).1 fun h₇ hs₇ hD₇ => ?_
          refine ⟨n + 1 - (i + 1), by omega, h₇, tk₆, i + 1, ys ++ [y], m', some v, rfl, hlt, rfl, by rw [List.length_append, List.length_singleton]; exact Nat.succ_le_succ hyl, W.frame _ _ _ st₆ fun b hb o e => hs₇.extBut b o (fun q => ID (by rw [List.mem_singleton.mp hb] at q; exact q)) e, F₆.change hs₇ (Ne.symm LD) hD₀,
            n₆.sameBut hs₇ (Ne.symm dC), ?_, fun p hp => ?_, r₆⟩
          · obtain ⟨o, e, r⟩ := c₆; exact ⟨o, hs₇.extBut _ _ (Ne.symm dc) e, r⟩
          · rcases List.mem_cons.mp hp with rfl | hp
            · exact ⟨hD₇.trans (congrArg some (lst_snoc ys y)), Ne.symm LD, hD₀⟩
            · exact ⟨hs₇.extBut _ _ (nD p hp) (N₆ p (.tail _ hp)).1, (N₆ p (.tail _ hp)).2⟩
        | false =>
          simp only [Bool.false_eq_true, if_false] at h₄ ⊢
          obtain ⟨h₆, tk₆, rfl, st₆, F₆, n₆, c₆, N₆, r₆⟩ := fin _ _ h₄
          exact ⟨n + 1 - (i + 1), by omega, h₆, tk₆, i + 1, ys, m', some v, rfl, hlt, rfl, Nat.le_succ_of_le hyl, st₆, F₆, n₆, c₆, N₆, r₆⟩
      · obtain rfl : i = n := Nat.le_antisymm hi (Nat.not_lt.mp hlt)
        refine W.done _ _ _ hst' fun h₂ tk₂ hk₂ => ?_
        exact hRR _ _ h₂ tk₂ _ ys (fr_but F' hk₂ hIL hI₀) (news_but N' hk₂ fun p hp => by
          rcases List.mem_cons.mp hp with rfl | hp
          · exact Ne.symm ID
          · exact off p hp) nlt (hn'.at' fun o e => hk₂ _ o (by simpa using Ne.symm IC) e) hC₀ hD₀ (Ne.symm LC) (Ne.symm LD) (Ne.symm dC) nC R'
    · rcases List.mem_cons.mp hp with rfl | hp
      · exact ⟨hacc, Ne.symm LD, hD₀⟩
      · exact ⟨old _ _ (N p hp).1, (N p hp).2⟩
  exact codeAny_compStart_list (loop _ rfl) (W.self 0 _ _ _ (W.frame _ _ _ hst fun b _ o e => old b o e) (loop _ rfl))
end
end Mine
end
section
open PySem PySem.W PyProof.Rows PySem.Calls
set_option Elab.async false
set_option maxRecDepth 100000
set_option maxHeartbeats 8000000
namespace Mine
open LCg
def TurnC (prog : Program) (w : World) (A : Around) (h₀ : Heap) (L : Addr) (m : Str → Option Value) (env : Env) (elt : Expr) (x : Str) (ifs : List Expr) (scope : Scope) (cl : List (Str × Addr)) (n : Nat) (Inv : Nat → List Value → Prop) (s : Shared) (news : List (Addr × Obj)) : Prop :=
  ∀ i ys v I oI C oC c oc D h tk (E' : Value → Shared → Prop), i < n → Inv i ys → (∃ t, v = .int ((0 : Int) + (i : Int)) t) → oc.data = .cell (some v) → Fr h₀ L h m → News h₀ L h ((I, oI) :: (C, oC) :: (c, oc) :: (D, lst ys) :: news) →
      (∀ p ∈ news, @LT.lt Nat _ p.1 I) → (@LT.lt Nat _ I D ∧ @LT.lt Nat _ D C ∧ @LT.lt Nat _ C c) →
      wpAny (model prog w) A (forIn ifs true fun ce r => if r = true then do let ok ← isTrue ce (compEnvC scope ((x, c) :: cl) C env) (eval ce (compEnvC scope ((x, c) :: cl) C env)); pure (ForInStep.yield ok) else pure (ForInStep.yield r)) (fun ok s' =>
        if ok = true then wpAny (model prog w) A (eval elt (compEnvC scope ((x, c) :: cl) C env)) (fun y s₄ => CEnd h₀ L m { s with heap := h, toks := tk } ((I, oI) :: (C, oC) :: (c, oc) :: (D, lst ys) :: news) (Inv (i + 1) (ys ++ [y])) s₄) E' s'
        else CEnd h₀ L m { s with heap := h, toks := tk } ((I, oI) :: (C, oC) :: (c, oc) :: (D, lst ys) :: news) (Inv (i + 1) ys) s') E' { s with heap := h, toks := tk }
def SrcC (prog : Program) (w : World) (A : Around) (h₀ : Heap) (L : Addr) (m : Str → Option Value) (env : Env) (elt : Expr) (x : Str) (ifs : List Expr) (scope : Scope) (cl : List (Str × Addr)) (n : Nat) (Inv : Nat → List Value → Prop) (Fin : Shared → List (Addr × Obj) → Prop) (xv : Value) (s₁ : Shared) : Prop :=
  ∃ r t u v news, xv = .ref r ∧ Fr h₀ L s₁.heap m ∧ News h₀ L s₁.heap news ∧ IsRange s₁.heap r 0 (n : Int) 1 t u v ∧ (∀ g, TurnC prog w A h₀ L m env elt x ifs scope cl n Inv { s₁ with heap := g } news) ∧ Fin s₁ news
theorem SrcC.intro {prog : Program} {w : World} {A : Around} {h₀ : Heap} {L : Addr} {m : Str → Option Value} {env : Env} {elt : Expr} {x : Str} {ifs : List Expr} {scope : Scope} {cl : List (Str × Addr)} {n : Nat} {Inv : Nat → List Value → Prop} {Fin : Shared → List (Addr × Obj) → Prop} {s₁ : Shared}
    {r : Addr} {k : Int} {t u v : Tok} {news all : List (Addr × Obj)} (F : Fr h₀ L s₁.heap m) (N : News h₀ L s₁.heap all) (hr : IsRange s₁.heap r 0 k 1 t u v) (hk : k = (n : Int)) (hsub : ∀ p ∈ news, p ∈ all)
    (turn : ∀ g, TurnC prog w A h₀ L m env elt x ifs scope cl n Inv { s₁ with heap := g } news) (fin : Fin s₁ news) : SrcC prog w A h₀ L m env elt x ifs scope cl n Inv Fin (.ref r) s₁ :=
  ⟨r, t, u, v, news, rfl, F, fun p hp => N p (hsub p hp), hk ▸ hr, turn, fin⟩
theorem rg_small {k : Nat} (hk : k ≤ 100) : Builtin.Range.small 0 (k : Int) 1 = true := by
  have e : Builtin.Range.rangeSize 0 (k : Int) 1 = k := rev_size (by omega)
  have fits : ∀ x : Int, -200 ≤ x → x ≤ 200 → Builtin.Range.rangeFitsLong x = true := by
    intro x h1 h2
    unfold Builtin.Range.rangeFitsLong
    simp
    omega
  unfold Builtin.Range.small
  rw [e, fits 0 (by decide) (by decide), fits k (by omega) (by omega), fits 1 (by decide) (by decide), if_pos (by decide), fits _ (by omega) (by omega)]
  simp
section
variable {prog : Program} {w : World} {A : Around} {E : Value → Shared → Prop} {s : Shared} {h₀ : Heap} {L : Addr} {m : Str → Option Value} {env : Env}
theorem iter_range_0 {I : Addr} {n : Nat} (hh : A.handled = none) : ∀ i (h h' : Heap) (o : Obj), IsRangeIter h I (0 + (i : Nat) * 1) ((n : Int) - (i : Nat)) 1 → h.get? I = some o → h'.get? I = some o → IsRangeIter h' I (0 + (i : Nat) * 1) ((n : Int) - (i : Nat)) 1 :=
  fun i h h' o st e e' => by
    have st' : h.get? I = some _ := st
    show h'.get? I = some _
    rw [e', ← e]; exact st'
theorem ListComp_CR {elt iter : Expr} {x : Str} {px : Pos} {ifs : List Expr} {scope : Scope} {cl : List (Str × Addr)} {pos : Pos} {Q : Value → Shared → Prop} (F₀ : Fr h₀ L s.heap m) (n : Nat) (Inv : Nat → List Value → Prop) (hh : A.handled = none)
    (hclos : closureFor scope env = pure cl) (hone : ∀ k, cellsFrom k scope.names cl = (x, k) :: cl) (hpush : ∀ h, pushCells h scope.names = h.push { cls := .type "cell", data := .cell none }) (hkind : scope.kind = .function)
    (hnames : ∀ y ∈ scope.names, y.2 = .local → scope.names.lookup y.1 = some .local) (hx : (relabel scope env).names.lookup x = some .cell) (hn : n ≤ 100) (h0 : Inv 0 [])
    (h : wpAny (model prog w) A (eval iter env) (SrcC prog w A h₀ L m env elt x ifs scope cl n Inv (fun s₁ news => ∀ D h tk ys, Fr h₀ L h m → News h₀ L h ((D, lst ys) :: news) → (∀ p ∈ news, @LT.lt Nat _ p.1 D) → Inv n ys → Q (.ref D) { s₁ with heap := h, toks := tk })) E s)
    (hs : ∀ x, foldedSetIterable iter env x = pure x := by intro _; rfl) :
    wpAny (model prog w) A (eval (.ListComp elt [⟨.Name x px, iter, ifs, 0⟩] scope pos) env) Q E s := by
  rw [eval_ListComp]
  refine wpAny_comprehension_free (use := none) rfl hs hclos hkind hnames (wpAny_mono h (fun xv s₁ h₁ => ?_) fun _ _ e => e)
  obtain ⟨r, t, u, v, news, rfl, F, N, hr, turn, fin⟩ := h₁
  have e : Builtin.Range.rangeSize 0 (n : Int) 1 = n := rev_size (by omega)
  refine wpAny_pyIter_range hr (rg_small hn) ?_
  refine block_C Inv (range_walks hh 0 n) (by rw [PySem.sizeLine_eq]; omega) (fun i h st => ⟨_, st⟩) (iter_range_0 hh) hone hpush hkind hx (by show IsRangeIter _ _ _ _ _; rw [e]; simpa using Heap.get?_push_size _ rfl) ?_
    (F.keeps fun _ _ e => Heap.get?_push_of_some _ e) (N.grown fun _ _ e => Heap.get?_push_of_some _ e) (Nat.ne_of_lt F.ns.lt) (next_is_new F) (fun p hp => Nat.ne_of_lt (Heap.lt_size (N p hp).1)) h0
    (fun i ys v oI C oC c oc D h tk E' => turn _ i ys v _ oI C oC c oc D h tk E') (fun p hp => Heap.lt_size (N p hp).1) ?_
  · show s₁.heap.objs.size < (s₁.heap.push _).objs.size
    rw [Heap.size_push]; exact Nat.lt_succ_self _
  · intro D C h tk m' ys F' N' o1 hn hC₀ hD₀ hCL hDL hCD offC hI
    refine ⟨m', hn, fun h'' hs'' => fin D h'' tk ys (F'.change hs'' hCL hC₀) (fun p hp => ?_) o1 hI⟩
    refine ⟨hs''.extBut _ _ ?_ (N' p hp).1, (N' p hp).2⟩
    rcases List.mem_cons.mp hp with rfl | hp
    · exact Ne.symm hCD
    · exact offC p hp
theorem Assign_ListComp_CR {elt iter : Expr} {x y : Str} {px py : Pos} {ifs : List Expr} {scope : Scope} {cl : List (Str × Addr)} {pos spos : Pos} {Q : Flow → Shared → Prop} (F₀ : Fr h₀ L s.heap m) (n : Nat) (Inv : Nat → List Value → Prop) (hh : A.handled = none) (hLe : env.locals = L)
    (hsw : swapsWith (.ListComp elt [⟨.Name x px, iter, ifs, 0⟩] scope pos) (some (.Name y py)) spos.line env = pure true)
    (hclos : closureFor scope env = pure cl) (hone : ∀ k, cellsFrom k scope.names cl = (x, k) :: cl) (hpush : ∀ h, pushCells h scope.names = h.push { cls := .type "cell", data := .cell none }) (hkind : scope.kind = .function)
    (hnames : ∀ y ∈ scope.names, y.2 = .local → scope.names.lookup y.1 = some .local) (hx : (relabel scope env).names.lookup x = some .cell)
    (hy : env.kindOf y = some .local) (hp : (env.scope.kind == .class || (env.scope.kind == .module && env.locals != env.globals)) = false) (hn : n ≤ 100) (h0 : Inv 0 [])
    (h : wpAny (model prog w) A (eval iter env) (SrcC prog w A h₀ L m env elt x ifs scope cl n Inv (fun s₁ news => ∀ D h tk ys, Fr h₀ L h (fun z => if z = y then some (.ref D) else m z) → News h₀ L h ((D, lst ys) :: news) → (∀ p ∈ news, @LT.lt Nat _ p.1 D) → Inv n ys → Q .next { s₁ with heap := h, toks := tk })) E s)
    (hs : ∀ x, foldedSetIterable iter env x = pure x := by intro _; rfl) :
    wpAny (model prog w) A (exec (.Assign [.Name y py] (.ListComp elt [⟨.Name x px, iter, ifs, 0⟩] scope pos) spos) env) Q E s := by
  subst hLe
  rw [exec_Assign_Name_used _ _ _ _ hsw]
  refine wpAny_bind (wpAny_standAt (wpAny_bind ?_))
  show wpAny _ A (do let _ ← comprehension (.ListComp elt [⟨.Name x px, iter, ifs, 0⟩] scope pos) scope env _ (newList []) false (eval iter env) (some (assign (.Name y py) env))) _ _ s
  refine wpAny_bind (wpAny_mono (wpAny_comprehension_free (use := some (assign (.Name y py) env)) (Q := fun _ s' => Q .next s') rfl hs hclos hkind hnames
    (wpAny_mono h (fun xv s₁ h₁ => ?_) fun _ _ e => e)) (fun _ s' hq => wpAny_pure (wpAny_pure hq)) fun _ _ e => e)
  obtain ⟨r, t, u, v, news, rfl, F, N, hr, turn, fin⟩ := h₁
  have e : Builtin.Range.rangeSize 0 (n : Int) 1 = n := rev_size (by omega)
  refine wpAny_pyIter_range hr (rg_small hn) ?_
  refine block_C Inv (range_walks hh 0 n) (by rw [PySem.sizeLine_eq]; omega) (fun i h st => ⟨_, st⟩) (iter_range_0 hh) hone hpush hkind hx (by show IsRangeIter _ _ _ _ _; rw [e]; simpa using Heap.get?_push_size _ rfl) ?_
    (F.keeps fun _ _ e => Heap.get?_push_of_some _ e) (N.grown fun _ _ e => Heap.get?_push_of_some _ e) (Nat.ne_of_lt F.ns.lt) (next_is_new F) (fun p hp => Nat.ne_of_lt (Heap.lt_size (N p hp).1)) h0
    (fun i ys v oI C oC c oc D h tk E' => turn _ i ys v _ oI C oC c oc D h tk E') (fun p hp => Heap.lt_size (N p hp).1) ?_
  · show s₁.heap.objs.size < (s₁.heap.push _).objs.size
    rw [Heap.size_push]; exact Nat.lt_succ_self _
  · intro D C h' tk m' ys F' N' o1 hn hC₀ hD₀ hCL hDL hCD offC hI
    show wpAny _ A (assign (.Name y py) env (.ref D)) _ _ _
    refine wpAny_assign_Name (wpAny_storeName_local hy F'.ns (fun h₂ hn₂ hs₂ => ?_) hp)
    have hL₀ : h₀.get? env.locals = none := Heap.get?_none_of_le F'.above
    have F₂ : Fr h₀ env.locals h₂ (fun z => if z = y then some (.ref D) else m z) := ⟨hn₂, fun b o e => hs₂.extBut b o (fun q => by rw [q, hL₀] at e; cases e) (F'.keep b o e), F'.above⟩
    refine ⟨m', hn.sameBut hs₂ hCL, fun h'' hs'' => fin D h'' _ ys (F₂.change hs'' hCL hC₀) (fun p hp => ?_) o1 hI⟩
    have z : h₂.get? p.1 = some p.2 := hs₂.extBut _ _ (N' p hp).2.1 (N' p hp).1
    refine ⟨hs''.extBut _ _ ?_ z, (N' p hp).2⟩
    rcases List.mem_cons.mp hp with rfl | hp
    · exact Ne.symm hCD
    · exact offC p hp
end
end Mine
end
section
open PySem PySem.W PyProof.Rows PySem.Calls
set_option Elab.async false
set_option maxRecDepth 100000
set_option maxHeartbeats 8000000
namespace Mine
local macro_rules | `(tactic| walk_at "none 0") => `(tactic| fail)
local macro_rules | `(tactic| walk_at "none 1") => `(tactic| fail)
local macro_rules | `(tactic| walk_at "none 2") => `(tactic| fail)
local macro_rules | `(tactic| walk_at "none 3") => `(tactic| fail)
local macro_rules | `(tactic| walk_at "none 4") => `(tactic| fail)
local macro_rules | `(tactic| walk_at "none 5") => `(tactic| fail)
local macro_rules | `(tactic| walk_at "none 6") => `(tactic| fail)
local macro_rules | `(tactic| walk_at "none 7") => `(tactic| fail)
local macro_rules | `(tactic| walk_at "none 8") => `(tactic| fail)
local macro_rules | `(tactic| walk_at "none 9") => `(tactic| fail)
local macro_rules | `(tactic| walk_at "none 10") => `(tactic| fail)
local macro_rules | `(tactic| walk_at "none 11") => `(tactic| fail)
local macro_rules | `(tactic| walk_at "none 12") => `(tactic| fail)
local macro_rules | `(tactic| walk_at "none 13") => `(tactic| fail)
local macro_rules | `(tactic| walk_at "none 14") => `(tactic| fail)
local macro_rules | `(tactic| walk_at "none 15") => `(tactic| fail)
local macro_rules | `(tactic| walk_at "none 16") => `(tactic| fail)
local macro_rules | `(tactic| walk_at "none 17") => `(tactic| fail)
local macro_rules | `(tactic| walk_at "none 18") => `(tactic| fail)
local macro_rules | `(tactic| walk_at "none 19") => `(tactic| fail)
local macro_rules | `(tactic| walk_at "none 20") => `(tactic| fail)
local macro_rules | `(tactic| walk_at "none 21") => `(tactic| fail)
local macro_rules | `(tactic| walk_at "none 22") => `(tactic| fail)
local macro_rules | `(tactic| walk_at "none 23") => `(tactic| fail)
local macro_rules | `(tactic| walk_at "none 24") => `(tactic| fail)
local macro_rules | `(tactic| walk_at "none 25") => `(tactic| fail)
local macro_rules | `(tactic| walk_at "none 26") => `(tactic| fail)
local macro_rules | `(tactic| walk_at "none 27") => `(tactic| fail)
local macro_rules | `(tactic| walk_at "none 28") => `(tactic| fail)
local macro_rules | `(tactic| walk_at "none 29") => `(tactic| fail)
local macro_rules | `(tactic| walk_at "none 30") => `(tactic| fail)
local macro_rules | `(tactic| walk_at "none 31") => `(tactic| fail)
local macro_rules | `(tactic| walk_at "none 32") => `(tactic| fail)
local macro_rules | `(tactic| walk_at "none 33") => `(tactic| fail)
local macro_rules | `(tactic| walk_at "none 34") => `(tactic| fail)
local macro_rules | `(tactic| walk_at "FPost") => `(tactic| (with_reducible refine fpost_brk ?_; (try dsimp only)))
local macro_rules | `(tactic| walk_at "call ref") => `(tactic| (refine stop_intro ?_))
local macro_rules | `(tactic| walk_at "pyIter ref") => `(tactic| (refine stop_intro ?_))
local macro_rules | `(tactic| walk_at "eval ListComp") => `(tactic| (refine stop_intro ?_))
local macro_rules | `(tactic| walk_at "exec For Name Call cons nil") => `(tactic| (k_dflt (refine wpAny_For ?_ (by intro _; rfl))))
def sentF (ks : List Int) (t : Int) : Nat → Int
  | 0 => 0
  | n + 1 => sentF ks t n + (1 - t) ^ wt6 (wdF ks n ks.length) * (1 + t) ^ (6 - wt6 (wdF ks n ks.length))
theorem wd_bd {ks : List Int} {n : Int} (h : Bd ks) : ∀ {i : Nat}, 0 ≤ wdF ks n i ∧ wdF ks n i < 64
  | 0 => ⟨Int.le_refl 0, by show (0 : Int) < 64; decide⟩
  | i + 1 => by
    rw [wdF]
    split
    · have hk : 0 ≤ ks.getD i 0 ∧ ks.getD i 0 < 64 := by
        by_cases hi : i < ks.length
        · rw [List.getD_eq_getElem?_getD, List.getElem?_eq_getElem hi]
          exact h _ (List.getElem_mem hi)
        · rw [List.getD_eq_getElem?_getD, List.getElem?_eq_none (by omega)]; decide
      rw [bitXor_nat (wd_bd h) hk]
      have := xor_lt (wdF ks n i).toNat (by have := @wd_bd ks n h i; omega) (ks.getD i 0).toNat (by omega)
      omega
    · exact wd_bd h
theorem pick_cd (i : Nat) (n : Int) : pickF i n (rowsOf i) = ⟨#[cdF i n]⟩ := by
  have h := pickF_len (i := i) (n := n) (rowsOf_len i)
  unfold cdF
  generalize pickF i n (rowsOf i) = z at h
  obtain ⟨⟨l⟩⟩ := z
  match l, h with
  | [c], _ => rfl
theorem signs_join (n : Int) : Txt.join (Str.ofString "") (signsF n 10) = ⟨#[cdF 0 n, cdF 1 n, cdF 2 n, cdF 3 n, cdF 4 n, cdF 5 n, cdF 6 n, cdF 7 n, cdF 8 n, cdF 9 n]⟩ := by
  show Txt.join (Str.ofString "") [pickF 0 n (rowsOf 0), pickF 1 n (rowsOf 1), pickF 2 n (rowsOf 2), pickF 3 n (rowsOf 3), pickF 4 n (rowsOf 4), pickF 5 n (rowsOf 5), pickF 6 n (rowsOf 6), pickF 7 n (rowsOf 7), pickF 8 n (rowsOf 8), pickF 9 n (rowsOf 9)] = _
  rw [pick_cd, pick_cd, pick_cd, pick_cd, pick_cd, pick_cd, pick_cd, pick_cd, pick_cd, pick_cd]
  generalize cdF 0 n = a0
  generalize cdF 1 n = a1
  generalize cdF 2 n = a2
  generalize cdF 3 n = a3
  generalize cdF 4 n = a4
  generalize cdF 5 n = a5
  generalize cdF 6 n = a6
  generalize cdF 7 n = a7
  generalize cdF 8 n = a8
  generalize cdF 9 n = a9
  kernel_rfl
theorem cd_mem (i : Nat) (n : Int) (h : i ≠ 0) : cdF i n = 45 ∨ ∃ r ∈ rowsOf i, r.ch = ⟨#[cdF i n]⟩ := by
  have key : ∀ rs : List Row, (∀ r ∈ rs, r.ch.length = 1) → (pickF i n rs).cps.getD 0 0 = 45 ∨ ∃ r ∈ rs, r.ch = ⟨#[(pickF i n rs).cps.getD 0 0]⟩ := by
    intro rs
    induction rs with
    | nil => intro _; left; rw [pickF, if_neg h]; decide +kernel
    | cons r rs ih =>
      intro hl
      rw [pickF]
      split
      · right
        refine ⟨r, .head _, ?_⟩
        have := hl r (.head _)
        generalize r.ch = z at this
        obtain ⟨⟨l⟩⟩ := z
        match l, this with
        | [c], _ => rfl
      · rcases ih fun r hr => hl r (.tail _ hr) with h | ⟨r', h1, h2⟩
        · exact .inl h
        · exact .inr ⟨r', .tail _ h1, h2⟩
  exact key _ (rowsOf_len i)
theorem cd_alpha (n : Int) : cdF 4 n ∈ alpha ∧ cdF 5 n ∈ alpha ∧ cdF 6 n ∈ alpha ∧ cdF 7 n ∈ alpha ∧ cdF 8 n ∈ alpha ∧ cdF 9 n ∈ alpha := by
  have key : ∀ i, i ≠ 0 → (∀ r ∈ rowsOf i, ∀ c, r.ch = ⟨#[c]⟩ → c ∈ alpha) → cdF i n ∈ alpha := by
    intro i hi hr
    rcases cd_mem i n hi with h | ⟨r, h1, h2⟩
    · rw [h]; decide
    · exact hr r h1 _ h2
  have one : ∀ x c : Nat, (⟨#[x]⟩ : Str) = ⟨#[c]⟩ → x = c := fun x c e => by injection e with e; injection e with e; injection e
  refine ⟨key 4 (by decide) ?_, key 5 (by decide) ?_, key 6 (by decide) ?_, key 7 (by decide) ?_, key 8 (by decide) ?_, key 9 (by decide) ?_⟩ <;>
  · intro r hr c hc
    simp only [rowsOf, List.mem_cons, List.not_mem_nil, or_false] at hr
    first
    | (subst hr; rw [← one _ _ hc]; decide)
    | (rcases hr with rfl | rfl | rfl <;> rw [← one _ _ hc] <;> decide)
theorem slice_q (a0 a1 a2 a3 a4 a5 a6 a7 a8 a9 : Nat) : Txt.slice ⟨#[a0, a1, a2, a3, a4, a5, a6, a7, a8, a9]⟩ (some 4) none = ⟨#[a4, a5, a6, a7, a8, a9]⟩ := by kernel_rfl
theorem dots_filter : ∀ l : List Nat, dots l + (l.filter isRight).length = l.length
  | [] => rfl
  | c :: l => by
    have := dots_filter l
    rw [dots_cons, List.filter_cons]
    cases isRight c <;> simp <;> omega
structure LS5 where
  x : Int
  u : Tok
theorem loop5 {prog : Program} {w : World} {A : Around} {s : Shared} {g : Heap} {L' fa : Addr} {m : Str → Option Value} {loose : List Str} {mean : ExcName → Option Value} {mg mb : Str → Option Value}
    {name qual : Str} {params : Arguments} {body : List Stmt} {scope : Scope} {dV kV doc pm cdv ct oc : Value} {an od : Option Addr} {osl : Array (Option Value)} {lw : Str} {cd : Value} {Q : Flow → Shared → Prop}
    {M D2 : Addr} {mv kv : List Value} {ms ks : List Int} {mc kc : Nat} {t : Int} {u1 us u0 : Tok} {o1 o2 o3 : Obj}
    (X : (hd.heap_39 w.params).In g) (T : Top hd.view_39 loose mean mg mb g)
    (ho : (hd.heap_39 w.params).lookup 154 = some ⟨oc, od, .func (fnOf name qual params body scope dV kV doc pm an cdv ct), osl⟩)
    (hroom : A.depth + 5 < recursionLimit) (hh : A.handled = none) (hu : A.units ≤ 100)
    (F : Fr g L' s.heap m) (N : News g L' s.heap [(D2, listOf kv.toArray kc), (M, listOf mv.toArray mc), (L' + 1 + 1 + 1, o3), (L' + 1 + 1, o2), (L' + 1, o1)])
    (hm : AllAt m [("kept", .ref D2), ("share", .int (2 ^ ks.length) us), ("sent", .int 0 u0)])
    (d1 : o1.data = .cell (some (.int t u1))) (d2 : o2.data = .cell (some (.ref M))) (d3 : o3.data = .cell none)
    (hlt : @Ne Nat (L' + 1 + 1 + 1) M ∧ @Ne Nat (L' + 1 + 1) M ∧ @Ne Nat (L' + 1) M) (hne : @Ne Nat M D2 ∧ @Ne Nat (L' + 1 + 1 + 1) D2 ∧ @Ne Nat (L' + 1 + 1) D2 ∧ @Ne Nat (L' + 1) D2)
    (hI : IntsAre mv ms) (hl1 : 1 ≤ ms.length) (hl5 : ms.length ≤ 5) (hb : ∀ x ∈ ms, 0 ≤ x ∧ x < 65536) (ht : -500000 ≤ t ∧ t < 500000)
    (hIk : IntsAre kv ks) (hbk : Bd ks) (hk5 : ks.length ≤ 5)
    (hQ : ∀ h' tk m' us' , Fr g L' h' m' → News g L' h' [(D2, listOf kv.toArray kc), (M, listOf mv.toArray mc), (L' + 1 + 1 + 1, o3), (L' + 1 + 1, o2), (L' + 1, o1)] →
      AllAt m' [("share", .int (2 ^ ks.length) us), ("sent", .int (sentF ks t (2 ^ ks.length)) us')] → Q .next { s with heap := h', toks := tk }) :
    wpAny (model prog w) A (exec (nth body 5) (envOfC lw scope L' fa cd)) Q (fun _ _ => False) s := by
  have hk : hd.heap_39 w.params = hd.heap_39 w.params ∧ PySem.Challenge.rw_oc0087_01 = PySem.Challenge.rw_oc0087_01 := by
    k_fill
    exact ⟨rfl, rfl⟩
  clear hk
  refine' with_law (G := fun body scope => wpAny (model prog w) A (exec (nth body 5) (envOfC lw scope L' fa cd)) Q (fun _ _ => False) s) ho ?ho ?h
  case ho => k_is
  case h =>
    dsimp only [nth]
    replace F := fr_norm F (allAt hm)
    dsimp only [kstB] at F
    clear hm
    have hlm : mv.length = ms.length := hI.length
    have hkl : kv.length = ks.length := hIk.length
    have hsh : (1 : Int) ≤ 2 ^ ks.length ∧ (2 : Int) ^ ks.length ≤ 32 := by
      have : ks.length = 0 ∨ ks.length = 1 ∨ ks.length = 2 ∨ ks.length = 3 ∨ ks.length = 4 ∨ ks.length = 5 := by omega
      rcases this with h | h | h | h | h | h <;> rw [h] <;> decide
    k_steps
    refine stop_elim ?_
    rename IsRange _ _ _ _ _ _ _ _ => hr
    rename Fr _ _ _ _ => F'
    rename News _ _ _ _ => N'
    have esh : ((2 : Int) ^ ks.length) = ((2 ^ ks.length : Nat) : Int) := by push_cast; rfl
    rw [esh] at hr
    refine iter_rg F' N' hr (by omega) fun D h2 F2 N2 hltD hLD => ?_
    clear F' N' hr
    dsimp only
    refine for_rg (σ := LS5) (n := 2 ^ ks.length) hh (fun c => [(D2, listOf kv.toArray kc), (M, listOf mv.toArray mc), (L' + 1 + 1 + 1, o3), (L' + 1 + 1, o2), (L' + 1, o1)]) (fun c => [("kept", .ref D2), ("share", .int (2 ^ ks.length) us), ("sent", .int c.x c.u)]) (fun i c => c.x = sentF ks t i)
      ⟨0, _⟩ F2 N2 (.head _) (fun p h => .tail _ h) ⟨rfl, rfl, rfl, trivial⟩ rfl (fun _ p h => Nat.ne_of_lt (hltD _ h)) ?_ ?_
    · clear F2 N2
      intro i c1 uu1 h1 tk1 o tn hi P1 F1 N1
      obtain ⟨x1, w1⟩ := c1
      dsimp only [kstB] at F1 P1
      have hi32 : i < 64 := by omega
      k_steps
      refine stop_elim ?_
      clear F1 N1
      rename Fr _ _ _ _ => F'
      rename News _ _ _ _ => N'
      have ei : (0 + (i : Int) * 1) = (i : Int) := by omega
      rw [ei]
      refine use_call (wd X T (fun b o e => F'.keep b o e) (by omega) hh hIk (N'.get (.tail _ (.head _))) (i : Int) tn (by omega) (by omega) hk5 hkl) ?_
      rintro v s' ⟨⟨uw, rfl⟩, h8, tk8, rfl, hk8, -⟩
      obtain ⟨F8, N8⟩ := after_none F' N' hk8
      clear F' N'
      dsimp only
      have hw : 0 ≤ wdF ks i ks.length ∧ wdF ks i ks.length < 64 := wd_bd hbk
      k_steps
      refine stop_elim ?_
      refine use_call (fm X T (fun b o e => F8.keep b o e) (by omega) hh _ _) ?_
      rintro v s' ⟨⟨uz, rfl⟩, h9, tk9, rfl, hk9, -⟩
      obtain ⟨F9, N9⟩ := after_none F8 N8 hk9
      clear F8 N8
      dsimp only
      have em0 : (ms.getD (Int.toNat 0) 0) = ms.getD 0 0 := rfl
      rw [em0, signs_join]
      generalize hmd : (ms.getD 0 0).fdiv 64 * 64 + wdF ks i ks.length = md
      obtain ⟨l4, l5, l6, l7, l8, l9⟩ := cd_alpha md
      k_steps
      refine stop_elim ?_
      rename Fr _ _ _ _ => F'
      rename News _ _ _ _ => N'
      rw [slice_q] at F'
      have hal : ∀ (i : Nat) c', (#[cdF 4 md, cdF 5 md, cdF 6 md, cdF 7 md, cdF 8 md, cdF 9 md] : Array Nat)[i]? = some c' → c' ∈ alpha := by
        intro i c' hi
        have := Array.mem_of_getElem? hi
        simp only [List.mem_toArray, List.mem_cons, List.not_mem_nil, or_false] at this
        rcases this with h | h | h | h | h | h <;> rw [h] <;> assumption
      generalize hyy : (⟨#[cdF 4 md, cdF 5 md, cdF 6 md, cdF 7 md, cdF 8 md, cdF 9 md]⟩ : Str) = yy at F'
      have hyl : yy.cps.toList = [cdF 4 md, cdF 5 md, cdF 6 md, cdF 7 md, cdF 8 md, cdF 9 md] := by rw [← hyy]
      have hy6 : yy.cps.size = 6 := by rw [← hyy]; rfl
      have hdf := dots_filter [cdF 4 md, cdF 5 md, cdF 6 md, cdF 7 md, cdF 8 md, cdF 9 md]
      rw [← hyl] at hdf
      refine ListComp_ST hh F' N' (fun Q' q => nameX_L F' rfl q) (by with_unfolding_all rfl) (by decide) (by rfl) (by decide) (by rfl) (by rw [hy6, PySem.sizeLine_eq]; decide) fun g1 => ?_
      clear F' N'
      refine restT_inv (fun i ys => ys.length = ((yy.cps.toList.take i).filter isRight).length) rfl ?_ ?_
      · rintro i v ys I oI C oC D m₂ h tk E' hi hI1 ⟨c', u, hc', rfl⟩ hC hx2 F N off ⟨n1, n2, n3⟩
        have hca := occ_right c' (hal i c' (by rw [← hyy] at hc'; exact hc'))
        have htk : (yy.cps.toList.take (i + 1)).filter isRight = (yy.cps.toList.take i).filter isRight ++ (if isRight c' then [c'] else []) := by
          rw [List.take_add_one, Array.getElem?_toList, hc', List.filter_append]
          congr 1
          rw [Option.toList_some, List.filter_cons]; rfl
        k_steps
        · rename (Builtin.Str.occurrences _ _ _ _ _).isEmpty = _ => hoc
          rw [hca] at hoc
          refine LCg.CompEnd.intro F N _ (fun p hp => hp) off trivial ⟨rfl, ?_⟩
          rw [htk, if_neg (by simpa using hoc), List.append_nil]
          exact hI1
        · rename (Builtin.Str.occurrences _ _ _ _ _).isEmpty = _ => hoc
          rw [hca] at hoc
          refine LCg.CompEnd.intro F N _ (fun p hp => hp) off trivial ⟨rfl, ?_⟩
          rw [htk, if_pos (by simpa using hoc), List.length_append, List.length_append, hI1]
          rfl
      · intro ys hI1 D3 h tk F N off
        rw [List.take_of_length_le (by rw [Array.length_toList]; omega)] at hI1
        rw [show yy.cps.toList.length = 6 by rw [hyl]; rfl] at hdf
        have hy7 : ys.length ≤ 6 := by omega
        k_steps
        refine kun_lenL (k := (ys.length : Int)) (N.isList (.head _)) (by rw [List.size_toArray]) (by omega) ?_
        k_steps
        refine stop_elim ?_
        rename Fr _ _ _ _ => F1
        rename News _ _ _ _ => N1
        refine use_call (ml X T (fun b o e => F1.keep b o e) (by omega) hh yy _ hyl l4 l5 l6 l7 l8 l9) ?_
        rintro v s' ⟨⟨z, uz2, rfl, hz⟩, h10, tk10, rfl, hk10, -⟩
        obtain ⟨F10, N10⟩ := after_none F1 N1 hk10
        clear F1 N1
        dsimp only
        rw [← hyl] at hz
        have hz2 : z.length + ys.length = 24 := by omega
        have hm0 : 0 ≤ ms.getD 0 0 := by
          rw [List.getD_eq_getElem?_getD, List.getElem?_eq_getElem (by omega)]
          exact (hb _ (List.getElem_mem _)).1
        have hwt : ys.length = wt6 (wdF ks i ks.length) := by
          rw [hI1, hyl, ← hmd]
          refine rights_wt ?_ hw.1 hw.2
          rw [Int.fdiv_eq_ediv_of_nonneg _ (by decide)]
          omega
        k_steps
        · exfalso
          rename _ ≠ (6 : Int) => h6
          omega
        · refine mul_int ?_ (mul_ok (by omega) (by omega) (by omega) (by omega))
          k_steps
          rename Fr _ _ _ _ => F11
          rename News _ _ _ _ => N11
          refine fpost_next ⟨_, _⟩ F11 N11 (.tail _ (.head _)) (fun p h => .tail _ (.tail _ h)) ⟨rfl, rfl, rfl, trivial⟩ ?_
          dsimp only
          rw [sentF, ← P1, ← hwt, Int.toNat_natCast, show ((z.length : Int) - 18).toNat = 6 - ys.length by omega]
    · intro c1 u1 h1 tk1 P1 F1 N1
      obtain ⟨x1, w1⟩ := c1
      dsimp only [kstB] at F1 P1
      k_steps
      rw [P1] at F1
      exact hQ _ _ _ _ F1 N1 ⟨rfl, rfl, trivial⟩
end Mine
end
section
open PySem PySem.W PyProof.Rows PySem.Calls
set_option Elab.async false
set_option maxRecDepth 100000
set_option maxHeartbeats 8000000
namespace Mine
local macro_rules | `(tactic| walk_at "none 0") => `(tactic| fail)
local macro_rules | `(tactic| walk_at "none 1") => `(tactic| fail)
local macro_rules | `(tactic| walk_at "none 2") => `(tactic| fail)
local macro_rules | `(tactic| walk_at "none 3") => `(tactic| fail)
local macro_rules | `(tactic| walk_at "none 4") => `(tactic| fail)
local macro_rules | `(tactic| walk_at "none 5") => `(tactic| fail)
local macro_rules | `(tactic| walk_at "none 6") => `(tactic| fail)
local macro_rules | `(tactic| walk_at "none 7") => `(tactic| fail)
local macro_rules | `(tactic| walk_at "none 8") => `(tactic| fail)
local macro_rules | `(tactic| walk_at "none 9") => `(tactic| fail)
local macro_rules | `(tactic| walk_at "none 10") => `(tactic| fail)
local macro_rules | `(tactic| walk_at "none 11") => `(tactic| fail)
local macro_rules | `(tactic| walk_at "none 12") => `(tactic| fail)
local macro_rules | `(tactic| walk_at "none 13") => `(tactic| fail)
local macro_rules | `(tactic| walk_at "none 14") => `(tactic| fail)
local macro_rules | `(tactic| walk_at "none 15") => `(tactic| fail)
local macro_rules | `(tactic| walk_at "none 16") => `(tactic| fail)
local macro_rules | `(tactic| walk_at "none 17") => `(tactic| fail)
local macro_rules | `(tactic| walk_at "none 18") => `(tactic| fail)
local macro_rules | `(tactic| walk_at "none 19") => `(tactic| fail)
local macro_rules | `(tactic| walk_at "none 20") => `(tactic| fail)
local macro_rules | `(tactic| walk_at "none 21") => `(tactic| fail)
local macro_rules | `(tactic| walk_at "none 22") => `(tactic| fail)
local macro_rules | `(tactic| walk_at "none 23") => `(tactic| fail)
local macro_rules | `(tactic| walk_at "none 24") => `(tactic| fail)
local macro_rules | `(tactic| walk_at "none 25") => `(tactic| fail)
local macro_rules | `(tactic| walk_at "none 26") => `(tactic| fail)
local macro_rules | `(tactic| walk_at "none 27") => `(tactic| fail)
local macro_rules | `(tactic| walk_at "none 28") => `(tactic| fail)
local macro_rules | `(tactic| walk_at "none 29") => `(tactic| fail)
local macro_rules | `(tactic| walk_at "none 30") => `(tactic| fail)
local macro_rules | `(tactic| walk_at "none 31") => `(tactic| fail)
local macro_rules | `(tactic| walk_at "none 32") => `(tactic| fail)
local macro_rules | `(tactic| walk_at "none 33") => `(tactic| fail)
local macro_rules | `(tactic| walk_at "none 34") => `(tactic| fail)
local macro_rules | `(tactic| walk_at "none 35") => `(tactic| fail)
local macro_rules | `(tactic| walk_at "none 36") => `(tactic| fail)
local macro_rules | `(tactic| walk_at "none 37") => `(tactic| fail)
local macro_rules | `(tactic| walk_at "none 38") => `(tactic| fail)
local macro_rules | `(tactic| walk_at "eval ListComp") => `(tactic| (refine stop_intro ?_))
local macro_rules | `(tactic| walk_at "exec Assign cons ListComp") => `(tactic| (refine stop_intro ?_))
def bitE (d : Int) (k : Nat) : Int := (d.fdiv (2 ^ k)).fmod 2
def bitsI (d : Nat) : Int := ((List.range 6).map fun k => bitE d k).sum
def oddB (d : Nat) (x : Int) : Bool := decide ((bitsI (d &&& x.toNat)).fmod 2 = 1)
def evenB (ms : List Int) (d : Nat) : Bool := (ms.filter (oddB d)).isEmpty
theorem bits_get {d : Nat} (h : d < 64) : (List.map bitsI (List.range 64)).getD d 0 = bitsI d := by
  rw [List.getD_eq_getElem?_getD, List.getElem?_map, List.getElem?_range h]; rfl
theorem ints_snoc : ∀ {vs : List Value} {cs : List Int} {x : Int} {t : Tok}, IntsAre vs cs → IntsAre (vs ++ [.int x t]) (cs ++ [x])
  | _, _, x, t, .nil => .cons x t .nil
  | _, _, _, _, .cons y u h => .cons y u (ints_snoc h)
theorem tail6 {prog : Program} {w : World} {A : Around} {s : Shared} {g : Heap} {L' fa : Addr} {m : Str → Option Value} {loose : List Str} {mean : ExcName → Option Value} {mg mb : Str → Option Value}
    {name qual : Str} {params : Arguments} {body : List Stmt} {scope : Scope} {dV kV doc pm cdv ct oc : Value} {an od : Option Addr} {osl : Array (Option Value)} {lw : Str} {cd : Value} {Q : Flow → Shared → Prop}
    {M : Addr} {mv : List Value} {ms : List Int} {mc : Nat} {t S : Int} {k : Nat} {u1 us uS : Tok} {o1 o2 o3 : Obj}
    (X : (hd.heap_39 w.params).In g) (T : Top hd.view_39 loose mean mg mb g)
    (ho : (hd.heap_39 w.params).lookup 154 = some ⟨oc, od, .func (fnOf name qual params body scope dV kV doc pm an cdv ct), osl⟩)
    (hroom : A.depth + 5 < recursionLimit) (hh : A.handled = none) (hu : A.units ≤ 100)
    (F : Fr g L' s.heap m) (N : News g L' s.heap [(M, listOf mv.toArray mc), (L' + 1 + 1 + 1, o3), (L' + 1 + 1, o2), (L' + 1, o1)])
    (hm : AllAt m [("share", .int (2 ^ k) us), ("sent", .int S uS)])
    (d1 : o1.data = .cell (some (.int t u1))) (d2 : o2.data = .cell (some (.ref M))) (d3 : o3.data = .cell none)
    (hlt : @Ne Nat (L' + 1 + 1 + 1) M ∧ @Ne Nat (L' + 1 + 1) M ∧ @Ne Nat (L' + 1) M)
    (hI : IntsAre mv ms) (hl5 : ms.length ≤ 5) (hb : ∀ x ∈ ms, 0 ≤ x ∧ x < 65536)
    (hQ : ∀ D4 h' tk es m', Fr g L' h' m' → News g L' h' [(D4, LCg.lst es), (L' + 1, o1)] → AllAt m' [("even", .ref D4), ("share", .int (2 ^ k) us), ("sent", .int S uS)] → IntsAre es (((List.range 64).filter (evenB ms)).map bitsI) →
      wpAny (model prog w) A (execs (body.drop 8) (envOfC lw scope L' fa cd)) Q (fun _ _ => False) { s with heap := h', toks := tk }) :
    wpAny (model prog w) A (execs (body.drop 6) (envOfC lw scope L' fa cd)) Q (fun _ _ => False) s := by
  have hk : hd.heap_39 w.params = hd.heap_39 w.params ∧ PySem.Challenge.rw_oc0087_01 = PySem.Challenge.rw_oc0087_01 := by
    k_fill
    exact ⟨rfl, rfl⟩
  clear hk
  revert hQ
  refine' with_law (G := fun body scope => (∀ D4 h' tk es m', Fr g L' h' m' → News g L' h' [(D4, LCg.lst es), (L' + 1, o1)] → AllAt m' [("even", .ref D4), ("share", .int (2 ^ k) us), ("sent", .int S uS)] → IntsAre es (((List.range 64).filter (evenB ms)).map bitsI) →
      wpAny (model prog w) A (execs (body.drop 8) (envOfC lw scope L' fa cd)) Q (fun _ _ => False) { s with heap := h', toks := tk }) → wpAny (model prog w) A (execs (body.drop 6) (envOfC lw scope L' fa cd)) Q (fun _ _ => False) s) ho ?ho ?h
  case ho => k_is
  case h =>
    intro hQ
    dsimp only [List.drop] at hQ ⊢
    replace F := fr_norm F (allAt hm)
    dsimp only [kstB] at F
    clear hm
    have hlm : mv.length = ms.length := hI.length
    k_steps
    refine stop_elim ?_
    refine' wpAny_Assign_Name ?_ ?hs
    case hs => with_unfolding_all rfl
    refine' ListComp_CR F 64 (fun i ys => IntsAre ys ((List.range i).map bitsI)) hh ?a1 ?a2 ?a3 ?a4 ?a5 ?a6 ?a7 ?a8 ?_
    case a1 => with_unfolding_all rfl
    case a2 => intro k; rfl
    case a3 => intro h; rfl
    case a4 => rfl
    case a5 => decide
    case a6 => rfl
    case a7 => decide
    case a8 => exact .nil
    k_steps
    rename Fr _ _ _ _ => F'
    rename News _ _ _ _ => N'
    rename IsRange _ _ _ _ _ _ _ _ => hr
    refine SrcC.intro F' N' hr rfl (fun p hp => hp) (fun g1 => ?_) ?_
    · clear F' N' hr
      rintro i ys v I oI C oC c oc D h tk E' hi hI1 ⟨tv, rfl⟩ hoc F N hltI ⟨n1, n2, n3⟩
      refine wpAny_tests_nil ?_
      rw [if_pos rfl]
      k_steps
      refine stop_elim ?_
      refine' LCg.ListComp_U F ?b1 ?b2 ?b3 ?b4 ?b5 ?_
      case b1 => with_unfolding_all rfl
      case b2 => decide
      case b3 => rfl
      case b4 => decide
      case b5 => rfl
      k_steps
      rename Fr _ _ _ _ => F1
      rename News _ _ _ _ => N1
      rename IsRange _ _ _ _ _ _ _ _ => hr1
      refine LCg.CompSrc.range (n := 6) hh F1 N1 hr1 (rg_small (k := 6) (by decide)) (by rfl) (by rw [PySem.sizeLine_eq]; decide) fun g2 => ?_
      clear F1 N1 hr1
      refine rest_inv (fun j zs => IntsAre zs ((List.range j).map fun k => bitE i k)) .nil ?_ ?_
      · rintro j v zs I2 oI2 C2 oC2 D2 m₂ h2 tk2 E2 hj hI2 ⟨tj, rfl⟩ hC2 hx2 F N off ⟨p1, p2, p3⟩
        k_steps
        refine LCg.CompEnd.intro F N _ (fun p hp => hp) off trivial ⟨rfl, ?_⟩
        rw [List.range_succ, List.map_append]
        have e : ((0 + (i : Int)).fdiv (2 ^ (0 + (j : Int)).toNat)).fmod 2 = bitE i j := by
          rw [Int.zero_add, Int.zero_add, Int.toNat_natCast]; rfl
        rw [e]
        exact ints_snoc hI2
      · intro zs hI2 D2 h2 tk2 F N off
        k_steps
        refine LSm.sum_ints F N hh (N.isList (.head _)) hI2 ?_
        intro h3 tk3 t3 F3 N3
        k_steps
        refine CEnd.intro F3 N3 (fun p hp => .tail _ hp) ?_
        rw [show (List.range (i + 1)).map bitsI = (List.range i).map bitsI ++ [bitsI i] by rw [List.range_succ, List.map_append]; rfl]
        exact ints_snoc hI1
    · intro D h tk ys F1 N1 hlt1 hI1
      have hlD : @LT.lt Nat _ M D := hlt1 _ (.head _)
      have hy64 : ys.length = 64 := by have := hI1.length; rw [List.length_map, List.length_range] at this; exact this
      k_steps
      refine stop_elim ?_
      rename Fr _ _ _ _ => F2
      rename News _ _ _ _ => N2
      rename Obj => o3'
      rename o3'.data = _ => d3'
      simp only [List.cons_append, List.nil_append] at N2
      refine' Assign_ListComp_CR F2 64 (fun i ys => IntsAre ys (((List.range i).filter (evenB ms)).map bitsI)) hh ?c1 ?c2 ?c3 ?c4 ?c5 ?c6 ?c7 ?c8 ?c9 ?c10 ?c11 ?c12 ?_
      case c1 => rfl
      case c2 => with_unfolding_all rfl
      case c3 => with_unfolding_all rfl
      case c4 => intro k; rfl
      case c5 => intro h; rfl
      case c6 => rfl
      case c7 => decide
      case c8 => rfl
      case c9 => rfl
      case c10 => rfl
      case c11 => decide
      case c12 => exact .nil
      k_steps
      rename Fr _ _ _ _ => F3
      rename News _ _ _ _ => N3
      rename IsRange _ _ _ _ _ _ _ _ => hr2
      refine SrcC.intro F3 N3 hr2 rfl (fun p hp => hp) (fun g1 => ?_) ?_
      · clear F3 N3 hr2
        rintro i es v I oI C oC c oc D4 h tk E' hi hI4 ⟨tv, rfl⟩ hoc F N hltI ⟨n1, n2, n3⟩
        refine wpAny_tests_one ?_
        k_steps
        refine stop_elim ?_
        refine' LCt.ListComp_T F ?e1 ?e2 ?e3 ?e4 ?e5 ?_
        case e1 => with_unfolding_all rfl
        case e2 => decide
        case e3 => rfl
        case e4 => decide
        case e5 => rfl
        refine kcf_cell N (by rfl) (by k_mem) d2 ?_
        refine LCt.CompSrcT.ledger hh F N (its := mv.toArray) (k := mc) (by k_mem) (by rw [List.size_toArray, PySem.sizeLine_eq]; omega) fun g2 => ?_
        clear F N
        refine restT_inv (fun j zs => IntsAre zs ((ms.take j).filter (oddB i))) .nil ?_ ?_
        · rintro j v zs I2 oI2 C2 oC2 D5 m₂ h2 tk2 E2 hj hI5 hv hC2 hx2 F N off ⟨p1, p2, p3⟩
          obtain ⟨x, tx, rfl, hx⟩ := IntsAre.at hI j v (by simpa using hv)
          have hxb := hb x (List.mem_of_getElem? hx)
          have hband : 0 ≤ Builtin.bitAnd (0 + (i : Int)) x ∧ Builtin.bitAnd (0 + (i : Int)) x < 64 := by
            rw [bitAnd_nat (by omega) hxb.1]
            have : (0 + (i : Int)).toNat &&& x.toNat ≤ (0 + (i : Int)).toNat := Nat.and_le_left
            omega
          have hidx : ((List.map bitsI (List.range 64)).getD (Builtin.bitAnd (0 + (i : Int)) x).toNat 0) = bitsI (i &&& x.toNat) := by
            rw [bitAnd_nat (by omega) hxb.1, Int.toNat_natCast, Int.zero_add, Int.toNat_natCast]
            exact bits_get (Nat.lt_of_le_of_lt Nat.and_le_left hi)
          have htk : (ms.take (j + 1)).filter (oddB i) = (ms.take j).filter (oddB i) ++ (if oddB i x then [x] else []) := by
            rw [List.take_add_one, hx, List.filter_append]
            congr 1
            rw [Option.toList_some, List.filter_cons]; rfl
          k_steps
          · rename Int.fmod _ 2 = 1 => hc1
            rw [hidx] at hc1
            refine LCg.CompEnd.intro F N _ (fun p hp => hp) off (.inr ⟨_, .tail _ (.tail _ (.tail _ (.tail _ (.tail _ (.head _))))), rfl, _, rfl⟩) ⟨rfl, ?_⟩
            rw [htk, if_pos (show oddB i x = true from decide_eq_true hc1)]
            exact ints_snoc hI5
          · rename Int.fmod _ 2 ≠ 1 => hc1
            rw [hidx] at hc1
            refine LCg.CompEnd.intro F N _ (fun p hp => hp) off (.inr ⟨_, .tail _ (.tail _ (.tail _ (.tail _ (.tail _ (.head _))))), rfl, _, rfl⟩) ⟨rfl, ?_⟩
            rw [htk, if_neg (show ¬ oddB i x = true by unfold oddB; rw [decide_eq_true_eq]; exact hc1), List.append_nil]
            exact hI5
        · intro zs hI5 D5 h2 tk2 F N off
          rw [List.take_of_length_le (by rw [List.size_toArray]; omega)] at hI5
          have hidx : ((List.map bitsI (List.range 64)).getD (0 + (i : Int)).toNat 0) = bitsI i := by
            rw [Int.zero_add, Int.toNat_natCast]
            exact bits_get hi
          have hrs : (List.range (i + 1)).filter (evenB ms) = (List.range i).filter (evenB ms) ++ (if evenB ms i then [i] else []) := by
            rw [List.range_succ, List.filter_append, List.filter_cons]; rfl
          k_steps
          · rename decide _ = true => hc1
            rename Fr _ _ _ _ => F5
            rename News _ _ _ _ => N5
            refine CEnd.intro F5 N5 (fun p hp => .tail _ (.tail _ hp)) ?_
            rw [hidx, hrs, if_pos (show evenB ms i = true by unfold evenB; rw [of_decide_eq_true hc1]; rfl), List.map_append]
            exact ints_snoc hI4
          · rename decide _ = false => hc1
            rename Fr _ _ _ _ => F5
            rename News _ _ _ _ => N5
            refine CEnd.intro F5 N5 (fun p hp => .tail _ (.tail _ hp)) ?_
            rw [hrs, if_neg (show ¬ evenB ms i = true by unfold evenB; rw [List.isEmpty_iff]; exact of_decide_eq_false hc1), List.append_nil]
            exact hI4
      · intro D4 h tk es F4 N4 hlt4 hI4
        exact hQ D4 h tk es _ F4 (fun p hp => N4 p (by
          rcases List.mem_cons.mp hp with rfl | hp
          · exact .head _
          · cases List.mem_singleton.mp hp; exact .tail _ (.tail _ (.tail _ (.tail _ (.tail _ (.head _))))))) ⟨rfl, rfl, rfl, trivial⟩ hI4
end Mine
end
section
open PySem PySem.W PyProof.Rows PySem.Calls
set_option Elab.async false
set_option maxRecDepth 100000
set_option maxHeartbeats 8000000
namespace Mine
local macro_rules | `(tactic| walk_at "none 0") => `(tactic| fail)
local macro_rules | `(tactic| walk_at "none 1") => `(tactic| fail)
local macro_rules | `(tactic| walk_at "none 2") => `(tactic| fail)
local macro_rules | `(tactic| walk_at "none 3") => `(tactic| fail)
local macro_rules | `(tactic| walk_at "none 4") => `(tactic| fail)
local macro_rules | `(tactic| walk_at "none 5") => `(tactic| fail)
local macro_rules | `(tactic| walk_at "none 6") => `(tactic| fail)
local macro_rules | `(tactic| walk_at "none 7") => `(tactic| fail)
local macro_rules | `(tactic| walk_at "none 8") => `(tactic| fail)
local macro_rules | `(tactic| walk_at "none 9") => `(tactic| fail)
local macro_rules | `(tactic| walk_at "none 10") => `(tactic| fail)
local macro_rules | `(tactic| walk_at "none 11") => `(tactic| fail)
local macro_rules | `(tactic| walk_at "none 12") => `(tactic| fail)
local macro_rules | `(tactic| walk_at "none 13") => `(tactic| fail)
local macro_rules | `(tactic| walk_at "none 14") => `(tactic| fail)
local macro_rules | `(tactic| walk_at "none 15") => `(tactic| fail)
local macro_rules | `(tactic| walk_at "none 16") => `(tactic| fail)
local macro_rules | `(tactic| walk_at "none 17") => `(tactic| fail)
local macro_rules | `(tactic| walk_at "none 18") => `(tactic| fail)
local macro_rules | `(tactic| walk_at "none 19") => `(tactic| fail)
local macro_rules | `(tactic| walk_at "none 20") => `(tactic| fail)
local macro_rules | `(tactic| walk_at "none 21") => `(tactic| fail)
local macro_rules | `(tactic| walk_at "none 22") => `(tactic| fail)
local macro_rules | `(tactic| walk_at "none 23") => `(tactic| fail)
local macro_rules | `(tactic| walk_at "none 24") => `(tactic| fail)
local macro_rules | `(tactic| walk_at "none 25") => `(tactic| fail)
local macro_rules | `(tactic| walk_at "none 26") => `(tactic| fail)
local macro_rules | `(tactic| walk_at "none 27") => `(tactic| fail)
local macro_rules | `(tactic| walk_at "none 28") => `(tactic| fail)
local macro_rules | `(tactic| walk_at "none 29") => `(tactic| fail)
local macro_rules | `(tactic| walk_at "none 30") => `(tactic| fail)
local macro_rules | `(tactic| walk_at "none 31") => `(tactic| fail)
local macro_rules | `(tactic| walk_at "none 32") => `(tactic| fail)
local macro_rules | `(tactic| walk_at "none 33") => `(tactic| fail)
local macro_rules | `(tactic| walk_at "none 34") => `(tactic| fail)
local macro_rules | `(tactic| walk_at "none 35") => `(tactic| fail)
local macro_rules | `(tactic| walk_at "none 36") => `(tactic| fail)
local macro_rules | `(tactic| walk_at "none 37") => `(tactic| fail)
local macro_rules | `(tactic| walk_at "none 38") => `(tactic| fail)
local macro_rules | `(tactic| walk_at "none 39") => `(tactic| fail)
local macro_rules | `(tactic| walk_at "none 40") => `(tactic| fail)
local macro_rules | `(tactic| walk_at "eval ListComp") => `(tactic| (refine stop_intro ?_))
theorem ret8 {prog : Program} {w : World} {A : Around} {s : Shared} {g : Heap} {L' fa : Addr} {m : Str → Option Value} {loose : List Str} {mean : ExcName → Option Value} {mg mb : Str → Option Value}
    {name qual : Str} {params : Arguments} {body : List Stmt} {scope : Scope} {dV kV doc pm cdv ct oc : Value} {an od : Option Addr} {osl : Array (Option Value)} {lw : Str} {cd : Value} {Q : Flow → Shared → Prop}
    {D4 : Addr} {es : List Value} {ns : List Int} {t S : Int} {k : Nat} {u1 us uS : Tok} {o1 : Obj}
    (X : (hd.heap_39 w.params).In g) (T : Top hd.view_39 loose mean mg mb g)
    (ho : (hd.heap_39 w.params).lookup 154 = some ⟨oc, od, .func (fnOf name qual params body scope dV kV doc pm an cdv ct), osl⟩)
    (hh : A.handled = none)
    (F : Fr g L' s.heap m) (N : News g L' s.heap [(D4, LCg.lst es), (L' + 1, o1)])
    (hm : AllAt m [("even", .ref D4), ("share", .int (2 ^ k) us), ("sent", .int S uS)])
    (d1 : o1.data = .cell (some (.int t u1)))
    (hI : IntsAre es ns) (hn : ns.length ≤ 64) (hb : ∀ x ∈ ns, 0 ≤ x ∧ x ≤ 6) (ht : -500000 ≤ t ∧ t < 500000) (hk5 : k ≤ 5)
    (e1 : (ns.length : Int) * 2 ^ k = 64) (e2 : (ns.map fun x => t ^ x.toNat).sum * 2 ^ k = S)
    (hQ : ∀ h' tk, Fr g L' h' m → Q (.ret (.bool true)) { s with heap := h', toks := tk }) :
    wpAny (model prog w) A (execs (body.drop 8) (envOfC lw scope L' fa cd)) Q (fun _ _ => False) s := by
  have hk : hd.heap_39 w.params = hd.heap_39 w.params ∧ PySem.Challenge.rw_oc0087_01 = PySem.Challenge.rw_oc0087_01 := by
    k_fill
    exact ⟨rfl, rfl⟩
  clear hk
  refine' with_law (G := fun body scope => wpAny (model prog w) A (execs (body.drop 8) (envOfC lw scope L' fa cd)) Q (fun _ _ => False) s) ho ?ho ?h
  case ho => k_is
  case h =>
    dsimp only [List.drop]
    have hQ' : ∀ h' tk, Fr g L' h' (kstB m [("even", .ref D4), ("share", .int (2 ^ k) us), ("sent", .int S uS)]) → Q (.ret (.bool true)) { s with heap := h', toks := tk } := fun h' tk F => hQ h' tk (by
      have em : kstB m [("even", .ref D4), ("share", .int (2 ^ k) us), ("sent", .int S uS)] = m := by
        funext y
        exact kstB_eq (allAt hm) fun _ => rfl
      rw [em] at F; exact F)
    replace F := fr_norm F (allAt hm)
    dsimp only [kstB] at F hQ'
    clear hm hQ
    have hlm : es.length = ns.length := hI.length
    have hsh : (1 : Int) ≤ 2 ^ k ∧ (2 : Int) ^ k ≤ 32 := by
      have : k = 0 ∨ k = 1 ∨ k = 2 ∨ k = 3 ∨ k = 4 ∨ k = 5 := by omega
      rcases this with h | h | h | h | h | h <;> rw [h] <;> decide
    k_steps
    · refine stop_elim ?_
      refine' LCg.ListComp_U F ?b1 ?b2 ?b3 ?b4 ?b5 ?_
      case b1 => with_unfolding_all rfl
      case b2 => decide
      case b3 => rfl
      case b4 => decide
      case b5 => rfl
      refine nameX_L F rfl ?_
      refine LCg.CompSrc.ledger hh F N (its := es.toArray) (k := es.length) (.head _) (by rw [List.size_toArray, PySem.sizeLine_eq]; omega) fun g1 => ?_
      clear F N
      refine rest_inv (fun i ys => IntsAre ys ((ns.take i).map fun x => t ^ x.toNat)) .nil ?_ ?_
      · rintro i v ys I oI C oC D m₂ h tk E' hi hI1 hv hC hx2 F N off ⟨n1, n2, n3⟩
        obtain ⟨x, tx, rfl, hx⟩ := IntsAre.at hI i v (by simpa using hv)
        have hxb := hb x (List.mem_of_getElem? hx)
        k_steps
        refine LCg.CompEnd.intro F N _ (fun p hp => hp) off (.inr ⟨_, .head _, rfl, _, rfl⟩) ⟨rfl, ?_⟩
        rw [show (ns.take (i + 1)).map (fun x => t ^ x.toNat) = (ns.take i).map (fun x => t ^ x.toNat) ++ [t ^ x.toNat] by rw [List.take_add_one, hx, List.map_append]; rfl]
        exact ints_snoc hI1
      · intro ys hI1 D h tk F N off
        rw [List.take_of_length_le (by rw [List.size_toArray]; omega)] at hI1
        k_steps
        refine LSm.sum_ints F N hh (N.isList (.head _)) hI1 ?_
        intro h3 tk3 t3 F3 N3
        k_steps
        rw [e2, show (S == S) = true from beq_self_eq_true S]
        exact hQ' _ _ F3
    · exact absurd e1 (by assumption)
end Mine
end
section
open PySem PySem.W PyProof.Rows PySem.Calls
set_option Elab.async false
set_option maxRecDepth 100000
set_option maxHeartbeats 4000000
namespace Mine
def sumTo (f : Nat → Int) : Nat → Int
  | 0 => 0
  | n + 1 => sumTo f n + f n
theorem sumTo_congr {f g : Nat → Int} : ∀ {n : Nat}, (∀ i < n, f i = g i) → sumTo f n = sumTo g n
  | 0, _ => rfl
  | n + 1, h => by rw [sumTo, sumTo, sumTo_congr fun i hi => h i (Nat.lt_succ_of_lt hi), h n (Nat.lt_succ_self n)]
theorem sumTo_add (f g : Nat → Int) : ∀ n : Nat, sumTo (fun i => f i + g i) n = sumTo f n + sumTo g n
  | 0 => rfl
  | n + 1 => by rw [sumTo, sumTo, sumTo, sumTo_add f g n]; omega
theorem sumTo_mul (c : Int) (f : Nat → Int) : ∀ n : Nat, sumTo (fun i => c * f i) n = c * sumTo f n
  | 0 => (Int.mul_zero c).symm
  | n + 1 => by rw [sumTo, sumTo, sumTo_mul c f n, Int.mul_add]
theorem sumTo_zero : ∀ n : Nat, sumTo (fun _ => 0) n = 0
  | 0 => rfl
  | n + 1 => by rw [sumTo, sumTo_zero n]; rfl
theorem sumTo_split (f : Nat → Int) (a : Nat) : ∀ b : Nat, sumTo f (a + b) = sumTo f a + sumTo (fun i => f (a + i)) b
  | 0 => (Int.add_zero _).symm
  | b + 1 => by rw [← Nat.add_assoc, sumTo, sumTo_split f a b, sumTo]; omega
theorem sumTo_swap (F : Nat → Nat → Int) (D : Nat) : ∀ N : Nat, sumTo (fun n => sumTo (fun d => F n d) D) N = sumTo (fun d => sumTo (fun n => F n d) N) D
  | 0 => by
    show 0 = sumTo (fun d => 0) D
    rw [sumTo_zero]
  | N + 1 => by
    rw [sumTo, sumTo_swap F D N, ← sumTo_add]
    rfl
theorem filter_sum (p : Nat → Bool) (f : Nat → Int) : ∀ n : Nat, (((List.range n).filter p).map f).sum = sumTo (fun d => if p d then f d else 0) n
  | 0 => rfl
  | n + 1 => by
    rw [List.range_succ, List.filter_append, List.map_append, List.sum_append, filter_sum p f n, sumTo, List.filter_cons]
    cases p n <;> simp
/-- the sign of a parity -/
def chi (b : Bool) : Int := if b then -1 else 1
theorem chi_xor (a b : Bool) : chi (a ^^ b) = chi a * chi b := by cases a <;> cases b <;> rfl
def cnt (w : Nat) (i : Nat) : Nat := ((List.range i).filter fun j => w.testBit j).length
theorem cnt_succ (w i : Nat) : cnt w (i + 1) = cnt w i + (if w.testBit i then 1 else 0) := by
  unfold cnt
  rw [List.range_succ, List.filter_append, List.length_append, List.filter_cons]
  cases w.testBit i <;> rfl
theorem cnt_le (w : Nat) : ∀ i, cnt w i ≤ i
  | 0 => Nat.le_refl _
  | i + 1 => by rw [cnt_succ]; have := cnt_le w i; split <;> omega
theorem wt6_cnt (x : Int) : wt6 x = cnt x.toNat 6 := rfl
/-- the sum over the sets below 2 ^ i -/
def polyP (t : Int) (w : Nat) (i : Nat) : Int := sumTo (fun d => chi (par d w) * t ^ cnt d 6) (2 ^ i)
theorem par_top : ∀ i < 6, ∀ d < 2 ^ i, ∀ w < 64, par (2 ^ i + d) w = (w.testBit i ^^ par d w) := by decide +kernel
theorem cnt_top : ∀ i < 6, ∀ d < 2 ^ i, cnt (2 ^ i + d) 6 = cnt d 6 + 1 := by decide +kernel
theorem polyP_succ (t : Int) {w i : Nat} (hw : w < 64) (hi : i < 6) : polyP t w (i + 1) = polyP t w i * (if w.testBit i then 1 - t else 1 + t) := by
  unfold polyP
  rw [show 2 ^ (i + 1) = 2 ^ i + 2 ^ i by rw [Nat.pow_succ]; omega, sumTo_split]
  have e : sumTo (fun d => chi (par (2 ^ i + d) w) * t ^ cnt (2 ^ i + d) 6) (2 ^ i) = (chi (w.testBit i) * t) * sumTo (fun d => chi (par d w) * t ^ cnt d 6) (2 ^ i) := by
    rw [← sumTo_mul]
    refine sumTo_congr fun d hd => ?_
    rw [par_top i hi d hd w hw, cnt_top i hi d hd, chi_xor, Int.pow_succ]
    generalize chi (w.testBit i) = a
    generalize chi (par d w) = b
    generalize t ^ cnt d 6 = c
    ac_rfl
  rw [e]
  generalize sumTo (fun d => chi (par d w) * t ^ cnt d 6) (2 ^ i) = P
  cases w.testBit i
  · show P + 1 * t * P = P * (1 + t)
    rw [Int.one_mul, Int.mul_add, Int.mul_one, Int.mul_comm P t]
  · show P + -1 * t * P = P * (1 - t)
    rw [Int.mul_sub, Int.mul_one, Int.mul_comm P t, Int.neg_mul, Int.one_mul, Int.neg_mul, Int.sub_eq_add_neg]
theorem polyP_prod (t : Int) {w : Nat} (hw : w < 64) : ∀ i, i ≤ 6 → polyP t w i = (1 - t) ^ cnt w i * (1 + t) ^ (i - cnt w i)
  | 0, _ => by
    have h0 : par 0 w = false := by unfold par; simp
    have hc : cnt 0 6 = 0 := by decide
    have hc' : cnt w 0 = 0 := rfl
    unfold polyP
    rw [show 2 ^ 0 = 0 + 1 from rfl, sumTo, sumTo, h0, hc, hc', Nat.sub_zero, Int.pow_zero, Int.pow_zero, Int.pow_zero]
    rfl
  | i + 1, hi => by
    rw [polyP_succ t hw hi, polyP_prod t hw i (Nat.le_of_succ_le hi), cnt_succ]
    have hc := cnt_le w i
    cases w.testBit i
    · simp only [Bool.false_eq_true, if_false, Nat.add_zero]
      rw [show i + 1 - cnt w i = (i - cnt w i) + 1 by omega, Int.pow_succ, Int.mul_assoc]
    · simp only [if_true]
      rw [show i + 1 - (cnt w i + 1) = i - cnt w i by omega, Int.pow_succ]
      ac_rfl
theorem expand (t : Int) {w : Nat} (hw : w < 64) : (1 - t) ^ cnt w 6 * (1 + t) ^ (6 - cnt w 6) = sumTo (fun d => chi (par d w) * t ^ cnt d 6) 64 := (polyP_prod t hw 6 (Nat.le_refl 6)).symm
theorem bit_tb (n j : Nat) : (((n : Int).fdiv (2 ^ j)).fmod 2 = 1) ↔ n.testBit j = true := by
  have e : ((n : Int).fdiv (2 ^ j)).fmod 2 = ((n / 2 ^ j % 2 : Nat) : Int) := by
    rw [Int.fdiv_eq_ediv_of_nonneg _ (by exact_mod_cast Nat.zero_le _), Int.fmod_eq_emod_of_nonneg _ (by decide)]
    push_cast
    rfl
  rw [e, Nat.testBit_eq_decide_div_mod_eq, decide_eq_true_eq]
  omega
theorem wd_congr {ks : List Int} {n n' : Nat} : ∀ {i : Nat}, (∀ j < i, n.testBit j = n'.testBit j) → wdF ks n i = wdF ks n' i
  | 0, _ => rfl
  | i + 1, h => by
    have e : (((n : Int).fdiv (2 ^ i)).fmod 2 = 1) ↔ (((n' : Int).fdiv (2 ^ i)).fmod 2 = 1) := by rw [bit_tb, bit_tb, h i (Nat.lt_succ_self i)]
    rw [wdF, wdF, wd_congr fun j hj => h j (Nat.lt_succ_of_lt hj)]
    by_cases hc : ((n : Int).fdiv (2 ^ i)).fmod 2 = 1
    · rw [if_pos hc, if_pos (e.mp hc)]
    · rw [if_neg hc, if_neg fun q => hc (e.mpr q)]
theorem wd_no {ks : List Int} {n i : Nat} (h : n.testBit i = false) : wdF ks n (i + 1) = wdF ks n i := by
  rw [wdF, if_neg (by rw [bit_tb, h]; decide)]
theorem getD_bd {ks : List Int} (h : Bd ks) (i : Nat) : 0 ≤ ks.getD i 0 ∧ ks.getD i 0 < 64 := by
  by_cases hi : i < ks.length
  · rw [List.getD_eq_getElem?_getD, List.getElem?_eq_getElem hi]
    exact h _ (List.getElem_mem hi)
  · rw [List.getD_eq_getElem?_getD, List.getElem?_eq_none (by omega)]; decide
theorem wd_yes {ks : List Int} {n i : Nat} (hb : Bd ks) (h : n.testBit i = true) : (wdF ks n (i + 1)).toNat = (wdF ks n i).toNat ^^^ (ks.getD i 0).toNat := by
  rw [wdF, if_pos (by rw [bit_tb, h]), bitXor_nat (wd_bd hb) (getD_bd hb i), Int.toNat_natCast]
/-- what a set's signs sum to over the words -/
def prodK (d : Nat) (ks : List Int) : Nat → Int
  | 0 => 1
  | i + 1 => prodK d ks i * (1 + chi (par d (ks.getD i 0).toNat))
theorem chars {ks : List Int} (hb : Bd ks) (d : Nat) : ∀ i, sumTo (fun n => chi (par d (wdF ks n i).toNat)) (2 ^ i) = prodK d ks i
  | 0 => by
    show 0 + chi (par d (0 : Int).toNat) = 1
    rw [show (0 : Int).toNat = 0 from rfl, par_zero]; rfl
  | i + 1 => by
    rw [show 2 ^ (i + 1) = 2 ^ i + 2 ^ i by rw [Nat.pow_succ]; omega, sumTo_split, prodK, ← chars hb d i]
    have e1 : sumTo (fun n => chi (par d (wdF ks n (i + 1)).toNat)) (2 ^ i) = sumTo (fun n => chi (par d (wdF ks n i).toNat)) (2 ^ i) := by
      refine sumTo_congr fun n hn => ?_
      rw [wd_no (Nat.testBit_lt_two_pow hn)]
    have e2 : sumTo (fun n => chi (par d (wdF ks (2 ^ i + n : Nat) (i + 1)).toNat)) (2 ^ i) = chi (par d (ks.getD i 0).toNat) * sumTo (fun n => chi (par d (wdF ks n i).toNat)) (2 ^ i) := by
      rw [← sumTo_mul]
      refine sumTo_congr fun n hn => ?_
      have hbit : (2 ^ i + n).testBit i = true := by
        rw [Nat.testBit_two_pow_add_eq, Nat.testBit_lt_two_pow hn]; rfl
      have hlow : wdF ks (2 ^ i + n : Nat) i = wdF ks n i := wd_congr fun j hj => by
        rw [Nat.testBit_two_pow_add_gt hj]
      rw [wd_yes hb hbit, hlow, par_xor, chi_xor, Int.mul_comm]
    rw [e1, e2, Int.mul_add, Int.mul_one, Int.mul_comm (sumTo _ _) (chi _)]
theorem prodK_all {d : Nat} {ks : List Int} : ∀ {i : Nat}, (∀ j < i, par d (ks.getD j 0).toNat = false) → prodK d ks i = 2 ^ i
  | 0, _ => rfl
  | i + 1, h => by
    rw [prodK, prodK_all fun j hj => h j (Nat.lt_succ_of_lt hj), h i (Nat.lt_succ_self i), Int.pow_succ]; rfl
theorem prodK_none {d : Nat} {ks : List Int} {j : Nat} (hj : par d (ks.getD j 0).toNat = true) : ∀ {i : Nat}, j < i → prodK d ks i = 0
  | 0, h => absurd h (Nat.not_lt_zero _)
  | i + 1, h => by
    rw [prodK]
    by_cases hji : j = i
    · subst hji
      rw [hj]
      show _ * (1 + -1) = 0
      rw [Int.add_right_neg, Int.mul_zero]
    · rw [prodK_none hj (by omega), Int.zero_mul]
theorem ann_get {d : Nat} {ks : List Int} : Ann d ks ↔ ∀ j < ks.length, par d (ks.getD j 0).toNat = false := by
  constructor
  · intro h j hj
    rw [List.getD_eq_getElem?_getD, List.getElem?_eq_getElem hj]
    exact h _ (List.getElem_mem hj)
  · intro h x hx
    obtain ⟨j, hj, rfl⟩ := List.getElem_of_mem hx
    have := h j hj
    rw [List.getD_eq_getElem?_getD, List.getElem?_eq_getElem hj] at this
    exact this
theorem prodK_ann {d : Nat} {ks : List Int} (e : Bool) (he : e = true ↔ Ann d ks) : prodK d ks ks.length = if e then 2 ^ ks.length else 0 := by
  cases e with
  | true => rw [if_pos rfl]; exact prodK_all (ann_get.mp (he.mp rfl))
  | false =>
    rw [if_neg (by decide)]
    have hn : ¬ Ann d ks := fun q => by have := he.mpr q; cases this
    by_cases hx : ∃ j, j < ks.length ∧ par d (ks.getD j 0).toNat = true
    · obtain ⟨j, hj, hp⟩ := hx
      exact prodK_none hp hj
    · exfalso
      apply hn
      rw [ann_get]
      intro j hj
      cases q : par d (ks.getD j 0).toNat with
      | false => rfl
      | true => exact absurd ⟨j, hj, q⟩ hx
theorem sent_sum (ks : List Int) (t : Int) : ∀ N, sentF ks t N = sumTo (fun n => (1 - t) ^ wt6 (wdF ks n ks.length) * (1 + t) ^ (6 - wt6 (wdF ks n ks.length))) N
  | 0 => rfl
  | N + 1 => by rw [sentF, sumTo, sent_sum ks t N]
theorem macw {ks : List Int} (hb : Bd ks) (t : Int) (ev : Nat → Bool) (hev : ∀ d < 64, ev d = true ↔ Ann d ks) :
    sentF ks t (2 ^ ks.length) = sumTo (fun d => if ev d then t ^ cnt d 6 else 0) 64 * 2 ^ ks.length := by
  rw [sent_sum]
  have e1 : sumTo (fun n => (1 - t) ^ wt6 (wdF ks n ks.length) * (1 + t) ^ (6 - wt6 (wdF ks n ks.length))) (2 ^ ks.length) = sumTo (fun n => sumTo (fun d => chi (par d (wdF ks n ks.length).toNat) * t ^ cnt d 6) 64) (2 ^ ks.length) := by
    refine sumTo_congr fun n _ => ?_
    rw [wt6_cnt]
    exact expand t (by have := @wd_bd ks n hb ks.length; omega)
  rw [e1, sumTo_swap, Int.mul_comm, ← sumTo_mul]
  refine sumTo_congr fun d hd => ?_
  have e2 : sumTo (fun n => chi (par d (wdF ks n ks.length).toNat) * t ^ cnt d 6) (2 ^ ks.length) = t ^ cnt d 6 * sumTo (fun n => chi (par d (wdF ks n ks.length).toNat)) (2 ^ ks.length) := by
    rw [← sumTo_mul]
    exact sumTo_congr fun n _ => Int.mul_comm _ _
  rw [e2, chars hb, prodK_ann (ev d) (hev d hd)]
  cases ev d
  · simp
  · simp only [if_true]; exact Int.mul_comm _ _
theorem bits_cnt : ∀ d < 64, bitsI d = (cnt d 6 : Int) := by decide +kernel
theorem bits_par : ∀ y < 64, decide ((bitsI y).fmod 2 = 1) = (y.testBit 0 ^^ (y.testBit 1 ^^ (y.testBit 2 ^^ (y.testBit 3 ^^ (y.testBit 4 ^^ y.testBit 5))))) := by decide +kernel
theorem odd_par {d : Nat} (hd : d < 64) (x : Int) : oddB d x = par d x.toNat := by
  unfold oddB par
  rw [bits_par _ (Nat.lt_of_le_of_lt Nat.and_le_left hd)]
  simp only [Nat.testBit_and]
theorem par_mod (d x : Nat) : par d (x % 64) = par d x := by
  unfold par
  rw [show (64 : Nat) = 2 ^ 6 from rfl]
  simp only [Nat.testBit_mod_two_pow]
  simp
theorem even_ann {ms : List Int} (hb : ∀ x ∈ ms, 0 ≤ x ∧ x < 65536) {d : Nat} (hd : d < 64) : evenB ms d = true ↔ Ann d (ms.map fun x => x.fmod 64) := by
  unfold evenB
  rw [List.isEmpty_iff, List.filter_eq_nil_iff]
  constructor
  · intro h x hx
    obtain ⟨y, hy, rfl⟩ := List.mem_map.mp hx
    have h1 := h y hy
    rw [odd_par hd] at h1
    have h2 := hb y hy
    have : (y.fmod 64).toNat = y.toNat % 64 := by rw [Int.fmod_eq_emod_of_nonneg _ (by decide)]; omega
    rw [this, par_mod]
    simpa using h1
  · intro h y hy
    have h1 := h _ (List.mem_map_of_mem hy)
    have h2 := hb y hy
    have : (y.fmod 64).toNat = y.toNat % 64 := by rw [Int.fmod_eq_emod_of_nonneg _ (by decide)]; omega
    rw [this, par_mod] at h1
    rw [odd_par hd, h1]; decide
/-- the words of nought -/
theorem wd_indep {ks : List Int} (hb : Bd ks) (hnz : ∀ k ∈ ks, k ≠ 0) (hst : ks.Pairwise (fun a b => b.toNat.testBit a.toNat.log2 = false)) {n : Nat} : ∀ i, i ≤ ks.length →
    ((∀ j < i, n.testBit j = false) ∧ wdF ks n i = 0) ∨ ∃ j, j < i ∧ (wdF ks n i).toNat.testBit (ks.getD j 0).toNat.log2 = true
  | 0, _ => .inl ⟨fun j hj => absurd hj (Nat.not_lt_zero _), rfl⟩
  | i + 1, hi => by
    have hgi : ks.getD i 0 = ks[i] := by rw [List.getD_eq_getElem?_getD, List.getElem?_eq_getElem hi]; rfl
    cases hbit : n.testBit i with
    | false =>
      rw [wd_no hbit]
      rcases wd_indep hb hnz hst i (Nat.le_of_succ_le hi) with ⟨h1, h2⟩ | ⟨j, hj, h⟩
      · refine .inl ⟨fun j hj => ?_, h2⟩
        by_cases hji : j = i
        · rw [hji]; exact hbit
        · exact h1 j (by omega)
      · exact .inr ⟨j, by omega, h⟩
    | true =>
      rw [wd_yes hb hbit]
      rcases wd_indep hb hnz hst i (Nat.le_of_succ_le hi) with ⟨h1, h2⟩ | ⟨j, hj, h⟩
      · refine .inr ⟨i, Nat.lt_succ_self i, ?_⟩
        rw [h2, show (0 : Int).toNat = 0 from rfl, Nat.zero_xor]
        have h3 := getD_bd hb i
        have h4 : ks.getD i 0 ≠ 0 := by rw [hgi]; exact hnz _ (List.getElem_mem hi)
        exact Nat.testBit_log2 (by omega)
      · refine .inr ⟨j, by omega, ?_⟩
        have hgj : ks.getD j 0 = ks[j] := by rw [List.getD_eq_getElem?_getD, List.getElem?_eq_getElem (by omega)]; rfl
        have h5 := List.pairwise_iff_getElem.mp hst j i (by omega) hi hj
        rw [← hgi, ← hgj] at h5
        rw [Nat.testBit_xor, h, h5]; rfl
theorem cnt_zero : ∀ w < 64, cnt w 6 = 0 → w = 0 := by decide +kernel
theorem sum_first {f : Nat → Int} {c : Int} (h0 : f 0 = c) : ∀ {N : Nat}, 0 < N → (∀ n, 0 < n → n < N → f n = 0) → sumTo f N = c
  | 0, h, _ => absurd h (Nat.lt_irrefl _)
  | 1, _, _ => by rw [sumTo, sumTo, h0, Int.zero_add]
  | N + 2, _, h => by
    rw [sumTo, sum_first h0 (Nat.succ_pos N) fun n h1 h2 => h n h1 (Nat.lt_succ_of_lt h2), h (N + 1) (Nat.succ_pos N) (Nat.lt_succ_self _), Int.add_zero]
theorem sent_one {ws ks : List Int} (K : Kok ws ks) : sentF ks 1 (2 ^ ks.length) = 64 := by
  rw [sent_sum]
  have hw0 : wdF ks 0 ks.length = 0 := by
    have : ∀ i, wdF ks ((0 : Nat) : Int) i = 0 := by
      intro i
      induction i with
      | zero => rfl
      | succ i ih => rw [wd_no (Nat.zero_testBit i), ih]
    exact this _
  refine sum_first (c := 64) ?_ (Nat.two_pow_pos _) fun n h1 h2 => ?_
  · show (1 - 1 : Int) ^ wt6 (wdF ks 0 ks.length) * (1 + 1) ^ (6 - wt6 (wdF ks 0 ks.length)) = 64
    rw [hw0]; decide
  · rcases wd_indep K.bk K.nz K.stair (n := n) ks.length (Nat.le_refl _) with ⟨h3, _⟩ | ⟨j, hj, h⟩
    · exfalso
      have : n = 0 := by
        apply Nat.eq_of_testBit_eq
        intro j
        rw [Nat.zero_testBit]
        by_cases hj : j < ks.length
        · exact h3 j hj
        · exact Nat.testBit_lt_two_pow (Nat.lt_of_lt_of_le h2 (Nat.pow_le_pow_right (by decide) (by omega)))
      omega
    · have hwne : (wdF ks n ks.length).toNat ≠ 0 := fun q => by rw [q, Nat.zero_testBit] at h; cases h
      have hc : wt6 (wdF ks n ks.length) ≠ 0 := fun q => hwne (cnt_zero _ (by have := @wd_bd ks n K.bk ks.length; omega) q)
      obtain ⟨c, hc'⟩ := Nat.exists_eq_succ_of_ne_zero hc
      rw [hc', Int.pow_succ]
      show _ * (1 - 1 : Int) * _ = 0
      rw [Int.sub_self, Int.mul_zero, Int.zero_mul]
theorem one_pow : ∀ n : Nat, (1 : Int) ^ n = 1
  | 0 => rfl
  | n + 1 => by rw [Int.pow_succ, one_pow n]; rfl
theorem pure_hb {ms : List Int} : ∀ x ∈ ((List.range 64).filter (evenB ms)).map bitsI, 0 ≤ x ∧ x ≤ 6 := by
  intro x hx
  obtain ⟨d, hd, rfl⟩ := List.mem_map.mp hx
  have hd64 : d < 64 := List.mem_range.mp (List.mem_filter.mp hd).1
  rw [bits_cnt d hd64]
  have := cnt_le d 6
  omega
theorem pure_sum {ms : List Int} (t : Int) : ((((List.range 64).filter (evenB ms)).map bitsI).map fun x => t ^ x.toNat).sum = sumTo (fun d => if evenB ms d then t ^ cnt d 6 else 0) 64 := by
  rw [List.map_map, filter_sum]
  refine sumTo_congr fun d hd => ?_
  show (if evenB ms d = true then t ^ (bitsI d).toNat else 0) = _
  rw [bits_cnt d hd, Int.toNat_natCast]
theorem pure_e2 {ms ks : List Int} (hb : ∀ x ∈ ms, 0 ≤ x ∧ x < 65536) (K : Kok (ms.map fun x => x.fmod 64) ks) (t : Int) :
    ((((List.range 64).filter (evenB ms)).map bitsI).map fun x => t ^ x.toNat).sum * 2 ^ ks.length = sentF ks t (2 ^ ks.length) := by
  rw [pure_sum, macw K.bk t (evenB ms) fun d hd => (even_ann hb hd).trans (K.span d)]
theorem pure_e1 {ms ks : List Int} (hb : ∀ x ∈ ms, 0 ≤ x ∧ x < 65536) (K : Kok (ms.map fun x => x.fmod 64) ks) : ((((List.range 64).filter (evenB ms)).map bitsI).length : Int) * 2 ^ ks.length = 64 := by
  have h := pure_e2 hb K 1
  rw [sent_one K] at h
  have e : ∀ l : List Int, (l.map fun x => (1 : Int) ^ x.toNat).sum = (l.length : Int) := by
    intro l
    induction l with
    | nil => rfl
    | cons x l ih => rw [List.map_cons, List.sum_cons, ih, one_pow, List.length_cons]; omega
  rw [e] at h
  exact h
end Mine
end
section
open PySem PySem.W PyProof.Rows PySem.Calls
set_option Elab.async false
set_option maxRecDepth 100000
set_option maxHeartbeats 8000000
namespace Mine
local macro_rules | `(tactic| walk_at "none 0") => `(tactic| fail)
local macro_rules | `(tactic| walk_at "none 1") => `(tactic| fail)
local macro_rules | `(tactic| walk_at "none 2") => `(tactic| fail)
local macro_rules | `(tactic| walk_at "none 3") => `(tactic| fail)
local macro_rules | `(tactic| walk_at "none 4") => `(tactic| fail)
local macro_rules | `(tactic| walk_at "none 5") => `(tactic| fail)
local macro_rules | `(tactic| walk_at "none 6") => `(tactic| fail)
local macro_rules | `(tactic| walk_at "none 7") => `(tactic| fail)
local macro_rules | `(tactic| walk_at "none 8") => `(tactic| fail)
local macro_rules | `(tactic| walk_at "none 9") => `(tactic| fail)
local macro_rules | `(tactic| walk_at "none 10") => `(tactic| fail)
local macro_rules | `(tactic| walk_at "none 11") => `(tactic| fail)
local macro_rules | `(tactic| walk_at "none 12") => `(tactic| fail)
local macro_rules | `(tactic| walk_at "none 13") => `(tactic| fail)
local macro_rules | `(tactic| walk_at "none 14") => `(tactic| fail)
local macro_rules | `(tactic| walk_at "none 15") => `(tactic| fail)
local macro_rules | `(tactic| walk_at "none 16") => `(tactic| fail)
local macro_rules | `(tactic| walk_at "none 17") => `(tactic| fail)
local macro_rules | `(tactic| walk_at "none 18") => `(tactic| fail)
local macro_rules | `(tactic| walk_at "none 19") => `(tactic| fail)
local macro_rules | `(tactic| walk_at "none 20") => `(tactic| fail)
local macro_rules | `(tactic| walk_at "none 21") => `(tactic| fail)
local macro_rules | `(tactic| walk_at "none 22") => `(tactic| fail)
local macro_rules | `(tactic| walk_at "none 23") => `(tactic| fail)
local macro_rules | `(tactic| walk_at "none 24") => `(tactic| fail)
local macro_rules | `(tactic| walk_at "none 25") => `(tactic| fail)
local macro_rules | `(tactic| walk_at "none 26") => `(tactic| fail)
local macro_rules | `(tactic| walk_at "none 27") => `(tactic| fail)
local macro_rules | `(tactic| walk_at "none 28") => `(tactic| fail)
local macro_rules | `(tactic| walk_at "none 29") => `(tactic| fail)
local macro_rules | `(tactic| walk_at "none 30") => `(tactic| fail)
local macro_rules | `(tactic| walk_at "none 31") => `(tactic| fail)
local macro_rules | `(tactic| walk_at "none 32") => `(tactic| fail)
local macro_rules | `(tactic| walk_at "none 33") => `(tactic| fail)
local macro_rules | `(tactic| walk_at "none 34") => `(tactic| fail)
local macro_rules | `(tactic| walk_at "none 35") => `(tactic| fail)
local macro_rules | `(tactic| walk_at "none 36") => `(tactic| fail)
local macro_rules | `(tactic| walk_at "none 37") => `(tactic| fail)
local macro_rules | `(tactic| walk_at "none 38") => `(tactic| fail)
local macro_rules | `(tactic| walk_at "none 39") => `(tactic| fail)
local macro_rules | `(tactic| walk_at "none 40") => `(tactic| fail)
local macro_rules | `(tactic| walk_at "call ref") => `(tactic| (refine stop_intro ?_))
local macro_rules | `(tactic| walk_at "eval ListComp") => `(tactic| (refine stop_intro ?_))
local macro_rules | `(tactic| walk_at "exec For Name Call cons nil") => `(tactic| (refine stop_intro ?_))
theorem ints_append : ∀ {vs : List Value} {cs : List Int} {x : Int} {t : Tok}, IntsAre vs cs → IntsAre (vs ++ [.int x t]) (cs ++ [x])
  | _, _, x, t, .nil => .cons x t .nil
  | _, _, _, _, .cons y u h => .cons y u (ints_append h)
theorem take_succ_map {α β : Type} {l : List α} {i : Nat} {x : α} (f : α → β) (h : l[i]? = some x) : (l.take (i + 1)).map f = (l.take i).map f ++ [f x] := by
  rw [List.take_add_one, h, List.map_append]; rfl
theorem with_law2 {w : World} {G : List Stmt → Scope → Prop} {name qual name' qual' : Str} {params params' : Arguments} {body body' : List Stmt} {scope scope' : Scope} {dV kV doc pm cdv ct oc dV' kV' doc' pm' cdv' ct' oc' : Value} {an od an' od' : Option Addr} {osl osl' : Array (Option Value)}
    (ho : (hd.heap_39 w.params).lookup 154 = some ⟨oc, od, .func (fnOf name qual params body scope dV kV doc pm an cdv ct), osl⟩)
    (ho' : (hd.heap_39 w.params).lookup 154 = some ⟨oc', od', .func (fnOf name' qual' params' body' scope' dV' kV' doc' pm' an' cdv' ct'), osl'⟩)
    (h : (hd.heap_39 w.params).lookup 154 = some ⟨oc', od', .func (fnOf name' qual' params' body' scope' dV' kV' doc' pm' an' cdv' ct'), osl'⟩ → G body' scope') : G body scope := with_law ho ho' (h ho')
theorem after_new {h₀ h h' : Heap} {L D : Addr} {m : Str → Option Value} {news : List (Addr × Obj)} {o : Obj} (F : Fr h₀ L h m) (N : News h₀ L h news) (hk : Kept h h' []) (hD : h.get? D = none) (hD' : h'.get? D = some o) :
    Fr h₀ L h' m ∧ News h₀ L h' ((D, o) :: news) ∧ (∀ p ∈ news, @Ne Nat p.1 D) ∧ @Ne Nat L D := by
  obtain ⟨F1, N1⟩ := after_none F N hk
  have hne : ∀ b ob, h.get? b = some ob → b ≠ D := fun b ob e q => by rw [q, hD] at e; cases e
  have hLD : L ≠ D := by
    obtain ⟨oL, es, ep, hL, r⟩ := F.ns
    exact hne _ _ hL
  have h0 : h₀.get? D = none := by
    cases q : h₀.get? D with
    | none => rfl
    | some o => have := F.keep _ _ q; rw [hD] at this; cases this
  refine ⟨F1, fun p hp => ?_, fun p hp => hne _ _ (N p hp).1, hLD⟩
  rcases List.mem_cons.mp hp with rfl | hp
  · exact ⟨hD', Ne.symm hLD, h0⟩
  · exact N1 p hp
theorem tail2 {prog : Program} {w : World} {A : Around} {s : Shared} {g : Heap} {L' fa : Addr} {m : Str → Option Value} {loose : List Str} {mean : ExcName → Option Value} {mg mb : Str → Option Value}
    {name qual : Str} {params : Arguments} {body : List Stmt} {scope : Scope} {dV kV doc pm cdv ct oc : Value} {an od : Option Addr} {osl : Array (Option Value)} {lw : Str} {cd : Value} {Q : Flow → Shared → Prop}
    {M : Addr} {mv : List Value} {ms : List Int} {mc : Nat} {t : Int} {u1 : Tok} {o1 o2 o3 : Obj}
    (X : (hd.heap_39 w.params).In g) (T : Top hd.view_39 loose mean mg mb g)
    (ho : (hd.heap_39 w.params).lookup 154 = some ⟨oc, od, .func (fnOf name qual params body scope dV kV doc pm an cdv ct), osl⟩)
    (hroom : A.depth + 5 < recursionLimit) (hh : A.handled = none) (hu : A.units ≤ 100)
    (I : TailIn g L' s.heap m M mv ms mc t u1 o1 o2 o3)
    (hQ : ∀ h' tk m', Fr g L' h' m' → Q (.ret (.bool true)) { s with heap := h', toks := tk }) :
    wpAny (model prog w) A (execs (body.drop 2) (envOfC lw scope L' fa cd)) Q (fun _ _ => False) s := by
  have hk : hd.heap_39 w.params = hd.heap_39 w.params ∧ PySem.Challenge.rw_oc0087_01 = PySem.Challenge.rw_oc0087_01 := by
    k_fill
    exact ⟨rfl, rfl⟩
  clear hk
  refine' with_law2 (G := fun body scope => wpAny (model prog w) A (execs (body.drop 2) (envOfC lw scope L' fa cd)) Q (fun _ _ => False) s) ho ?ho ?h
  case ho => k_is
  case h =>
    intro hoL
    obtain ⟨F, N, d1, d2, d3, hlt, hI, hl1, hl5, hb, ht⟩ := I
    dsimp only [List.drop]
    have hlm : mv.length = ms.length := hI.length
    k_steps
    refine stop_elim ?_
    refine LCg.ListComp_U F (by with_unfolding_all rfl) (by decide) (by rfl) (by decide) (by rfl) ?_
    refine nameX_C N rfl (by k_mem) d2 ?_
    refine LCg.CompSrc.ledger hh F N (its := mv.toArray) (k := mc) (.head _) (by rw [List.size_toArray, PySem.sizeLine_eq]; omega) fun g1 => ?_
    clear F N
    refine rest_inv (fun i ys => IntsAre ys ((ms.take i).map fun x => x.fmod 64)) .nil ?_ ?_
    · rintro i v ys I oI C oC D m₂ h tk E' hi hI1 hv hC hx2 F N off ⟨n1, n2, n3⟩
      obtain ⟨k, tk0, rfl, hk⟩ := IntsAre.at hI i v (by simpa using hv)
      rw [take_succ_map _ hk]
      k_steps
      exact LCg.CompEnd.intro F N _ (fun p hp => hp) off (.inr ⟨_, .head _, rfl, _, rfl⟩) ⟨rfl, ints_append hI1⟩
    · intro ys hI1 D h tk F N off
      rw [List.take_of_length_le (by rw [List.size_toArray]; omega)] at hI1
      k_steps
      refine stop_elim ?_
      have hlm2 : ys.length = (List.map (fun x => x.fmod 64) ms).length := hI1.length
      have hbd : Bd (List.map (fun x => x.fmod 64) ms) := by
        intro x hx
        obtain ⟨y, hy, rfl⟩ := List.mem_map.mp hx
        obtain ⟨h1, h2⟩ := hb y hy
        rw [Int.fmod_eq_emod_of_nonneg y (by decide)]
        omega
      refine use_call (kp X T (fun b o e => F.keep b o e) (by omega) hh hu hI1 (N.get (.head _)) hbd (by rw [List.length_map]; omega) hlm2) ?_
      rintro v s' ⟨D2, kv, kc, ks, rfl, hD2, hIk, hK, h8, tk8, rfl, hk8, hD2'⟩
      obtain ⟨F8, N8, hne8, hL8⟩ := after_new F N hk8 hD2 hD2'
      clear F N
      have N9 : News g L' h8 [(D2, listOf kv.toArray kc), (M, listOf mv.toArray mc), (L' + 1 + 1 + 1, o3), (L' + 1 + 1, o2), (L' + 1, o1)] := fun p hp => N8 p (by
        rcases List.mem_cons.mp hp with rfl | hp
        · exact .head _
        · exact .tail _ (.tail _ hp))
      have hne : @Ne Nat M D2 ∧ @Ne Nat (L' + 1 + 1 + 1) D2 ∧ @Ne Nat (L' + 1 + 1) D2 ∧ @Ne Nat (L' + 1) D2 := ⟨hne8 _ (.tail _ (.head _)), hne8 _ (.tail _ (.tail _ (.head _))), hne8 _ (.tail _ (.tail _ (.tail _ (.head _)))), hne8 _ (.tail _ (.tail _ (.tail _ (.tail _ (.head _)))))⟩
      clear N8 hne8
      dsimp only
      have hk5 : ks.length ≤ 5 := hK.five
      have hkl : kv.length = ks.length := hIk.length
      k_steps
      refine stop_elim ?_
      rename Fr _ _ _ _ => F9
      rename News _ _ _ _ => N10
      rw [Int.toNat_natCast] at F9
      refine' loop5 X T hoL hroom hh hu F9 N10 ?hm5 d1 d2 d3 hlt hne hI hl1 hl5 hb ht hIk hK.bk hk5 ?hQ5
      case hm5 => exact ⟨rfl, rfl, rfl, trivial⟩
      case hQ5 =>
        intro h' tk m' us' F11 N11 hm11
        dsimp only
        obtain ⟨hm1, hm2, -⟩ := hm11
        refine' tail6 X T hoL hroom hh hu F11 (fun p hp => N11 p (.tail _ hp)) ⟨hm1, hm2, trivial⟩ d1 d2 d3 hlt hI hl5 hb ?hQ6
        case hQ6 =>
          intro D4 h4 tk4 es m4 F12 N12 hm12 hI12
          refine' ret8 X T hoL hh F12 N12 hm12 d1 hI12 ?hn ?hbn ht hk5 ?e1 ?e2 ?hQ8
          case hn => exact Nat.le_trans (by rw [List.length_map]; exact List.length_filter_le _ _) (by rw [List.length_range]; decide)
          case hbn => exact pure_hb
          case e1 => exact pure_e1 hb hK
          case e2 => exact pure_e2 hb hK t
          case hQ8 =>
            intro h5 tk5 F13
            exact hQ _ _ _ F13
end Mine
end
section
open PySem PySem.W PyProof.Rows PySem.Calls
set_option Elab.async false
set_option maxRecDepth 100000
set_option maxHeartbeats 8000000
namespace Mine
local macro_rules | `(tactic| walk_at "none 0") => `(tactic| fail)
local macro_rules | `(tactic| walk_at "none 1") => `(tactic| fail)
local macro_rules | `(tactic| walk_at "none 2") => `(tactic| fail)
local macro_rules | `(tactic| walk_at "none 3") => `(tactic| fail)
local macro_rules | `(tactic| walk_at "none 4") => `(tactic| fail)
local macro_rules | `(tactic| walk_at "none 5") => `(tactic| fail)
local macro_rules | `(tactic| walk_at "none 6") => `(tactic| fail)
local macro_rules | `(tactic| walk_at "none 7") => `(tactic| fail)
local macro_rules | `(tactic| walk_at "none 8") => `(tactic| fail)
local macro_rules | `(tactic| walk_at "none 9") => `(tactic| fail)
local macro_rules | `(tactic| walk_at "none 10") => `(tactic| fail)
local macro_rules | `(tactic| walk_at "none 11") => `(tactic| fail)
local macro_rules | `(tactic| walk_at "none 12") => `(tactic| fail)
local macro_rules | `(tactic| walk_at "none 13") => `(tactic| fail)
local macro_rules | `(tactic| walk_at "none 14") => `(tactic| fail)
local macro_rules | `(tactic| walk_at "none 15") => `(tactic| fail)
local macro_rules | `(tactic| walk_at "none 16") => `(tactic| fail)
local macro_rules | `(tactic| walk_at "none 17") => `(tactic| fail)
local macro_rules | `(tactic| walk_at "none 18") => `(tactic| fail)
local macro_rules | `(tactic| walk_at "none 19") => `(tactic| fail)
local macro_rules | `(tactic| walk_at "none 20") => `(tactic| fail)
local macro_rules | `(tactic| walk_at "none 21") => `(tactic| fail)
local macro_rules | `(tactic| walk_at "none 22") => `(tactic| fail)
local macro_rules | `(tactic| walk_at "none 23") => `(tactic| fail)
local macro_rules | `(tactic| walk_at "none 24") => `(tactic| fail)
local macro_rules | `(tactic| walk_at "none 25") => `(tactic| fail)
local macro_rules | `(tactic| walk_at "none 26") => `(tactic| fail)
local macro_rules | `(tactic| walk_at "none 27") => `(tactic| fail)
local macro_rules | `(tactic| walk_at "none 28") => `(tactic| fail)
local macro_rules | `(tactic| walk_at "none 29") => `(tactic| fail)
local macro_rules | `(tactic| walk_at "none 30") => `(tactic| fail)
local macro_rules | `(tactic| walk_at "none 31") => `(tactic| fail)
local macro_rules | `(tactic| walk_at "none 32") => `(tactic| fail)
local macro_rules | `(tactic| walk_at "none 33") => `(tactic| fail)
local macro_rules | `(tactic| walk_at "none 34") => `(tactic| fail)
local macro_rules | `(tactic| walk_at "none 35") => `(tactic| fail)
local macro_rules | `(tactic| walk_at "none 36") => `(tactic| fail)
local macro_rules | `(tactic| walk_at "none 37") => `(tactic| fail)
local macro_rules | `(tactic| walk_at "none 38") => `(tactic| fail)
local macro_rules | `(tactic| walk_at "none 39") => `(tactic| fail)
local macro_rules | `(tactic| walk_at "none 40") => `(tactic| fail)
local macro_rules | `(tactic| walk_at "none 41") => `(tactic| fail)
local macro_rules | `(tactic| walk_at "none 42") => `(tactic| fail)
local macro_rules | `(tactic| walk_at "none 43") => `(tactic| fail)
def OrEnd (h₀ : Heap) (L : Addr) (m : Str → Option Value) (s : Shared) (news : List (Addr × Obj)) (v : Value) (s' : Shared) : Prop :=
  ∃ M mv ms mc h tk, v = .ref M ∧ s' = { s with heap := h, toks := tk } ∧ Fr h₀ L h m ∧ News h₀ L h ((M, listOf mv.toArray mc) :: news) ∧ (∀ p ∈ news, @Ne Nat p.1 M) ∧ IntsAre mv ms ∧ 1 ≤ ms.length ∧ ms.length ≤ 5 ∧ (∀ x ∈ ms, 0 ≤ x ∧ x < 65536)
theorem OrEnd.intro {h₀ : Heap} {L M : Addr} {m : Str → Option Value} {s : Shared} {news all : List (Addr × Obj)} {h : Heap} {tk mc : Nat} {mv : List Value} {ms : List Int} (hI : IntsAre mv ms) (F : Fr h₀ L h m) (N : News h₀ L h all) (hm : (M, listOf mv.toArray mc) ∈ all) (hs : ∀ p ∈ news, p ∈ all)
    (hne : ∀ p ∈ news, @Ne Nat p.1 M) (h1 : 1 ≤ ms.length) (h5 : ms.length ≤ 5) (hb : ∀ x ∈ ms, 0 ≤ x ∧ x < 65536) : OrEnd h₀ L m s news (.ref M) { s with heap := h, toks := tk } :=
  ⟨M, mv, ms, mc, h, tk, rfl, rfl, F, fun p hp => by
    rcases List.mem_cons.mp hp with rfl | hp
    · exact N _ hm
    · exact N p (hs p hp), hne, hI, h1, h5, hb⟩
theorem or_join {prog : Program} {w : World} {A : Around} {E : Value → Shared → Prop} {s : Shared} {h₀ : Heap} {L : Addr} {m : Str → Option Value} {news : List (Addr × Obj)} {Q : Value → Shared → Prop} {x : Sem Value} (F : Fr h₀ L s.heap m) (N : News h₀ L s.heap news)
    (key : ∀ M mv ms mc h tk, Fr h₀ L h m → News h₀ L h ((M, listOf mv.toArray mc) :: news) → (∀ p ∈ news, @Ne Nat p.1 M) → IntsAre mv ms → 1 ≤ ms.length → ms.length ≤ 5 → (∀ x ∈ ms, 0 ≤ x ∧ x < 65536) → Q (.ref M) { s with heap := h, toks := tk })
    (walk : wpAny (model prog w) A x (OrEnd h₀ L m s news) E s) : wpAny (model prog w) A x Q E s :=
  wpAny_mono walk (fun v s' h => by
    obtain ⟨M, mv, ms, mc, h, tk, rfl, rfl, a, b, c, d, e, f, g⟩ := h
    exact key M mv ms mc h tk a b c d e f g) fun _ _ e => e
theorem news_four {g h : Heap} {L : Addr} {p1 p2 p3 p4 p5 : Addr × Obj} (N : News g L h ([p1, p2, p3] ++ [p4, p5])) : News g L h [p1, p3, p4, p5] := fun p hp => N p (by
  rcases List.mem_cons.mp hp with rfl | hp
  · exact .head _
  · exact .tail _ (.tail _ hp))
theorem tail2' {prog : Program} {w : World} {A : Around} {s : Shared} {g : Heap} {L' fa : Addr} {m : Str → Option Value} {loose : List Str} {mean : ExcName → Option Value} {mg mb : Str → Option Value} {stmts : List Stmt} {E : Value → Shared → Prop}
    {name qual : Str} {params : Arguments} {body : List Stmt} {scope : Scope} {dV kV doc pm cdv ct oc : Value} {an od : Option Addr} {osl : Array (Option Value)} {lw : Str} {cd : Value} {Q : Flow → Shared → Prop}
    {M : Addr} {mv : List Value} {ms : List Int} {mc : Nat} {t : Int} {u1 : Tok} {o1 o2 o3 : Obj}
    (X : (hd.heap_39 w.params).In g) (T : Top hd.view_39 loose mean mg mb g)
    (I : TailIn g L' s.heap m M mv ms mc t u1 o1 o2 o3)
    (hroom : A.depth + 5 < recursionLimit) (hh : A.handled = none) (hu : A.units ≤ 100)
    (ho : (hd.heap_39 w.params).lookup 154 = some ⟨oc, od, .func (fnOf name qual params body scope dV kV doc pm an cdv ct), osl⟩)
    (hst : stmts = body.drop 2)
    (hQ : ∀ h' tk m', Fr g L' h' m' → Q (.ret (.bool true)) { s with heap := h', toks := tk }) :
    wpAny (model prog w) A (execs stmts (envOfC lw scope L' fa cd)) Q E s := by
  subst hst
  exact wpAny_mono (tail2 X T ho hroom hh hu I hQ) (fun _ _ h => h) fun _ _ e => e.elim
local macro_rules | `(tactic| walk_at "eval BoolOp") => `(tactic| ((with_reducible show wpAny _ _ (eval (Expr.BoolOp BoolOp.Or _ _) _) _ _ _); refine stop_intro ?_))
theorem law_holds : PySem.Challenge.rw_oc0087_01.Holds := hd (by
  k_go0
  k_steps
  refine stop_elim ?_
  rename Fr _ _ _ _ => F0
  rename News _ _ _ _ => N0
  refine or_join F0 N0 ?_ ?_
  · intro M mv ms mc h tk F1 N1 hlt1 hI1 hl1 hl5 hb1
    clear F0 N0
    walk1
    dsimp only
    rename Fr _ _ _ _ => F2
    rename News _ _ _ _ => N2
    rename PyProof.Rows.Top _ _ _ _ _ _ => T0
    rename Frag.In _ _ => KX0
    refine' tail2' KX0 T0 ⟨F2, news_four N2, by assumption, by assumption, ?d3, ?hlt, hI1, hl1, hl5, hb1, ?ht⟩ ?hroom ?hh ?hu ?ho ?hst ?hQ
    case ho => k_is
    case hst => rfl
    case d3 => with_unfolding_all assumption
    case hlt => exact ⟨hlt1 _ (.tail _ (.head _)), hlt1 _ (.tail _ (.tail _ (.head _))), hlt1 _ (.tail _ (.tail _ (.tail _ (.head _))))⟩
    case ht => rw [Int.fmod_eq_emod_of_nonneg _ (by decide)]; omega
    case hroom => rw [depth_deeper]; decide +kernel
    case hh => rfl
    case hu => show callerA.units + 3 ≤ 100; decide +kernel
    case hQ =>
      intro h' tk m' F3
      k_steps
  · refine BoolOp_or ?_
    k_steps
    · rename Fr _ _ _ _ => F5
      rename News _ _ _ _ => N5
      rename IntsAre _ _ => hI8
      refine OrEnd.intro hI8 F5 N5 (.head _) (fun p hp => .tail _ (.tail _ hp)) (fun p hp => ?_) (by omega) ?_ ?_
      · simp only [List.mem_cons, List.not_mem_nil, or_false] at hp
        rcases hp with rfl | rfl | rfl | rfl <;> dsimp only <;> omega
      · rw [List.length_map]
        exact Nat.le_trans (List.length_take_le _ _) (by omega)
      · intro x hx
        obtain ⟨y, hy, rfl⟩ := List.mem_map.mp hx
        rw [Int.fmod_eq_emod_of_nonneg _ (by decide)]
        omega
    · refine stop_elim ?_
      refine BoolOp_one ?_
      k_steps
      rename Fr _ _ _ _ => F5
      rename News _ _ _ _ => N5
      refine OrEnd.intro (.cons 34741 _ (.cons 1077 _ (.cons 523 _ .nil))) F5 N5 (.head _) (fun p hp => .tail _ (.tail _ (.tail _ hp))) (fun p hp => ?_) (by decide) (by decide) (by decide)
      · simp only [List.mem_cons, List.not_mem_nil, or_false] at hp
        rcases hp with rfl | rfl | rfl | rfl <;> dsimp only <;> omega)

end Mine
end
open PySem PySem.W PyProof.Rows
theorem PySem.Challenge.cw_oc0087_01_holds : PySem.Challenge.rw_oc0087_01.Holds := by
  exact Mine.law_holds
