import PyProof.Rows.All
import Wide.All
import OpenK.AllK
import Wide.FinOn
import PyProof.MeetsSeq3
import PyProof.TupleKey
import PyProof.DictRoadsH
import PyProof.EqKinds
import PyProof.DictWalks
import PyProof.NeKinds
import PySem.Challenge.RW_eu0033_02
open PySem PySem.W PyProof.Rows
set_option Elab.async false
namespace Mine2
set_option maxRecDepth 100000 in
set_option maxHeartbeats 8000000 in
open_top hd for PySem.Challenge.rw_eu0033_02
end Mine2
section
open PySem PySem.W PyProof.Rows PySem.Calls
namespace MineS
set_option maxRecDepth 100000

section
variable {prog : Program} {w : World} {A : Around} {E : Value → Shared → Prop} {s : Shared}
theorem lookup_fn_bool : typeLookup (.type "function") "__bool__" = pure none := by rw [typeLookup_type, builtinLookup_eq_fast]; kernel_rfl
theorem lookup_fn_len : typeLookup (.type "function") "__len__" = pure none := by rw [typeLookup_type, builtinLookup_eq_fast]; kernel_rfl
theorem truthy_fn {a : Addr} {Q : Bool → Shared → Prop} (hT : s.TypeIs (.ref a) "function") (h : Q true s) : wpAny (model prog w) A (truthy (.ref a)) Q E s := by
  unfold truthy
  refine wpAny_bind (wpAny_callSpecial?_none hT lookup_fn_bool ?_)
  refine wpAny_bind (wpAny_specialOf hT lookup_fn_len ?_)
  exact wpAny_pure h
theorem call_bool_fn {a : Addr} {Q : Value → Shared → Prop} (hT : s.TypeIs (.ref a) "function") (h : Q (.bool true) s) : wpAny (model prog w) A (call (.type "bool") [.ref a]) Q E s := by
  refine call_bool_1 (S := fun _ R s => s.TypeIs (.ref a) "function" ∧ R (.ok (.ret (.bool true))) s) ?_ ⟨hT, rfl, h⟩
  refine Meets.of_wp fun prog w A R s hs => ?_
  obtain ⟨hp, g, d, tk, os⟩ := s
  have f1 := F.conv_sub_bool
  have hs1 := hs.1
  repeat (any_goals (first | assumption | (with_reducible refine truthy_fn hs1 ?_) | wp_step))
  all_goals first | exact ⟨_, rfl, hs.2⟩ | exact hs.2 | skip
end

/-- what a call that may catch an exception hands back: the ghost is turned (frames' slots alone) -/
def Back (A₀ : Around) (base : Heap) (outer : List Env) (K : Frag) (p : Program) (loose : List Str) (mean : ExcName → Option Value) (mg mb : Str → Option Value) (h₀ : Heap) (L : Addr) (m : Str → Option Value) (h' : Heap) (news' : List (Addr × Obj)) (h₀' : Heap) : Prop :=
  KtsTurn (outer.filterMap (·.frame)) h₀ h₀' ∧ Fr h₀' L h' m ∧ News h₀' L h' news' ∧ Below A₀ base outer h₀' ∧ K.In h₀' ∧ Top p loose mean mg mb h₀' ∧ KtsDicts (outer.filterMap (·.frame)) h₀'

def LeaveX (fs : List Addr) (A₀ : Around) (base : Heap) (outer : List Env) (K : Frag) (p : Program) (loose : List Str) (mean : ExcName → Option Value) (mg mb : Str → Option Value) (h₀ : Heap) (L : Addr) (m : Str → Option Value) (g : Heap) (R : Result → Shared → Prop) (v : Value) (s' : Shared) : Prop :=
  ∃ g' L'' m' news', KtsTurn fs g g' ∧ Fr g' L'' s'.heap m' ∧ News g' L'' s'.heap news' ∧ ∀ h₀', Back A₀ base outer K p loose mean mg mb h₀ L m s'.heap news' h₀' → R (.ok (.ret v)) s'

theorem leaveX_ {fs : List Addr} {A₀ : Around} {base : Heap} {outer : List Env} {K : Frag} {p : Program} {loose : List Str} {mean : ExcName → Option Value} {mg mb : Str → Option Value} {h₀ : Heap} {L : Addr} {m : Str → Option Value} {g : Heap} {R : Result → Shared → Prop} {v : Value} {s' : Shared}
    {g' : Heap} {L'' : Addr} {m' : Str → Option Value} {news' : List (Addr × Obj)} (F' : Fr g' L'' s'.heap m') (N' : News g' L'' s'.heap news') (T : KtsTurn fs g g') (k : ∀ h₀', Back A₀ base outer K p loose mean mg mb h₀ L m s'.heap news' h₀' → R (.ok (.ret v)) s') :
    LeaveX fs A₀ base outer K p loose mean mg mb h₀ L m g R v s' := ⟨g', L'', m', news', T, F', N', k⟩

theorem frames_mem {env : Env} {outer : List Env} {L b : Addr} (hf : env.frame = some L) (hm : b ∈ (env :: outer).filterMap (·.frame)) : b = L ∨ b ∈ outer.filterMap (·.frame) := by
  rw [List.filterMap_cons_some hf] at hm
  exact List.mem_cons.mp hm

section
variable {prog : Program} {w : World} {A₀ A : Around} {s : Shared} {base h₀ : Heap} {outer : List Env} {L : Addr} {m : Str → Option Value} {env : Env} {news : List (Addr × Obj)} {K : Frag} {p : Program} {loose : List Str} {mean : ExcName → Option Value} {mg mb : Str → Option Value}
  {R : Result → Shared → Prop} {name qual : Str} {params : Arguments} {body : List Stmt} {scope : Scope} {cl : List (Str × Addr)} {dV kV doc pm cdv ct : Value} {an : Option Addr} {fo : Obj} {f : Addr} {args : Args} {binds : List (Str × Value)}

theorem ghost_up (B : Below A₀ base outer h₀) (F : Fr h₀ L s.heap m) (N : News h₀ L s.heap news) (hA : A.frames = some (env :: outer)) (hf : env.frame = some L) (hke : env.scope.kind = .function) (D : KtsDicts (outer.filterMap (·.frame)) h₀) :
    ∃ g oL es ep, g = hideAll s.heap (news.map (·.1)) ∧ g.get? L = some oL ∧ oL.data = .dict es ep ∧ (∀ (sl : Array (Option Value)) h', Heap.get? h' L = some { oL with slots := sl } → Heap.Ns h' L m) ∧ h₀.StaysIn g ∧ Below A base (env :: outer) g ∧ KtsDicts ((env :: outer).filterMap (·.frame)) g := by
  obtain ⟨F', B', st, _⟩ := groundX (R := fun _ _ => True) B F N hA hf hke
  obtain ⟨oL, es, ep, hL, hLd, hLk, hLf⟩ := F'.ns
  refine ⟨_, oL, es, ep, rfl, hL, hLd, fun sl h' e => ⟨_, es, ep, e, hLd, hLk, hLf⟩, st, B', fun b hb => ?_⟩
  rcases frames_mem hf hb with rfl | hb
  · exact ⟨oL, es, ep, hL, hLd⟩
  · obtain ⟨o, es', n', ho', hd'⟩ := D b hb
    exact ⟨o, es', n', st b o ho', hd'⟩

theorem back_of {g g' : Heap} {oL : Obj} {L' : Addr} {m' : Str → Option Value} {news' : List (Addr × Obj)} {h' : Heap} (hf : env.frame = some L) (B : Below A₀ base outer h₀) (F : Fr h₀ L s.heap m) (XB : K.In base) (TB : Top p loose mean mg mb base) (D : KtsDicts (outer.filterMap (·.frame)) h₀)
    (hL : g.get? L = some oL) (hNs : ∀ (sl : Array (Option Value)) h', Heap.get? h' L = some { oL with slots := sl } → Heap.Ns h' L m) (st : h₀.StaysIn g)
    (T : KtsTurn ((env :: outer).filterMap (·.frame)) g g') (F' : Fr g' L' h' m') (N' : News g' L' h' news') : ∃ h₀', Back A₀ base outer K p loose mean mg mb h₀ L m h' news' h₀' := by
  have nL₀ : h₀.get? L = none := kts_self F
  have up : ∀ b o, h₀.get? b = some o → ∃ sl, h'.get? b = some { o with slots := sl } := fun b o e => by
    obtain ⟨sl, hs⟩ := T.up (st b o e)
    exact ⟨sl, F'.keep _ _ hs⟩
  obtain ⟨T₁, S₁⟩ := kts_turn_at (h := h') (fs := outer.filterMap (·.frame)) (g := h₀)
    (fun b hb => let ⟨_, o, ho', _⟩ := B.frames.mem hb; ⟨o, ho'⟩)
    (fun b o e nm => F'.keep b o (T.other b o (st b o e) fun q => by
      rcases frames_mem hf q with z | z
      · rw [z, nL₀] at e; cases e
      · exact nm z))
    (fun b o e _ => up b o e)
  have B₁ : Below A₀ base outer (ktsHeap h' (outer.filterMap (·.frame)) h₀) := ⟨B.stack, fun b o e => T₁.other b o (B.stays b o e) (fun hm => by rw [(B.frames.mem hm).1] at e; cases e),
    B.frames.of_keeps fun b o e _ => let ⟨sl', hs'⟩ := T₁.up e; ⟨_, hs', rfl⟩⟩
  obtain ⟨sl, hs⟩ := T.up hL
  refine ⟨_, T₁, ⟨hNs sl _ (F'.keep _ _ hs), S₁, by rw [T₁.size]; exact F.above⟩, fun q hq => ⟨(N' q hq).1, fun z => ?_, T₁.none_ _ ?_⟩, B₁, XB.keeps B₁.stays, TB.keeps B₁.stays, D.turn T₁⟩
  · have := (N' q hq).2.2; rw [z, hs] at this; cases this
  · cases z : h₀.get? q.1 with
    | none => rfl
    | some o =>
      obtain ⟨sl', hs'⟩ := T.up (st _ _ z)
      have := (N' q hq).2.2
      rw [hs'] at this; cases this

/-- a call of a def (closures too) whose body may catch: the callee runs over a ghost that may be turned -/
theorem call_SX (B : Below A₀ base outer h₀) (F : Fr h₀ L s.heap m) (N : News h₀ L s.heap news) (X₀ : K.In h₀) (T : Top p loose mean mg mb h₀) (XB : K.In base) (TB : Top p loose mean mg mb base) (D : KtsDicts (outer.filterMap (·.frame)) h₀)
    (hA : A.frames = some (env :: outer)) (hf : env.frame = some L) (hke : env.scope.kind = .function)
    (ho : s.heap.get? f = some fo) (hd : fo.data = .func (fnX name qual params body scope cl dV kV doc pm an cdv ct)) (hcd : s.heap.CodeRec cdv qual) (hroom : A.depth < recursionLimit)
    (hbind : BindsTo s (fnX name qual params body scope cl dV kV doc pm an cdv ct) args binds) (hloc : ∀ y ∈ binds, scope.names.lookup y.1 = some .local)
    (h : ∀ g L' h₁, Fr g L' h₁ (fun y => binds.reverse.lookup y) → News g L' h₁ news → Below A base (env :: outer) g → K.In g → Top p loose mean mg mb g → KtsDicts ((env :: outer).filterMap (·.frame)) g →
      wpAny (model prog w) (A.deeper (envX qual scope L' f cdv cl)) (execs body (envX qual scope L' f cdv cl))
        (fun fl s' => LeaveX ((env :: outer).filterMap (·.frame)) A₀ base outer K p loose mean mg mb h₀ L m g R (match fl with | .ret v => v | _ => .none) s')
        (fun e s' => wpAny (model prog w) (A.deeper (envX qual scope L' f cdv cl)) (leaving (envX qual scope L' f cdv cl) e) (fun _ s'' => R (.error e) s'') (fun e' s'' => R (.error e') s'') s')
        { s with heap := h₁, toks := s.toks + binds.length })
    (hcell : ∀ x ∈ scope.names, x.2 ≠ .cell) (hco : scope.isCoroutine = false := by rfl) (hgen : scope.isGenerator = false := by rfl) (hk : scope.kind = .function := by rfl) : codeAny (model prog w) A (.call (.ref f) args) R s := by
  obtain ⟨g, oL, es, ep, eg, hL, hLd, hNs, st, B', D'⟩ := ghost_up B F N hA hf hke D
  refine codeAny_call_def (fd := fnX name qual params body scope cl dV kV doc pm an cdv ct) (body := body) (binds := binds) hroom ho hd (T.nolimit.keeps F.keep) hcd rfl hbind hcell hloc (fun h₁ hns hk₁ => ?_) hco hgen hk
  have Fg : Fr g s.heap.objs.size h₁ (fun y => binds.reverse.lookup y) := ⟨hns, fun b o e => hk₁ b o (of_hideAll _ (eg ▸ e)), by rw [eg]; exact Nat.le_of_eq (hideAll_size _ _)⟩
  have Ng : News g s.heap.objs.size h₁ news := fun q hq => ⟨hk₁ _ _ (N q hq).1, Nat.ne_of_lt (Heap.lt_size (N q hq).1), by rw [eg]; exact hideAll_none _ (List.mem_map_of_mem hq)⟩
  refine wpAny_mono (h g s.heap.objs.size h₁ Fg Ng B' (X₀.keeps st) (T.keeps st) D') (fun fl s' hl => ?_) fun _ _ y => y
  obtain ⟨g', L'', m', news', T', F', N', k⟩ := hl
  obtain ⟨h₀', b⟩ := back_of (K := K) (p := p) (loose := loose) (mean := mean) (mg := mg) (mb := mb) hf B F XB TB D hL hNs st T' F' N'
  exact k h₀' b

theorem call_SK {oc : Value} {od : Option Addr} {osl : Array (Option Value)} (B : Below A₀ base outer h₀) (F : Fr h₀ L s.heap m) (X₀ : K.In h₀) (N : News h₀ L s.heap news) (T : Top p loose mean mg mb h₀) (XB : K.In base) (TB : Top p loose mean mg mb base) (D : KtsDicts (outer.filterMap (·.frame)) h₀)
    (hA : A.frames = some (env :: outer)) (hf : env.frame = some L) (hke : env.scope.kind = .function)
    (ho : K.lookup f = some ⟨oc, od, .func (fnOf name qual params body scope dV kV doc pm an cdv ct), osl⟩) (hcd : codeIn K cdv qual = true) (hroom : A.depth < recursionLimit)
    (hbind : BindsTo s (fnOf name qual params body scope dV kV doc pm an cdv ct) args binds) (hloc : ∀ y ∈ binds, scope.names.lookup y.1 = some .local)
    (h : ∀ g L' h₁, Fr g L' h₁ (fun y => binds.reverse.lookup y) → News g L' h₁ news → Below A base (env :: outer) g → K.In g → Top p loose mean mg mb g → KtsDicts ((env :: outer).filterMap (·.frame)) g →
      wpAny (model prog w) (A.deeper (envOf qual scope L' f cdv)) (execs body (envOf qual scope L' f cdv))
        (fun fl s' => LeaveX ((env :: outer).filterMap (·.frame)) A₀ base outer K p loose mean mg mb h₀ L m g R (match fl with | .ret v => v | _ => .none) s')
        (fun e s' => wpAny (model prog w) (A.deeper (envOf qual scope L' f cdv)) (leaving (envOf qual scope L' f cdv) e) (fun _ s'' => R (.error e) s'') (fun e' s'' => R (.error e') s'') s')
        { s with heap := h₁, toks := s.toks + binds.length })
    (hco : scope.isCoroutine = false) (hgen : scope.isGenerator = false) (hk : scope.kind = .function) (hcell : ∀ x ∈ scope.names, x.2 ≠ .cell) : codeAny (model prog w) A (.call (.ref f) args) R s :=
  call_SX (cl := []) B F N X₀ T XB TB D hA hf hke ((X₀.keeps F.keep) _ _ ho) rfl (codeRec_of (X₀.keeps F.keep) hcd) hroom hbind hloc h hcell hco hgen hk
end
end MineS
end
section
open PySem PySem.W PyProof.Rows
namespace MineP
set_option maxRecDepth 100000
/-! the sort's tree of questions, run by keys that are all different: it hands out the order of the keys -/
def krun {α : Type} (cmp : Nat → Nat → Bool) : KasT α → α
  | .ret a => a
  | .ask i j k => krun cmp (k (cmp i j))
theorem krun_bind {α β : Type} {cmp : Nat → Nat → Bool} {f : α → KasT β} : ∀ t : KasT α, krun cmp (t.bind f) = krun cmp (f (krun cmp t))
  | .ret _ => rfl
  | .ask i j k => by
    show krun cmp ((k (cmp i j)).bind f) = _
    rw [krun_bind (k (cmp i j))]; rfl
/-- every question on the way is a fair one -/
def kok {α : Type} (ok : Nat → Nat → Prop) (cmp : Nat → Nat → Bool) : KasT α → Prop
  | .ret _ => True
  | .ask i j k => ok i j ∧ kok ok cmp (k (cmp i j))
theorem kok_bind {α β : Type} {ok : Nat → Nat → Prop} {cmp : Nat → Nat → Bool} {f : α → KasT β} : ∀ t : KasT α, kok ok cmp t → kok ok cmp (f (krun cmp t)) → kok ok cmp (t.bind f)
  | .ret _, _, h => h
  | .ask i j k, h1, h2 => ⟨h1.1, kok_bind (k (cmp i j)) h1.2 h2⟩
theorem krun_wp {α : Type} {ask : Nat → Nat → (Bool → Shared → Prop) → Shared → Prop} {ok : Nat → Nat → Prop} {cmp : Nat → Nat → Bool} {I : Shared → Prop} {Q : α → Shared → Prop}
    (ha : ∀ i j s C, ok i j → I s → (∀ s', I s' → C (cmp i j) s') → ask i j C s) : ∀ (t : KasT α) (s : Shared), kok ok cmp t → I s → (∀ s', I s' → Q (krun cmp t) s') → t.kasWp ask Q s
  | .ret _, s, _, hs, h => h s hs
  | .ask i j k, s, o, hs, h => ha i j s _ o.1 hs fun s' hs' => krun_wp ha (k (cmp i j)) s' o.2 hs' h

section
variable (key : Nat → Int)
def Kp (p : Array Nat) (i : Nat) : Int := key (p.getD i 0)
abbrev kcmp (i j : Nat) : Bool := decide (key i < key j)
def Asc (p : Array Nat) (m : Nat) : Prop := ∀ i j, i < j → j < m → Kp key p i < Kp key p j
def Desc (p : Array Nat) (m : Nat) : Prop := ∀ i j, i < j → j < m → Kp key p j < Kp key p i
/-- keys that differ at all places below n -/
def Dis (p : Array Nat) (n : Nat) : Prop := ∀ i j, i < j → j < n → Kp key p i ≠ Kp key p j
variable {key}
variable {n₀ : Nat}
/-- the places that the array names lie below n₀ -/
def Rng (n₀ : Nat) (p : Array Nat) (N : Nat) : Prop := ∀ i, i < N → p.getD i 0 < n₀
variable (key n₀) in
abbrev Ok (i j : Nat) : Prop := i < n₀ ∧ j < n₀ ∧ key i ≠ key j
theorem Asc.snoc {p : Array Nat} {m : Nat} (h : Asc key p m) (h1 : ∀ i, i < m → Kp key p i < Kp key p m) : Asc key p (m + 1) := fun i j hij hj => by
  by_cases e : j = m
  · subst e; exact h1 i hij
  · exact h i j hij (by omega)
theorem Desc.snoc {p : Array Nat} {m : Nat} (h : Desc key p m) (h1 : ∀ i, i < m → Kp key p m < Kp key p i) : Desc key p (m + 1) := fun i j hij hj => by
  by_cases e : j = m
  · subst e; exact h1 i hij
  · exact h i j hij (by omega)
theorem asc_one {p : Array Nat} : Asc key p 1 := fun i j hij hj => by omega

theorem asc_run {p : Array Nat} {N : Nat} (D : Dis key p N) (R : Rng n₀ p N) : ∀ (f n : Nat), 1 ≤ n → n + f ≤ N → Asc key p n →
    kok (Ok key n₀) (kcmp key) (kas_asc p f n) ∧ ∃ m, krun (kcmp key) (kas_asc p f n) = m ∧ n ≤ m ∧ m ≤ n + f ∧ Asc key p m ∧ (m < n + f → Kp key p m < Kp key p (m - 1))
  | 0, n, _, _, h => ⟨trivial, n, rfl, Nat.le_refl _, Nat.le_refl _, h, fun h => by omega⟩
  | f + 1, n, h1, h2, h => by
    have o : Ok key n₀ (p.getD n 0) (p.getD (n - 1) 0) := ⟨R _ (by omega), R _ (by omega), (D (n - 1) n (by omega) (by omega)).symm⟩
    show (Ok key n₀ (p.getD n 0) (p.getD (n - 1) 0) ∧ kok (Ok key n₀) (kcmp key) (if kcmp key (p.getD n 0) (p.getD (n - 1) 0) = true then KasT.ret n else kas_asc p f (n + 1))) ∧ ∃ m, krun (kcmp key) (if kcmp key (p.getD n 0) (p.getD (n - 1) 0) = true then KasT.ret n else kas_asc p f (n + 1)) = m ∧ _
    by_cases c : Kp key p n < Kp key p (n - 1)
    · have c' : kcmp key (p.getD n 0) (p.getD (n - 1) 0) = true := decide_eq_true c
      rw [if_pos c']
      exact ⟨⟨o, trivial⟩, n, rfl, Nat.le_refl _, by omega, h, fun _ => c⟩
    · have c' : ¬ kcmp key (p.getD n 0) (p.getD (n - 1) 0) = true := fun e => c (of_decide_eq_true e)
      rw [if_neg c']
      have d := D (n - 1) n (by omega) (by omega)
      have hn : Asc key p (n + 1) := h.snoc fun i hi => by
        by_cases e : i = n - 1
        · subst e; omega
        · have := h i (n - 1) (by omega) (by omega); omega
      obtain ⟨k, m, e, a1, a2, a3, a4⟩ := asc_run D R f (n + 1) (by omega) (by omega) hn
      exact ⟨⟨o, k⟩, m, e, by omega, by omega, a3, fun q => a4 (by omega)⟩

theorem desc_run {p : Array Nat} {N : Nat} (D : Dis key p N) (R : Rng n₀ p N) : ∀ (f n : Nat), 2 ≤ n → n + f ≤ N → Desc key p n →
    kok (Ok key n₀) (kcmp key) (kas_desc f p n 0) ∧ ∃ m, krun (kcmp key) (kas_desc f p n 0) = (p, m, 0) ∧ n ≤ m ∧ m ≤ n + f ∧ Desc key p m
  | 0, n, _, _, h => ⟨trivial, n, rfl, Nat.le_refl _, Nat.le_refl _, h⟩
  | f + 1, n, h1, h2, h => by
    have d := D (n - 1) n (by omega) (by omega)
    have o : Ok key n₀ (p.getD n 0) (p.getD (n - 1) 0) := ⟨R _ (by omega), R _ (by omega), d.symm⟩
    show (Ok key n₀ (p.getD n 0) (p.getD (n - 1) 0) ∧ kok (Ok key n₀) (kcmp key) (if kcmp key (p.getD n 0) (p.getD (n - 1) 0) = true then (if 0 > 0 then kas_desc f (kas_rev p (n - (0 + 1)) n) (n + 1) 0 else kas_desc f p (n + 1) 0)
      else .ask (p.getD (n - 1) 0) (p.getD n 0) fun d => if d = true then .ret (p, n, 0) else kas_desc f p (n + 1) (0 + 1))) ∧
      ∃ m, krun (kcmp key) (if kcmp key (p.getD n 0) (p.getD (n - 1) 0) = true then (if 0 > 0 then kas_desc f (kas_rev p (n - (0 + 1)) n) (n + 1) 0 else kas_desc f p (n + 1) 0)
      else .ask (p.getD (n - 1) 0) (p.getD n 0) fun d => if d = true then .ret (p, n, 0) else kas_desc f p (n + 1) (0 + 1)) = (p, m, 0) ∧ _
    by_cases c : Kp key p n < Kp key p (n - 1)
    · have c' : kcmp key (p.getD n 0) (p.getD (n - 1) 0) = true := decide_eq_true c
      rw [if_pos c', if_neg (by omega)]
      have hn : Desc key p (n + 1) := h.snoc fun i hi => by
        by_cases e : i = n - 1
        · subst e; exact c
        · have := h i (n - 1) (by omega) (by omega); omega
      obtain ⟨k, m, e, a1, a2, a3⟩ := desc_run D R f (n + 1) (by omega) (by omega) hn
      exact ⟨⟨o, k⟩, m, e, by omega, by omega, a3⟩
    · have c' : ¬ kcmp key (p.getD n 0) (p.getD (n - 1) 0) = true := fun e => c (of_decide_eq_true e)
      rw [if_neg c']
      have c2 : kcmp key (p.getD (n - 1) 0) (p.getD n 0) = true := decide_eq_true (by unfold Kp at c d; omega)
      show (Ok key n₀ (p.getD n 0) (p.getD (n - 1) 0) ∧ Ok key n₀ (p.getD (n - 1) 0) (p.getD n 0) ∧ kok (Ok key n₀) (kcmp key) (if kcmp key (p.getD (n - 1) 0) (p.getD n 0) = true then KasT.ret (p, n, 0) else kas_desc f p (n + 1) (0 + 1))) ∧
        ∃ m, krun (kcmp key) (if kcmp key (p.getD (n - 1) 0) (p.getD n 0) = true then KasT.ret (p, n, 0) else kas_desc f p (n + 1) (0 + 1)) = (p, m, 0) ∧ _
      rw [if_pos c2]
      exact ⟨⟨o, ⟨o.2.1, o.1, d⟩, trivial⟩, n, rfl, Nat.le_refl _, by omega, h⟩

theorem getD_eq {p q : Array Nat} {i j : Nat} (h : p[i]? = q[j]?) : Kp key p i = Kp key q j := by
  unfold Kp; rw [Array.getD_eq_getD_getElem?, Array.getD_eq_getD_getElem?, h]
theorem getD_same {p q : Array Nat} {i j : Nat} (h : p[i]? = q[j]?) : p.getD i 0 = q.getD j 0 := by
  rw [Array.getD_eq_getD_getElem?, Array.getD_eq_getD_getElem?, h]
theorem rev_rng {p : Array Nat} {n N : Nat} (hn : n ≤ N) (hN : N ≤ p.size) (R : Rng n₀ p N) : Rng n₀ (kas_rev p 0 n) N := fun k hk => by
  have e := getElem?_mirror_all (xs := p) (i := 0) (j := n) (by omega) k
  unfold kas_rev
  by_cases h : k < n
  · rw [if_pos ⟨Nat.zero_le _, h⟩] at e
    rw [getD_same e]; exact R _ (by omega)
  · rw [if_neg (fun q => h q.2)] at e
    rw [getD_same e]; exact R _ hk
theorem rev_at {p : Array Nat} {n : Nat} (hn : n ≤ p.size) (k : Nat) : Kp key (kas_rev p 0 n) k = if k < n then Kp key p (n - 1 - k) else Kp key p k := by
  have e := getElem?_mirror_all (xs := p) (i := 0) hn k
  unfold kas_rev
  by_cases h : k < n
  · rw [if_pos h]
    refine getD_eq ?_
    rw [e, if_pos ⟨Nat.zero_le _, h⟩]
    congr 1; omega
  · rw [if_neg h]
    refine getD_eq ?_
    rw [e, if_neg (fun q => h q.2)]
theorem rev_size (p : Array Nat) (n : Nat) : (kas_rev p 0 n).size = p.size := mirror_size _ _ _ _
theorem rev_asc {p : Array Nat} {n : Nat} (hn : n ≤ p.size) (h : Desc key p n) : Asc key (kas_rev p 0 n) n := fun i j hij hj => by
  rw [rev_at hn, rev_at hn, if_pos (by omega), if_pos hj]
  exact h _ _ (by omega) (by omega)
theorem rev_dis {p : Array Nat} {n N : Nat} (hn : n ≤ N) (hN : N ≤ p.size) (D : Dis key p N) : Dis key (kas_rev p 0 n) N := fun i j hij hj => by
  rw [rev_at (by omega), rev_at (by omega)]
  by_cases h2 : j < n
  · rw [if_pos (by omega), if_pos h2]
    exact (D _ _ (by omega) (by omega)).symm
  · rw [if_neg h2]
    by_cases h1 : i < n
    · rw [if_pos h1]; exact D _ _ (by omega) hj
    · rw [if_neg h1]; exact D _ _ hij hj

theorem tail_run {p : Array Nat} {n N : Nat} (h1 : 1 ≤ n) (hn : n ≤ N) (hN : N ≤ p.size) (D : Dis key p N) (R : Rng n₀ p N) (h : Desc key p n) :
    kok (Ok key n₀) (kcmp key) (kas_tail3 n N p) ∧ ∃ m q, krun (kcmp key) (kas_tail3 n N p) = (m, q) ∧ q.Perm p ∧ q.size = p.size ∧ 1 ≤ m ∧ m ≤ N ∧ Asc key q m ∧ Rng n₀ q N := by
  have R' := rev_rng hn hN R
  obtain ⟨k, m, e, a1, a2, a3, _⟩ := asc_run (rev_dis hn hN D) R' (N - n) n h1 (by omega) (rev_asc (by omega) h)
  refine ⟨kok_bind _ k trivial, m, kas_rev p 0 n, ?_, mirror_perm _ _ _ _, rev_size _ _, by omega, by omega, a3, R'⟩
  unfold kas_tail3
  rw [krun_bind, e]; rfl

theorem count_run {p : Array Nat} {N : Nat} (h1 : 1 ≤ N) (hN : N ≤ p.size) (D : Dis key p N) (R : Rng n₀ p N) :
    kok (Ok key n₀) (kcmp key) (kas_count N p) ∧ ∃ m q, krun (kcmp key) (kas_count N p) = (m, q) ∧ q.Perm p ∧ q.size = p.size ∧ 1 ≤ m ∧ m ≤ N ∧ Asc key q m ∧ Rng n₀ q N := by
  obtain ⟨k0, n, e, a1, a2, a3, a4⟩ := asc_run D R (N - 1) 1 (Nat.le_refl _) (by omega) asc_one
  have bk : ∀ {β : Type} {t : KasT β} (f : Nat → KasT β), f n = t → kok (Ok key n₀) (kcmp key) t → kok (Ok key n₀) (kcmp key) ((kas_asc p (N - 1) 1).bind f) := fun f e1 h => kok_bind _ k0 (by rw [e, e1]; exact h)
  unfold kas_count
  rw [krun_bind, e]
  by_cases hn : n = N
  · refine ⟨bk _ (if_pos (by simp [hn])) trivial, ?_⟩
    rw [if_pos (by simp [hn])]
    exact ⟨n, p, rfl, Array.Perm.refl _, rfl, by omega, by omega, a3, R⟩
  · rw [if_neg (by simpa using hn)]
    by_cases h2 : n > 1
    · have c : kcmp key (p.getD 0 0) (p.getD (n - 1) 0) = true := decide_eq_true (a3 0 (n - 1) (by omega) (by omega))
      refine ⟨bk _ ((if_neg (by simpa using hn)).trans (if_pos h2)) ⟨⟨R _ (by omega), R _ (by omega), D 0 (n - 1) (by omega) (by omega)⟩, ?_⟩, ?_⟩
      · show kok _ _ (if kcmp key (p.getD 0 0) (p.getD (n - 1) 0) = true then KasT.ret (n, p) else _)
        rw [if_pos c]; trivial
      rw [if_pos h2]
      refine ⟨n, p, ?_, Array.Perm.refl _, rfl, by omega, by omega, a3, R⟩
      show krun _ (if kcmp key (p.getD 0 0) (p.getD (n - 1) 0) = true then KasT.ret (n, p) else _) = _
      rw [if_pos c]; rfl
    · have bk2 := bk (t := kas_descPart n N p) (fun n => if (n == N) = true then .ret (n, p) else if n > 1 then .ask (p.getD 0 0) (p.getD (n - 1) 0) fun c => if c = true then .ret (n, p) else kas_descPart n N (kas_rev p 0 n)
        else kas_descPart n N p) ((if_neg (by simpa using hn)).trans (if_neg h2))
      rw [if_neg h2]
      have e1 : n = 1 := by omega
      subst e1
      have hd : Desc key p 2 := fun i j hij hj => by
        have ei : i = 0 := by omega
        have ej : j = 1 := by omega
        subst ei; subst ej
        exact a4 (by omega)
      obtain ⟨k1, m, em, b1, b2, b3⟩ := desc_run D R (N - 2) 2 (Nat.le_refl _) (by omega) hd
      have em' : krun (kcmp key) (kas_desc (N - (1 + 1)) p (1 + 1) 0) = (p, m, 0) := em
      obtain ⟨k2, tr⟩ := tail_run (by omega) (by omega) hN D R b3
      constructor
      · refine bk2 ?_
        unfold kas_descPart
        refine kok_bind _ k1 ?_
        rw [em']
        show kok _ _ (if 0 > 0 then _ else kas_tail3 m N p)
        rw [if_neg (by omega)]; exact k2
      · unfold kas_descPart
        rw [krun_bind, em']
        show ∃ m' q, krun (kcmp key) (if 0 > 0 then _ else kas_tail3 m N p) = (m', q) ∧ _
        rw [if_neg (by omega)]
        exact tr

theorem place_run {p : Array Nat} {k N : Nat} (hk : k < N) (D : Dis key p N) (R : Rng n₀ p N) (h : Asc key p k) : ∀ (f l r : Nat), r ≤ l + f → l ≤ r → r ≤ k → (∀ i, i < l → Kp key p i < Kp key p k) → (∀ i, r ≤ i → i < k → Kp key p k < Kp key p i) →
    kok (Ok key n₀) (kcmp key) (kas_place p k f l r) ∧ ∃ x, krun (kcmp key) (kas_place p k f l r) = x ∧ x ≤ k ∧ (∀ i, i < x → Kp key p i < Kp key p k) ∧ (∀ i, x ≤ i → i < k → Kp key p k < Kp key p i)
  | 0, l, r, h1, h2, h3, hl, hr => ⟨trivial, l, rfl, by omega, hl, fun i a b => hr i (by omega) b⟩
  | f + 1, l, r, h1, h2, h3, hl, hr => by
    unfold kas_place
    by_cases hlr : l ≥ r
    · rw [if_pos hlr]
      exact ⟨trivial, l, rfl, by omega, hl, fun i a b => hr i (by omega) b⟩
    · rw [if_neg hlr]
      have o : Ok key n₀ (p.getD k 0) (p.getD ((l + r) / 2) 0) := ⟨R _ (by omega), R _ (by omega), (D ((l + r) / 2) k (by omega) (by omega)).symm⟩
      show (Ok key n₀ (p.getD k 0) (p.getD ((l + r) / 2) 0) ∧ kok (Ok key n₀) (kcmp key) (if kcmp key (p.getD k 0) (p.getD ((l + r) / 2) 0) = true then kas_place p k f l ((l + r) / 2) else kas_place p k f ((l + r) / 2 + 1) r)) ∧
        ∃ x, krun (kcmp key) (if kcmp key (p.getD k 0) (p.getD ((l + r) / 2) 0) = true then kas_place p k f l ((l + r) / 2) else kas_place p k f ((l + r) / 2 + 1) r) = x ∧ _
      have hm1 : l ≤ (l + r) / 2 := by omega
      have hm2 : (l + r) / 2 < r := by omega
      by_cases c : Kp key p k < Kp key p ((l + r) / 2)
      · have c' : kcmp key (p.getD k 0) (p.getD ((l + r) / 2) 0) = true := decide_eq_true c
        rw [if_pos c']
        have hx : ∀ i, (l + r) / 2 ≤ i → i < k → Kp key p k < Kp key p i := fun i a b => by
          by_cases e : i = (l + r) / 2
          · subst e; exact c
          · have := h ((l + r) / 2) i (by omega) b; omega
        have z := place_run hk D R h f l ((l + r) / 2) (by omega) hm1 (by omega) hl hx
        exact ⟨⟨o, z.1⟩, z.2⟩
      · have c' : ¬ kcmp key (p.getD k 0) (p.getD ((l + r) / 2) 0) = true := fun e => c (of_decide_eq_true e)
        rw [if_neg c']
        have d := D ((l + r) / 2) k (by omega) hk
        have hx : ∀ i, i < (l + r) / 2 + 1 → Kp key p i < Kp key p k := fun i a => by
          by_cases e : i = (l + r) / 2
          · subst e; omega
          · have := h i ((l + r) / 2) (by omega) (by omega); omega
        have z := place_run hk D R h f ((l + r) / 2 + 1) r (by omega) (by omega) h3 hx hr
        exact ⟨⟨o, z.1⟩, z.2⟩

theorem bubble_at {p : Array Nat} {k x : Nat} (hk : k < p.size) (hx : x ≤ k) (i : Nat) : Kp key (bubble p k (k - x)) i = if i = x then Kp key p k else if x < i ∧ i ≤ k then Kp key p (i - 1) else Kp key p i := by
  have e := getElem?_bubble hk (k - x) (by omega) i
  have ex : k - (k - x) = x := by omega
  rw [ex] at e
  by_cases h1 : i = x
  · rw [if_pos h1]; rw [if_pos h1] at e; exact getD_eq e
  · rw [if_neg h1]; rw [if_neg h1] at e
    by_cases h2 : x < i ∧ i ≤ k
    · rw [if_pos h2]; rw [if_pos h2] at e; exact getD_eq e
    · rw [if_neg h2]; rw [if_neg h2] at e; exact getD_eq e
theorem bubble_rng {p : Array Nat} {k x N : Nat} (hk : k < N) (hN : N ≤ p.size) (hx : x ≤ k) (R : Rng n₀ p N) : Rng n₀ (bubble p k (k - x)) N := fun i hi => by
  have e := getElem?_bubble (xs := p) (src := k) (by omega) (k - x) (by omega) i
  have ex : k - (k - x) = x := by omega
  rw [ex] at e
  by_cases h1 : i = x
  · rw [if_pos h1] at e; rw [getD_same e]; exact R _ hk
  · rw [if_neg h1] at e
    by_cases h2 : x < i ∧ i ≤ k
    · rw [if_pos h2] at e; rw [getD_same e]; exact R _ (by omega)
    · rw [if_neg h2] at e; rw [getD_same e]; exact R _ hi
theorem bubble_asc {p : Array Nat} {k x : Nat} (hk : k < p.size) (hx : x ≤ k) (h : Asc key p k) (h1 : ∀ i, i < x → Kp key p i < Kp key p k) (h2 : ∀ i, x ≤ i → i < k → Kp key p k < Kp key p i) :
    Asc key (bubble p k (k - x)) (k + 1) := fun i j hij hj => by
  rw [bubble_at hk hx, bubble_at hk hx]
  repeat' split
  all_goals first | omega | (apply h1; omega) | (apply h2 <;> omega) | (apply h <;> omega) | skip
theorem bubble_dis {p : Array Nat} {k x N : Nat} (hk : k < N) (hN : N ≤ p.size) (hx : x ≤ k) (D : Dis key p N) : Dis key (bubble p k (k - x)) N := fun i j hij hj => by
  rw [bubble_at (by omega) hx, bubble_at (by omega) hx]
  repeat' split
  all_goals first | omega | (apply D <;> omega) | (apply Ne.symm; apply D <;> omega) | skip

theorem bin_run {N : Nat} : ∀ (f : Nat) (p : Array Nat) (k : Nat), k + f = N → N ≤ p.size → Dis key p N → Rng n₀ p N → Asc key p k →
    kok (Ok key n₀) (kcmp key) (kas_bin f p k) ∧ ∃ q, krun (kcmp key) (kas_bin f p k) = q ∧ q.Perm p ∧ Asc key q N
  | 0, p, k, hk, hN, D, R, h => ⟨trivial, p, rfl, Array.Perm.refl _, by rw [← hk]; exact h⟩
  | f + 1, p, k, hk, hN, D, R, h => by
    obtain ⟨k1, x, e, a1, a2, a3⟩ := place_run (by omega) D R h k 0 k (by omega) (by omega) (Nat.le_refl _) (fun i hi => by omega) (fun i h1 h2 => by omega)
    obtain ⟨k2, q, eq, b1, b2⟩ := bin_run (N := N) f (bubble p k (k - x)) (k + 1) (by omega) (by rw [bubble_size]; exact hN) (bubble_dis (by omega) hN a1 D) (bubble_rng (by omega) hN a1 R) (bubble_asc (by omega) a1 h a2 a3)
    unfold kas_bin
    rw [krun_bind, e]
    exact ⟨kok_bind _ k1 (by rw [e]; exact k2), q, eq, b1.trans (bubble_perm _ _ _), b2⟩

theorem sort_run {n : Nat} (hn : 1 ≤ n) (D : ∀ i j, i < j → j < n → key i ≠ key j) :
    kok (Ok key n) (kcmp key) (kas_sort n) ∧ ∃ q : Array Nat, krun (kcmp key) (kas_sort n) = q ∧ q.Perm (List.toArray (List.range n)) ∧ Asc key q n := by
  have hs : (List.toArray (List.range n)).size = n := by simp
  have hD : Dis key (List.toArray (List.range n)) n := fun i j hij hj => by
    have e : ∀ k, k < n → Kp key (List.toArray (List.range n)) k = key k := fun k hk => by
      unfold Kp; simp [hk]
    rw [e i (by omega), e j hj]; exact D i j hij hj
  have hR : Rng n (List.toArray (List.range n)) n := fun i hi => by simp [hi]
  obtain ⟨k1, m, q, e, a1, a2, a3, a4, a5, a6⟩ := count_run hn (by omega) hD hR
  have hDq : Dis key q n := by
    intro i j hij hj he
    have hqs : q.size = n := by omega
    have nd : q.toList.Nodup := (Array.perm_iff_toList_perm.mp a1).nodup_iff.mpr (by simpa using List.nodup_range)
    have mem : ∀ k, k < n → q.getD k 0 < n := fun k hk => by
      have : q[k]'(by omega) ∈ q.toList := by simp
      have := (Array.perm_iff_toList_perm.mp a1).mem_iff.mp this
      rw [Array.getD_eq_getD_getElem?, Array.getElem?_eq_getElem (by omega)]
      simpa using this
    have ne : q.getD i 0 ≠ q.getD j 0 := fun e => by
      rw [Array.getD_eq_getD_getElem?, Array.getD_eq_getD_getElem?, Array.getElem?_eq_getElem (by omega), Array.getElem?_eq_getElem (by omega)] at e
      have := (List.getElem_inj (h₀ := by simp; omega) (h₁ := by simp; omega) nd).mp (by simpa using e : q.toList[i]'(by simp; omega) = q.toList[j]'(by simp; omega))
      omega
    unfold Kp at he
    rcases Nat.lt_or_gt_of_ne ne with l | l
    · exact D _ _ l (mem j hj) he
    · exact D _ _ l (mem i (by omega)) he.symm
  have em : max m 1 = m := by omega
  have key2 : kok (Ok key n) (kcmp key) (if m < n then kas_bin (n - max m 1) q (max m 1) else KasT.ret q) ∧ ∃ q', krun (kcmp key) (if m < n then kas_bin (n - max m 1) q (max m 1) else KasT.ret q) = q' ∧ q'.Perm (List.toArray (List.range n)) ∧ Asc key q' n := by
    rw [em]
    by_cases h : m < n
    · rw [if_pos h]
      obtain ⟨k2, q', eq, b1, b2⟩ := bin_run (N := n) (n - m) q m (by omega) (by omega) hDq a6 a5
      exact ⟨k2, q', eq, b1.trans a1, b2⟩
    · rw [if_neg h]
      have : m = n := by omega
      subst this
      exact ⟨trivial, q, rfl, a1, a5⟩
  unfold kas_sort
  rw [krun_bind, e]
  exact ⟨kok_bind _ k1 (by rw [e]; exact key2.1), key2.2⟩
end
end MineP
end
section
open PySem PySem.W PyProof.Rows
namespace MineP
set_option maxRecDepth 100000
open PySem.AutoSeq1 (wpAny_loadPart')
open PySem.MeetsSeq PySem.MeetsSeq3
/-! two lists of one int each, compared -/
theorem meets_list_lt1 (a b : Addr) (items items2 : Array Value) (x y : Int) (t u : Tok) (n k : Nat) (h1 : items[0]? = some (.int x t)) (h2 : items2[0]? = some (.int y u)) (hxy : x ≠ y) : Meets (Builtin.«list.__lt__» ⟨[.ref a, .ref b], []⟩)
    (fun _ R s => s.heap.get? a = some { cls := .type "list", dict := none, data := .seq items n, slots := #[] } ∧ s.heap.get? b = some { cls := .type "list", dict := none, data := .seq items2 k, slots := #[] } ∧ R (.ok (.ret (.bool (decide (x < y))))) s) := by
  intro prog w A R s h
  obtain ⟨hp, g, d, tk, os⟩ := s; obtain ⟨hl, hb, h⟩ := h
  have f3 := AutoSeq1.sub_list_list
  wp_walk using wpAny_loadPart' hl, wpAny_loadPart' hb
  refine ⟨plainId_quiet plain_eq_loop _, codeAny_builtin entry_eq_loop ?_⟩
  rw [Around.under_plainId plain_eq_loop _]
  have e1 : items[(0 : Int).toNat]? = some (.int x t) := h1
  have e2 : items2[(0 : Int).toNat]? = some (.int y u) := h2
  wp_walk using wpAny_loadPart' hl, wpAny_loadPart' hb
  rw [e1, e2]
  refine wpAny_bind (wpAny_eqBool_int ?_)
  rw [show (x == y) = false from by simp [hxy]]
  wp_walk using wpAny_loadPart' hl, wpAny_loadPart' hb
  rw [e1, e2]
  refine wpAny_bind ?_
  show wpAny _ _ (compareOp .Lt (.int x t) (.int y u)) _ _ _
  refine wpAny_lt_int ?_
  wp_walk
  exact h
section
variable {prog : Program} {w : World} {A : Around} {E : Value → Shared → Prop} {s : Shared}
theorem keyLt_list1 {a b : Addr} {x y : Int} {t u : Tok} {n k : Nat} {Q : Bool → Shared → Prop} (ha : s.heap.get? a = some (W.listOf #[.int x t] n)) (hb : s.heap.get? b = some (W.listOf #[.int y u] k)) (hxy : x ≠ y) (hu : A.units < cLine)
    (h : Q (decide (x < y)) s) : wpAny (model prog w) A (keyLt' oneType' (.ref a) (.ref b)) Q E s := by
  rw [keyLt'_oneType, oneLt'_eq]
  simp only [if_true]
  refine wpAny_bind (wpAny_cRoomFor hu ?_)
  refine wpAny_bind (wpAny_callSpecialIfBound?_slot (T := "list") ⟨_, ha, rfl⟩ PySem.F.slot_list_lt ?_)
  refine call_meetsIn PySem.F.slot_list_lt (T := "list") ⟨_, ha, rfl⟩ PySem.F.entry_list_lt (PySem.F.args_list_lt_2 _ _) (Meets.inModel (meets_list_lt1 a b #[.int x t] #[.int y u] x y t u n k rfl rfl hxy) prog w) ⟨ha, hb, ?_⟩
  exact wpAny_truthy_bool h
end
end MineP
end
section
open PySem PySem.W PyProof.Rows
namespace MineP
set_option maxRecDepth 100000
set_option maxHeartbeats 400000
/-! sorted(.., key=f, reverse=b) over values whose keys are lists of one int each, all different -/
section
variable {prog : Program} {w : World} {A : Around} {E : Value → Shared → Prop} {s : Shared} {h₀ : Heap} {L a kS : Addr} {m : Str → Option Value} {news : List (Addr × Obj)} {vs ks : List Value}

theorem small_rev {α : Type} {l : List α} (h : l.length < 2) : l.reverse = l := by
  rcases l with _ | ⟨x, _ | ⟨y, r⟩⟩
  · rfl
  · rfl
  · simp at h; omega
theorem small_zip {b : Bool} {ks vs : List Value} (h : vs.length < 2) (hl : ks.length = vs.length) :
    ((if b = true then ((List.toArray ks).zip vs.toArray).reverse else (List.toArray ks).zip vs.toArray)).map (·.2) = List.toArray vs := by
  have e : ((List.toArray ks).zip vs.toArray) = (ks.zip vs).toArray := by simp
  have e2 : (ks.zip vs).map (·.2) = vs := List.map_snd_zip (by omega)
  have e3 : (ks.zip vs).reverse = ks.zip vs := small_rev (by rw [List.length_zip]; omega)
  rw [e]
  cases b
  · simp [e2]
  · simp only [if_true, List.reverse_toArray, e3, List.map_toArray, e2]
theorem small_kat {b : Bool} {vs : List Value} (h : vs.length < 2) : katRev b vs = vs := by
  unfold katRev
  cases b
  · rfl
  · simp only [if_true]; exact small_rev h
theorem rest_small {b : Bool} {f : Value} {e1 : Nat} {P : PySem.Fin → Shared → Prop} (hk : s.heap.get? kS = some (seqObj "list" #[] 0)) (h1 : vs.length < 2)
    (h : KatKeys prog w A h₀ L m kS f (fun ks e s' => KatFin h₀ L m kS a ks e e1 vs (fun s'' => P (.done (.ret .none)) s'') s') vs [] 0 s) :
    wpAny (model prog w) A (ksk_rest a f b vs.toArray e1 (.ref kS)) P E s := by
  unfold ksk_rest
  refine wpAny_bind (wpAny_rule ?_)
  rw [List.forIn_toArray]
  refine wpAny_bind (wpAny_mono (kat_fold (prog := prog) (w := w) (A := A) (h₀ := h₀) (L := L) (m := m) (kS := kS) (f := f) (n := vs.length) (by omega) (fun x ks e s C hks hc => ?_) vs [] 0 s (by simp) (by simpa using hk) h) (fun _ s' q => ?_) fun _ _ x => x)
  · refine wpAny_bind (wpAny_attempt (wpAny_mono hc (fun k s' hb => ?_) fun _ _ x => x.elim))
    obtain ⟨news', g, F', N', U, kk⟩ := hb
    obtain ⟨pre, post, e0, hg, x1, x2⟩ := U.split
    rw [e0] at N'
    have nk := N' (kS, seqObj "list" (List.toArray ks) e) (List.mem_append_right _ (.head _))
    have s1 := Heap.SameBut.update s'.heap kS (Obj.mapSeq (·.push k))
    obtain ⟨ck, hck⟩ : ∃ ck, (s'.heap.update kS (Obj.mapSeq (·.push k))).get? kS = some (seqObj "list" ((List.toArray ks).push k) ck) := ⟨_, get?_update_seq nk.1 (·.push k)⟩
    have ea : (List.toArray ks).push k = List.toArray (ks ++ [k]) := by simp
    rw [ea] at hck
    try dsimp only
    refine wpAny_bind (listUpdate_at nk.1 rfl ?_ (by rw [List.size_toArray, sizeLine_eq]; omega) (by rw [Array.size_push, List.size_toArray, sizeLine_eq]; omega))
    exact wpAny_pure ⟨rfl, k, ck, hck, kk _ ck (kas_fr F' s1 nk.2.1 nk.2.2) (by rw [hg]; exact news_set N' x1 x2 s1 hck)⟩
  · obtain ⟨ks', e', hk', hl', hf⟩ := q
    refine wpAny_bind (listItems_at hk' rfl ?_)
    unfold ksk_end
    have hn : vs.toArray.size < 2 := by simpa using h1
    have step : ∀ t : Sem PySem.Fin, wpAny (model prog w) A t P E s' → wpAny (model prog w) A (if b = true then (do let _ ← rule "list.sort.reverse"; t) else t) P E s' := by
      intro t ht
      split
      · exact wpAny_bind (wpAny_rule ht)
      · exact ht
    refine step _ ?_
    rw [if_pos hn, if_pos hn]
    refine wpAny_bind (wpAny_pure ?_)
    simp only [StateT.run_pure]
    refine wpAny_bind (wpAny_pure ?_)
    try dsimp only
    refine kat_tail (h₀ := h₀) (L := L) (m := m) (ks := ks') (e := e') (out := vs) (st := SortSt.mk' general' (if b = true then ((List.toArray ks').zip vs.toArray).reverse else (List.toArray ks').zip vs.toArray) #[] 7 none) ?_ (by omega) (by omega) rfl ?_
    · exact small_zip h1 hl'
    · rw [small_kat h1]; exact hf
end

/-- what the tree's answer says of the values -/
def Srt (rows srt : List (Value × Int)) : Prop := srt.Perm rows ∧ srt.Pairwise fun p q => q.2 < p.2

theorem map_getD_range {α : Type} (l : List α) (d : α) : (List.range l.length).map (fun i => l.getD i d) = l := by
  apply List.ext_getElem
  · simp
  · intro i h1 h2
    simp at h1 ⊢
    simp [h1]
theorem srt_of {rows : List (Value × Int)} {q : Array Nat} (hp : q.Perm (List.toArray (List.range rows.length))) (ha : Asc (fun i => (rows.reverse.getD i (Value.none, 0)).2) q rows.length) :
    Srt rows ((q.toList.map fun i => rows.reverse.getD i (Value.none, 0)).reverse) := by
  have hl : q.toList.Perm (List.range rows.length) := by simpa using Array.perm_iff_toList_perm.mp hp
  constructor
  · refine (List.reverse_perm _).trans ?_
    refine (hl.map _).trans ?_
    have e := map_getD_range rows.reverse (Value.none, 0)
    rw [List.length_reverse] at e
    rw [e]
    exact List.reverse_perm _
  · rw [List.pairwise_reverse, List.pairwise_map, List.pairwise_iff_getElem]
    intro i j hi hj hij
    have hs : q.size = rows.length := by have := hp.size_eq; simpa using this
    have hi' : i < q.size := by simpa using hi
    have hj' : j < q.size := by simpa using hj
    have h := ha i j hij (by omega)
    unfold Kp at h
    rw [Array.getD_eq_getD_getElem?, Array.getD_eq_getD_getElem?, Array.getElem?_eq_getElem hi', Array.getElem?_eq_getElem hj'] at h
    simpa using h

section
variable {prog : Program} {w : World} {A : Around} {E : Value → Shared → Prop} {s : Shared} {h₀ : Heap} {L : Addr} {m : Str → Option Value} {news : List (Addr × Obj)}

/-- a key's list, somewhere in the ledger -/
def KeyAt (news : List (Addr × Obj)) (l : Addr) (c : Int) : Prop := ∃ t e, (l, W.listOf #[.int c t] e) ∈ news

theorem keys_run {A : Around} {kS : Addr} {f : Value} {Fin : List Value → Nat → Shared → Prop} {oD : Addr × Obj} (hkS : ∀ q ∈ oD :: news, q.1 ≠ kS) :
    ∀ (vs : List Value) (ls : List Addr) (ks : List Value) (e : Nat) (s : Shared), vs.length = ls.length → Fr h₀ L s.heap m → News h₀ L s.heap ((kS, seqObj "list" (List.toArray ks) e) :: oD :: news) →
    (∀ (i : Nat) (v : Value) (l : Addr), vs[i]? = some v → ls[i]? = some l → ∀ (h : Heap) (tk : Nat) (own : List (Addr × Obj)), Fr h₀ L h m → News h₀ L h (own ++ news) →
      wpAny (model prog w) A (call f [v]) (fun r s' => ∃ h' tk', r = .ref l ∧ s' = { s with heap := h', toks := tk' } ∧ Fr h₀ L h' m ∧ News h₀ L h' (own ++ news)) (fun _ _ => False) { s with heap := h, toks := tk }) →
    (∀ e' h' tk', Fr h₀ L h' m → News h₀ L h' ((kS, seqObj "list" (List.toArray (ks ++ ls.map Value.ref)) e') :: oD :: news) → Fin (ks ++ ls.map Value.ref) e' { s with heap := h', toks := tk' }) →
    KatKeys prog w A h₀ L m kS f Fin vs ks e s
  | [], [], ks, e, s, _, F, N, _, hf => by
    have := hf e s.heap s.toks F (by simpa using N)
    exact KatKeys.nil (by simpa using this)
  | v :: vs, l :: ls, ks, e, s, hl, F, N, turn, hf => by
    refine KatKeys.cons (wpAny_mono (turn 0 v l rfl rfl s.heap s.toks [(kS, seqObj "list" (List.toArray ks) e), oD] F (by simpa using N)) (fun r s' hr => ?_) fun _ _ x => x)
    obtain ⟨h', tk', rfl, rfl, F', N'⟩ := hr
    refine KatBack.intro F' (by simpa using N') (.head hkS) fun h'' c F'' N'' => ?_
    refine keys_run hkS vs ls (ks ++ [.ref l]) c { s with heap := h'', toks := tk' } (by simpa using hl) F'' N'' (fun i v' l' h1 h2 h tk own Fa Na => turn (i + 1) v' l' (by simpa using h1) (by simpa using h2) h tk own Fa Na) fun e' h3 tk3 F3 N3 => ?_
    have := hf e' h3 tk3 F3 (by simpa using N3)
    simpa using this

theorem tree_run {f : Value} {a : Addr} {n : Nat} {vs : List Value} {ls : List Addr} {cs : List Int} {P : PySem.Fin → Shared → Prop} (hu : A.units < cLine) (F : Fr h₀ L s.heap m) (N : News h₀ L s.heap news) (ho : s.heap.get? a = some (seqObj "list" vs.toArray n)) (haL : a ≠ L) (ha0 : h₀.get? a = none) (hna : ∀ p ∈ news, p.1 ≠ a)
    (h64 : vs.length < 64) (hvl : vs.length = ls.length) (hvc : vs.length = cs.length) (hkey : ∀ (i : Nat) (l : Addr) (c : Int), ls[i]? = some l → cs[i]? = some c → KeyAt news l c) (hnd : cs.Nodup)
    (turn : ∀ (i : Nat) (v : Value) (l : Addr), vs[i]? = some v → ls[i]? = some l → ∀ (h : Heap) (tk : Nat) (own : List (Addr × Obj)), Fr h₀ L h m → News h₀ L h (own ++ news) →
      wpAny (model prog w) A (call f [v]) (fun r s' => ∃ h' tk', r = .ref l ∧ s' = { s with heap := h', toks := tk' } ∧ Fr h₀ L h' m ∧ News h₀ L h' (own ++ news)) (fun _ _ => False) { s with heap := h, toks := tk })
    (h : ∀ h' tk c srt, Fr h₀ L h' m → News h₀ L h' ((a, listOf (List.toArray (srt.map Prod.fst)) c) :: news) → Srt (vs.zip cs) srt → P (.done (.ret .none)) { s with heap := h', toks := tk }) :
    wpAny (model prog w) A (ksk_tree a f true) P E s := by
  by_cases h2 : 2 ≤ vs.length
  · refine kat_keyed F N ho haL ha0 hna h2 h64 fun kS e1 h' F' N' l1 l2 => ?_
    refine keys_run (fun q hq => ?_) vs ls [] 0 { s with heap := h' } hvl F' N' (fun i v l h1 h2 => turn i v l h1 h2) fun e' h3 tk3 F3 N3 => ?_
    · rcases List.mem_cons.mp hq with rfl | hq
      · exact Nat.ne_of_lt l1
      · exact Nat.ne_of_lt (l2 q hq)
    · simp only [List.nil_append] at N3 ⊢
      have hget : ∀ q ∈ news, h3.get? q.1 = some q.2 := fun q hq => (N3 q (.tail _ (.tail _ hq))).1
      have hls : (ls.map Value.ref).length = vs.length := by simp [hvl]
      refine kas_kind (T := .type "list") (by rw [hls]; exact h2) (fun v hv => ?_) (by decide) (by decide) ?_
      · obtain ⟨l, hl, rfl⟩ := List.mem_map.mp hv
        obtain ⟨i, hi, e⟩ := List.mem_iff_getElem.mp hl
        obtain ⟨t, ep, hm⟩ := hkey i l (cs[i]'(by omega)) (by rw [List.getElem?_eq_getElem hi, e]) (List.getElem?_eq_getElem (by omega))
        exact (Looks.ld (hget _ hm)).andThen .now
      · let rows := vs.zip cs
        have hrl : rows.length = vs.length := by simp [rows, hvc]
        let key : Nat → Int := fun i => (rows.reverse.getD i (Value.none, 0)).2
        have keyIs : ∀ k (hk : k < vs.length), key k = cs[vs.length - 1 - k]'(by omega) := fun k hk => by
          show ((rows.reverse.getD k (Value.none, 0)).2) = _
          rw [List.getD_eq_getElem?_getD, List.getElem?_reverse (by omega), hrl, List.getElem?_eq_getElem (by omega)]
          simp [rows]
        have hkeyAt : ∀ i, i < vs.length → ∃ l t ep, ((ls.map Value.ref).reverse.getD i Value.none) = .ref l ∧ (l, W.listOf #[.int (key i) t] ep) ∈ news := fun i hi => by
          obtain ⟨l, hl⟩ : ∃ l, ls[vs.length - 1 - i]? = some l := ⟨_, List.getElem?_eq_getElem (by omega)⟩
          obtain ⟨t, ep, hm⟩ := hkey (vs.length - 1 - i) l (cs[vs.length - 1 - i]'(by omega)) hl (List.getElem?_eq_getElem (by omega))
          refine ⟨l, t, ep, ?_, ?_⟩
          · have e0 : (ls.map Value.ref).length - 1 - i = vs.length - 1 - i := by simp [hvl]
            rw [List.getD_eq_getElem?_getD, List.getElem?_reverse (by simp; omega), e0, List.getElem?_map, hl]
            rfl
          · rw [keyIs i hi]; exact hm
        have hdis : ∀ i j, i < j → j < vs.length → key i ≠ key j := fun i j hij hj he => by
          rw [keyIs i (by omega), keyIs j hj] at he
          have := (List.getElem_inj hnd).mp he
          omega
        obtain ⟨kk, q, eq, hp, hasc⟩ := sort_run (by omega) hdis
        refine krun_wp (cmp := kcmp key) (ok := Ok key vs.length) (I := fun s' => s' = { s with heap := h3, toks := tk3 }) (fun i j s' C ho hs hc => ?_) (kas_sort vs.length) _ kk rfl fun s' hs' => ?_
        · subst hs
          obtain ⟨l1, t1, ep1, e1, m1⟩ := hkeyAt i ho.1
          obtain ⟨l2, t2, ep2, e2, m2⟩ := hkeyAt j ho.2.1
          unfold kas_ask
          have er : katRev true (ls.map Value.ref) = (ls.map Value.ref).reverse := rfl
          rw [er, e1, e2]
          exact keyLt_list1 (hget _ m1) (hget _ m2) ho.2.2 hu (hc _ rfl)
        · subst hs'
          rw [eq]
          have hsrt : Srt rows ((q.toList.map fun i => rows.reverse.getD i (Value.none, 0)).reverse) := srt_of (by rw [hrl]; exact hp) (by rw [hrl]; exact hasc)
          have hout : katRev true (q.toList.map fun i => (katRev true vs).getD i Value.none) = ((q.toList.map fun i => rows.reverse.getD i (Value.none, 0)).reverse).map Prod.fst := by
            show (q.toList.map fun i => vs.reverse.getD i Value.none).reverse = _
            rw [List.map_reverse, List.map_map]
            congr 1
            refine List.map_congr_left fun i hi => ?_
            have hi' : i < vs.length := by
              have := (Array.perm_iff_toList_perm.mp hp).mem_iff.mp hi
              simpa using this
            show _ = (rows.reverse.getD i (Value.none, 0)).1
            rw [List.getD_eq_getElem?_getD, List.getD_eq_getElem?_getD, List.getElem?_reverse hi', List.getElem?_reverse (by omega), hrl, List.getElem?_eq_getElem (by omega), List.getElem?_eq_getElem (by omega)]
            simp [rows]
          rw [hout]
          refine KatFin.intro F3 N3 (.head fun p hp => ?_) fun h4 c F4 N4 => KasFin.intro F4 N4 (.tail ?_ (.head hna)) fun h5 c5 F5 N5 => ?_
          · rcases List.mem_cons.mp hp with rfl | hp
            · exact Nat.ne_of_lt l1
            · exact Nat.ne_of_lt (l2 p hp)
          · exact Nat.ne_of_gt l1
          · exact h h5 tk3 c5 _ F5 (fun p hp => N5 p (.tail _ hp)) hsrt
  · have hv : vs.length < 2 := by omega
    have ha : a < s.heap.objs.size := Heap.lt_size ho
    have s1 := Heap.SameBut.update s.heap a (Obj.mapSeq fun _ => (#[] : Array Value))
    obtain ⟨e1, ho1⟩ : ∃ e1, (s.heap.update a (Obj.mapSeq fun _ => (#[] : Array Value))).get? a = some (seqObj "list" #[] e1) := ⟨_, get?_update_seq ho fun _ => #[]⟩
    have F1 := kas_fr F s1 haL ha0
    have N1 := kas_news N s1 hna
    have N2 : News h₀ L (s.heap.update a (Obj.mapSeq fun _ => (#[] : Array Value))) ((a, seqObj "list" #[] e1) :: news) := fun q hq => by
      rcases List.mem_cons.mp hq with rfl | hq
      · exact ⟨ho1, haL, ha0⟩
      · exact N1 q hq
    have N3 := (N2.push F1 (seqObj "tuple" vs.toArray 0)).push (F1.push _) (seqObj "list" #[] 0)
    have F3 := (F1.push (seqObj "tuple" vs.toArray 0)).push (seqObj "list" #[] 0)
    unfold ksk_tree
    refine wpAny_bind (listItems_at ho rfl ?_)
    refine wpAny_bind (listUpdate_at ho rfl ?_ (by rw [List.size_toArray, sizeLine_eq]; omega) (Nat.zero_le _))
    refine wpAny_bind (seqEpoch_at ho1 rfl ?_)
    refine wpAny_bind (wpAny_newTuple ?_ (by show vs.length ≤ _; rw [sizeLine_eq]; omega))
    refine wpAny_bind (wpAny_newList ?_ (Nat.zero_le _))
    refine wpAny_holding ?_
    generalize hkS : ((s.heap.update a (Obj.mapSeq fun _ => (#[] : Array Value))).push (seqObj "tuple" vs.toArray 0)).objs.size = kS at N3 ⊢
    have hkl : ∀ q ∈ (a, seqObj "list" #[] e1) :: news, q.1 < kS := fun q hq => by
      rw [← hkS, Heap.size_push]; exact Nat.lt_succ_of_lt (Heap.lt_size (N2 q hq).1)
    refine rest_small (h₀ := h₀) (L := L) (m := m) (s := { s with heap := ((s.heap.update a (Obj.mapSeq fun _ => (#[] : Array Value))).push (seqObj "tuple" vs.toArray 0)).push (seqObj "list" #[] 0) }) (kS := kS) (N3 _ (.head _)).1 hv ?_
    refine keys_run (fun q hq => Nat.ne_of_lt (hkl q hq)) vs ls [] 0 _ hvl F3 (fun q hq => ?_) (fun i v l h1 h2 => turn i v l h1 h2) fun e' h3 tk3 F4 N4 => ?_
    · rcases List.mem_cons.mp hq with rfl | hq
      · exact N3 _ (.head _)
      · exact N3 _ (.tail _ (.tail _ hq))
    · simp only [List.nil_append] at N4 ⊢
      have hz : vs = (vs.zip cs).map Prod.fst := (List.map_fst_zip (by omega)).symm
      refine KatFin.intro F4 N4 (.head fun q hq => Nat.ne_of_lt (hkl q hq)) fun h5 c F5 N5 => KasFin.intro F5 N5 (.tail (Nat.ne_of_gt (hkl _ (.head _))) (.head hna)) fun h6 c6 F6 N6 => ?_
      refine h h6 tk3 c6 (vs.zip cs) F6 (fun p hp => ?_) ⟨.refl _, ?_⟩
      · rw [← hz] at hp
        exact N6 p (.tail _ hp)
      · have : (vs.zip cs).length < 2 := by rw [List.length_zip]; omega
        rcases hz2 : vs.zip cs with _ | ⟨x, _ | ⟨y, r⟩⟩
        · exact .nil
        · exact List.pairwise_singleton _ _
        · rw [hz2] at this; simp at this; omega

theorem sorted_values {K : Type} [DecidableEq K] {knd : PySem.KeyKind prog w K} {v dd : Addr} {od : Obj} {kvs : List (K × Value)} {f : Addr} {ls : List Addr} {cs : List Int} {Q : Value → Shared → Prop}
    (hu : A.in1.in1.units < cLine) (hh : A.handled = none) (F : Fr h₀ L s.heap m) (N : News h₀ L s.heap news) (hv : (v, ({ cls := .type "dict_values", data := .fields #[.ref dd] } : Obj)) ∈ news) (hp : (dd, od) ∈ news) (hd : od.IsDictOf knd kvs)
    (h64 : kvs.length < 64) (hvl : kvs.length = ls.length) (hvc : kvs.length = cs.length) (hkey : ∀ (i : Nat) (l : Addr) (c : Int), ls[i]? = some l → cs[i]? = some c → KeyAt news l c) (hnd : cs.Nodup)
    (turn : ∀ (i : Nat) (v : Value) (l : Addr), (kvs.map (·.2))[i]? = some v → ls[i]? = some l → ∀ (h : Heap) (tk : Nat) (own : List (Addr × Obj)), Fr h₀ L h m → News h₀ L h (own ++ news) →
      wpAny (model prog w) A.in1.in1 (call (.ref f) [v]) (fun r s' => ∃ h' tk', r = .ref l ∧ s' = { s with heap := h', toks := tk' } ∧ Fr h₀ L h' m ∧ News h₀ L h' (own ++ news)) (fun _ _ => False) { s with heap := h, toks := tk })
    (h : ∀ D h' tk c srt, Fr h₀ L h' m → News h₀ L h' ((D, listOf (List.toArray (srt.map Prod.fst)) c) :: news) → (∀ q ∈ news, q.1 < D) → Srt ((kvs.map (·.2)).zip cs) srt → Q (.ref D) { s with heap := h', toks := tk }) :
    wpAny (model prog w) A (call (.builtin "sorted") [.ref v] [(Str.ofString "key", .ref f), (Str.ofString "reverse", .bool true)]) Q E s := by
  refine call_function_entry_kw kind_sorted plain_sorted entry_sorted (ksk_s2 _ _ _) ?_
  unfold Builtin.«sorted»
  refine wpAny_bind (m := checkCount "sorted" 1 1 _) (wpAny_pure ?_)
  obtain ⟨ep, hat⟩ := (kda_dict N hp hd).dictAt
  have hn : kvs.length ≤ sizeLine := by rw [sizeLine_eq]; omega
  refine wpAny_bind (kdu_collect (A := A.in1) (kdl_values (knd := knd) (kvs := kvs) (ep := ep)) hh ⟨⟨_, (N _ hv).1, rfl, rfl⟩, hat⟩ hn fun h' tk acc hk hacc => ?_)
  have hl : acc.toList.length = kvs.length := by rw [Array.length_toList]; exact hacc.1
  have hvs : acc.toList = kvs.map (·.2) := kdl_vals_eq acc.toList hl fun j x e => hacc.2 j x (by rw [← Array.getElem?_toList]; exact e)
  rw [hvs]
  have F' := F.keeps hk
  have N' : News h₀ L h' news := fun q hq => ⟨hk _ _ (N q hq).1, (N q hq).2⟩
  refine wpAny_bind (wpAny_newList ?_ (by rw [List.length_map]; exact hn))
  have hD := News.push F' N' (seqObj "list" (kvs.map (·.2)).toArray 0)
  have hDlt : ∀ q ∈ news, q.1 < h'.objs.size := fun q hq => Heap.lt_size (N' q hq).1
  have hoL : (h'.push (seqObj "list" (kvs.map (·.2)).toArray 0)).get? h'.objs.size = some (seqObj "list" (kvs.map (·.2)).toArray 0) := (hD _ (.head _)).1
  refine wpAny_bind (wpAny_holding (wpAny_call_entry_kw slot_list_sort ⟨_, hoL, rfl⟩ entry_list_sort ?body (ksk_l2 _ _ _)))
  case body =>
    show wpAny (model prog w) A.in1.in1 (Builtin.«list.sort» ⟨[.ref h'.objs.size], [(Str.ofString "key", .ref f), (Str.ofString "reverse", .bool true)]⟩) _ _ _
    rw [ksk_t2]
    refine tree_run (s := { s with heap := h'.push (seqObj "list" (kvs.map (·.2)).toArray 0), toks := tk }) (ls := ls) (cs := cs) hu (F'.push _) (fun q hq => hD q (.tail _ hq)) hoL (hD _ (.head _)).2.1 (hD _ (.head _)).2.2
      (fun q hq => Nat.ne_of_lt (hDlt q hq)) (by rw [List.length_map]; exact h64) (by rw [List.length_map]; exact hvl) (by rw [List.length_map]; exact hvc) hkey hnd turn fun h4 tk4 c4 srt F4 N4 hs => ?_
    exact ⟨_, rfl, wpAny_pure ⟨_, rfl, h _ h4 tk4 c4 srt F4 N4 hDlt hs⟩⟩
end
end MineP
end
section
open PySem PySem.W PyProof.Rows
namespace MineV
set_option maxRecDepth 100000
set_option maxHeartbeats 400000
/-! keys of several kinds: texts, ints, tuples of ints -/
abbrev Key := Str ⊕ Int ⊕ List Int
section
variable {prog : Program} {w : World} {A : Around} {E : Value → Shared → Prop} {s : Shared}
def TupInts (h : Heap) (ns : List Int) (a : Addr) : Prop := ∃ o items n, h.get? a = some o ∧ o.cls = .type "tuple" ∧ o.data = .seq items n ∧ IntsAre items.toList ns
theorem items_ints : ∀ {vs : List Value} {ns : List Int}, IntsAre vs ns → ItemsAre (intKind prog w) ns vs
  | _, _, .nil => .nil
  | _, _, .cons n _ r => .cons (by simp [intKind, Value.isInt]) (items_ints r)
theorem TupInts.key {h : Heap} {ns : List Int} {a : Addr} (x : TupInts h ns a) : IsTupleKey (intKind prog w) h ns a := let ⟨o, items, n, ho, hc, hd, hi⟩ := x; ⟨o, items, n, ho, hc, hd, items_ints hi⟩
theorem TupInts.tuple {h : Heap} {ns : List Int} {a : Addr} (x : TupInts h ns a) : ∃ items, h.IsTuple a items := let ⟨o, items, n, ho, hc, hd, _⟩ := x; ⟨items, o, ho, hc, n, hd⟩
def KeyIn (h : Heap) : Key → Value → Prop
  | .inl x, v => ∃ t, v = .str x t
  | .inr (.inl n), v => ∃ t, v = .int n t
  | .inr (.inr ns), v => ∃ a, v = .ref a ∧ TupInts h ns a
def hashK (w : World) : Key → Int
  | .inl x => hashStr w x
  | .inr (.inl n) => hashInt n
  | .inr (.inr ns) => reduceHash (Builtin.Tuple.tupleHashOf (ns.map hashInt))
def drawsK : Key → Nat
  | .inr (.inr ns) => ns.length + 1
  | _ => 1
theorem v_hash {k : Key} {v : Value} {Q : Int → Shared → Prop} (hu : A.units < cLine) (hk : KeyIn s.heap k v) (h : Q (hashK w k) { s with toks := s.toks + drawsK k }) : wpAny (model prog w) A (pyHash v) Q E s := by
  rcases k with x | n | ns
  · obtain ⟨t, rfl⟩ := hk
    exact wpAny_pyHash_str h
  · obtain ⟨t, rfl⟩ := hk
    exact wpAny_pyHash_int h
  · obtain ⟨a, rfl, ht⟩ := hk
    exact wpAny_pyHash_tuple (knd := intKind prog w) hu ht.key h
theorem v_eq {k k' : Key} {u v : Value} {Q : Bool → Shared → Prop} (hu : A.units < cLine) (h1 : KeyIn s.heap k u) (h2 : KeyIn s.heap k' v) (h : Q (decide (k = k')) s) : wpAny (model prog w) A (eqBool u v) Q E s := by
  have no : ∀ {k k' : Key}, k ≠ k' → decide (k = k') = false := fun h => decide_eq_false h
  rcases k with x | n | ns <;> rcases k' with y | m | ms
  · obtain ⟨t, rfl⟩ := h1; obtain ⟨t', rfl⟩ := h2
    refine wpAny_eqBool_str ?_
    have e : decide ((Sum.inl x : Key) = Sum.inl y) = decide (x = y) := by simp
    rw [e] at h; exact h
  · obtain ⟨t, rfl⟩ := h1; obtain ⟨t', rfl⟩ := h2
    rw [no (by simp)] at h; exact SeqAt.EqAt.str_int x t m t' prog w E Q h
  · obtain ⟨t, rfl⟩ := h1; obtain ⟨a, rfl, ht⟩ := h2
    obtain ⟨its, hi⟩ := ht.tuple
    rw [no (by simp)] at h; exact SeqAt.EqAt.str_tuple x t hi hu prog w E Q h
  · obtain ⟨t, rfl⟩ := h1; obtain ⟨t', rfl⟩ := h2
    rw [no (by simp)] at h; exact SeqAt.EqAt.int_str n t y t' prog w E Q h
  · obtain ⟨t, rfl⟩ := h1; obtain ⟨t', rfl⟩ := h2
    refine wpAny_eqBool_int ?_
    have e : decide ((Sum.inr (Sum.inl n) : Key) = Sum.inr (Sum.inl m)) = decide (n = m) := by simp
    rw [e] at h; exact h
  · obtain ⟨t, rfl⟩ := h1; obtain ⟨a, rfl, ht⟩ := h2
    obtain ⟨its, hi⟩ := ht.tuple
    rw [no (by simp)] at h; exact SeqAt.EqAt.int_tuple n t hi hu prog w E Q h
  · obtain ⟨a, rfl, ht⟩ := h1; obtain ⟨t', rfl⟩ := h2
    obtain ⟨its, hi⟩ := ht.tuple
    rw [no (by simp)] at h; exact SeqAt.EqAt.tuple_str y t' hi hu prog w E Q h
  · obtain ⟨a, rfl, ht⟩ := h1; obtain ⟨t', rfl⟩ := h2
    obtain ⟨its, hi⟩ := ht.tuple
    rw [no (by simp)] at h; exact SeqAt.EqAt.tuple_int m t' hi hu prog w E Q h
  · obtain ⟨a, rfl, ht⟩ := h1; obtain ⟨b, rfl, ht'⟩ := h2
    refine wpAny_eqBool_tuple (knd := intKind prog w) hu ht.key ht'.key ?_
    have e : decide ((Sum.inr (Sum.inr ns) : Key) = Sum.inr (Sum.inr ms)) = decide (ns = ms) := by simp
    rw [e] at h; exact h
theorem v_quiet {k : Key} {v : Value} {Q : Bool → Shared → Prop} (hk : KeyIn s.heap k v) (h : Q true s) : wpAny (model prog w) A (eqIsQuiet 8 v) Q E s := by
  rcases k with x | n | ns
  · obtain ⟨t, rfl⟩ := hk
    rw [eqIsQuiet_byValue 8 rfl]; exact wpAny_pure h
  · obtain ⟨t, rfl⟩ := hk
    rw [eqIsQuiet_byValue 8 rfl]; exact wpAny_pure h
  · obtain ⟨a, rfl, ht⟩ := hk
    exact wpAny_eqIsQuiet_tuple (knd := intKind prog w) ht.key h
theorem TupInts.inj {h : Heap} {a : Addr} {x y : List Int} (hx : TupInts h x a) (hy : TupInts h y a) : x = y := by
  obtain ⟨o, items, n, ho, _, hd, hi⟩ := hx
  obtain ⟨o', items', n', ho', _, hd', hi'⟩ := hy
  obtain rfl : o = o' := Option.some.inj (ho.symm.trans ho')
  rw [hd] at hd'
  injection hd' with h1 _
  subst h1
  generalize items.toList = vs at hi hi'
  clear ho ho' hd
  induction hi generalizing y with
  | nil => cases hi'; rfl
  | cons n t r ih => cases hi' with | cons m u r' => rw [ih r']
theorem KeyIn.inj {h : Heap} {k k' : Key} {v : Value} (h1 : KeyIn h k v) (h2 : KeyIn h k' v) : k = k' := by
  rcases k with x | n | ns <;> rcases k' with y | m | ms
  · obtain ⟨t, rfl⟩ := h1; obtain ⟨t', e⟩ := h2; cases e; rfl
  · obtain ⟨t, rfl⟩ := h1; obtain ⟨t', e⟩ := h2; cases e
  · obtain ⟨t, rfl⟩ := h1; obtain ⟨t', e, _⟩ := h2; cases e
  · obtain ⟨t, rfl⟩ := h1; obtain ⟨t', e⟩ := h2; cases e
  · obtain ⟨t, rfl⟩ := h1; obtain ⟨t', e⟩ := h2; cases e; rfl
  · obtain ⟨t, rfl⟩ := h1; obtain ⟨t', e, _⟩ := h2; cases e
  · obtain ⟨a, rfl, _⟩ := h1; obtain ⟨t', e⟩ := h2; cases e
  · obtain ⟨a, rfl, _⟩ := h1; obtain ⟨t', e⟩ := h2; cases e
  · obtain ⟨a, rfl, ht⟩ := h1; obtain ⟨b, e, ht'⟩ := h2; cases e
    rw [ht.inj ht']
theorem KeyIn.keeps {h h' : Heap} {k : Key} {v : Value} (x : KeyIn h k v) (hk : ∀ a o, h.get? a = some o → o.cls = .type "tuple" → h'.get? a = some o) : KeyIn h' k v := by
  rcases k with x' | n | ns
  · exact x
  · exact x
  · obtain ⟨a, rfl, o, items, n, ho, hc, hd, hi⟩ := x
    exact ⟨a, rfl, o, items, n, hk a o ho hc, hc, hd, hi⟩
/-- the entries of a dict -/
abbrev Ent := Key × Value × Value
def entV (w : World) (x : Ent) : DictEntry := ⟨hashK w x.1, x.2.1, x.2.2⟩
theorem ent_at {es : Array DictEntry} {xs : List Ent} (he : es.toList = xs.map (entV w)) (j : Nat) : es[j]? = (xs[j]?).map (entV w) := by
  rw [← Array.getElem?_toList, he, List.getElem?_map]
theorem ent_size {es : Array DictEntry} {xs : List Ent} (he : es.toList = xs.map (entV w)) : es.size = xs.length := by
  have := congrArg List.length he; simpa using this
theorem key_once {xs : List Ent} (hn : (xs.map (·.1)).Nodup) {i j : Nat} {k : Key} {p q : Value × Value} (h1 : xs[i]? = some (k, p)) (h2 : xs[j]? = some (k, q)) : i = j := by
  have e1 : (xs.map (·.1))[i]? = some k := by rw [List.getElem?_map, h1]; rfl
  have e2 : (xs.map (·.1))[j]? = some k := by rw [List.getElem?_map, h2]; rfl
  obtain ⟨l1, e1⟩ := List.getElem?_eq_some_iff.mp e1
  obtain ⟨l2, e2⟩ := List.getElem?_eq_some_iff.mp e2
  exact (List.getElem_inj hn).mp (e1.trans e2.symm)
theorem v_tell {k : Key} {kv : Value} {stored : List Value} {Q : Bool → Shared → Prop} (hkey : KeyIn s.heap k kv) (hst : ∀ v ∈ stored, ∃ k', KeyIn s.heap k' v) (h : Q false s) : wpAny (model prog w) A (tableMayTell kv stored) Q E s := by
  unfold tableMayTell
  split
  · exact wpAny_pure h
  · refine wpAny_bind (v_quiet hkey ?_)
    simp only [Bool.not_true, Bool.false_eq_true, if_false]
    refine wpAny_bind ?_
    refine wpAny_forIn_list _ (fun rest r s' => s' = s ∧ r = (none, ()) ∧ ∀ v ∈ rest, ∃ k', KeyIn s.heap k' v) _ ?_ ?_ _ _ ⟨rfl, rfl, hst⟩
    · rintro x rest r s' ⟨rfl, rfl, hr⟩
      obtain ⟨k', hb⟩ := hr x List.mem_cons_self
      refine wpAny_bind (v_quiet hb ?_)
      simp only [Bool.not_true, Bool.false_eq_true, if_false]
      exact wpAny_pure ⟨rfl, rfl, fun v hv => hr v (List.mem_cons_of_mem _ hv)⟩
    · rintro r s' ⟨rfl, rfl, _⟩
      exact wpAny_pure h
theorem v_find {d : Addr} {o : Obj} {es : Array DictEntry} {ep : Nat} {xs : List Ent} {k : Key} {kv : Value} {Q : Option Nat → Shared → Prop} (hu : A.units < cLine) (hkey : KeyIn s.heap k kv)
    (ho : s.heap.get? d = some o) (hd : o.data = .dict es ep) (he : es.toList = xs.map (entV w)) (his : ∀ x ∈ xs, KeyIn s.heap x.1 x.2.1) (hn : (xs.map (·.1)).Nodup)
    (hnone : (∀ x ∈ xs, x.1 ≠ k) → Q none s) (hsome : ∀ (j : Nat) (p : Value × Value), xs[j]? = some (k, p) → Q (some j) s) :
    wpAny (model prog w) A (dictFind d kv (hashK w k)) Q E s := by
  have hsz := ent_size he
  unfold dictFind
  refine wpAny_holding ?_
  refine wpAny_bind (wpAny_dictEntries ho hd ?_)
  dsimp only
  -- the places that may hold the key
  have hent : ∀ j e, es[j]? = some e → ∃ x, xs[j]? = some x ∧ e = entV w x := fun j e h => by
    rw [ent_at he j] at h
    cases hx : xs[j]? with
    | none => rw [hx] at h; cases h
    | some x => rw [hx] at h; cases h; exact ⟨x, hx, rfl⟩
  have hps : ∀ j (p : Value × Value), xs[j]? = some (k, p) → j ∈ placesWithHash es.size (fun i => es[i]?.map (·.hash)) (hashK w k) := fun j p h => by
    unfold placesWithHash
    rw [List.mem_filter, List.mem_range]
    have e1 := ent_at he j
    rw [h] at e1
    refine ⟨(Array.getElem?_eq_some_iff.mp e1).1, ?_⟩
    show (Option.map (fun x : DictEntry => x.hash) es[j]? == some (hashK w k)) = true
    rw [e1]; simp [entV]
  have hst : ∀ v ∈ (placesWithHash es.size (fun i => es[i]?.map (·.hash)) (hashK w k)).filterMap (fun i => es[i]?.map (·.key)), ∃ k', KeyIn s.heap k' v := fun v hv => by
    obtain ⟨i, _, hi⟩ := List.mem_filterMap.mp hv
    cases hei : es[i]? with
    | none => rw [hei] at hi; cases hi
    | some e =>
      rw [hei] at hi
      obtain rfl : e.key = v := by simpa using hi
      obtain ⟨x, hx, rfl⟩ := hent i e hei
      exact ⟨x.1, his x (List.mem_of_getElem? hx)⟩
  have hnd : (placesWithHash es.size (fun i => es[i]?.map (·.hash)) (hashK w k)).Nodup := List.nodup_range.filter _
  have hfin : (∀ j (p : Value × Value), xs[j]? ≠ some (k, p)) → Q none s := fun h => hnone fun x hx e => by
    obtain ⟨j, hj⟩ := List.mem_iff_getElem?.mp hx
    obtain ⟨x1, x2⟩ := x
    dsimp only at e
    subst e
    exact h j x2 hj
  generalize hpl : placesWithHash es.size (fun i => es[i]?.map (·.hash)) (hashK w k) = ps at hps hst hnd ⊢
  generalize (List.filterMap (fun i => Option.map (fun x => x.key) es[i]?) ps) = stored at hst ⊢
  have plain : wpAny (model prog w) A (dictWalkPlain d kv (hashK w k) es ps) Q E s := by
    unfold dictWalkPlain
    refine wpAny_bind ?_
    refine wpAny_forIn_list _ (fun rest b s' => s' = s ∧ b = (none, ()) ∧ ∃ done, ps = done ++ rest ∧ ∀ j ∈ done, ∀ p, xs[j]? ≠ some (k, p)) _ ?_ ?_ _ _ ⟨rfl, rfl, [], rfl, fun _ h => nomatch h⟩
    · rintro x rest b s' ⟨rfl, rfl, done, hd1, hno⟩
      have next : (∀ p, xs[x]? ≠ some (k, p)) → ∃ done, ps = done ++ rest ∧ ∀ j ∈ done, ∀ p, xs[j]? ≠ some (k, p) := fun hx => ⟨done ++ [x], by rw [hd1]; simp, fun j hj => by
        rcases List.mem_append.mp hj with hj | hj
        · exact hno j hj
        · rw [List.mem_singleton.mp hj]; exact hx⟩
      cases hex : es[x]? with
      | none =>
        refine wpAny_pure ⟨rfl, rfl, next fun p hp => ?_⟩
        have e1 := ent_at he x
        rw [hp, hex] at e1; cases e1
      | some e =>
        obtain ⟨⟨k', v', u'⟩, hx, rfl⟩ := hent x e hex
        have hib := his _ (List.mem_of_getElem? hx)
        dsimp only
        by_cases hh : ((entV w (k', v', u')).hash == hashK w k) = true
        · rw [if_pos hh]
          refine wpAny_bind (wpAny_dictEpoch ho hd (wpAny_bind (v_eq hu hib hkey (wpAny_bind (wpAny_dictEpoch ho hd ?_)))))
          rw [if_neg (by simp)]
          by_cases hkk : k' = k
          · subst hkk
            rw [decide_eq_true rfl]
            exact wpAny_bind (wpAny_rule (wpAny_pure (wpAny_pure (hsome x _ hx))))
          · rw [decide_eq_false hkk]
            refine wpAny_bind (wpAny_rule (wpAny_pure ⟨rfl, rfl, next fun p hp => ?_⟩))
            rw [hx] at hp; cases hp; exact hkk rfl
        · rw [if_neg hh]
          refine wpAny_pure ⟨rfl, rfl, next fun p hp => ?_⟩
          rw [hx] at hp; cases hp; exact hh (by simp [entV])
    · rintro b s' ⟨rfl, rfl, done, hd1, hno⟩
      refine wpAny_pure (hfin fun j p hp => hno j ?_ p hp)
      have := hps j p hp
      rw [hd1] at this; simpa using this
  have hany : ∀ a, kv = .ref a → ¬ (es.any fun e => e.key == kv && e.hash != hashK w k) = true := fun a ea => by
    rw [← Array.any_toList, List.any_eq_true]
    rintro ⟨e, hin, hc⟩
    obtain ⟨j, hj⟩ := List.mem_iff_getElem?.mp hin
    rw [Array.getElem?_toList] at hj
    obtain ⟨x, hx, rfl⟩ := hent j e hj
    simp only [entV, Bool.and_eq_true, beq_iff_eq, bne_iff_ne, ne_eq] at hc
    obtain ⟨hxa, hne⟩ := hc
    have q := his x (List.mem_of_getElem? hx)
    rw [hxa] at q
    exact hne (by rw [q.inj hkey])
  have hkv : (∃ x t, kv = .str x t ∧ k = .inl x) ∨ (∃ n t, kv = .int n t) ∨ ∃ a, kv = .ref a := by
    rcases k with x | n | ns
    · obtain ⟨t, e⟩ := hkey; exact .inl ⟨x, t, e, rfl⟩
    · obtain ⟨t, e⟩ := hkey; exact .inr (.inl ⟨n, t, e⟩)
    · obtain ⟨a, e, _⟩ := hkey; exact .inr (.inr ⟨a, e⟩)
  rcases hkv with ⟨sx, t, rfl, rfl⟩ | ⟨n, t, rfl⟩ | ⟨a, rfl⟩
  · dsimp only
    refine wpAny_ite_split (fun _ => ?_) (fun _ => wpAny_ite_split (fun _ => plain) (fun _ => ?_))
    · unfold foundByValue
      cases hf : es.findIdx? (fun e => e.key.isStr sx) with
      | none =>
        refine wpAny_pure (hnone fun y hy e => ?_)
        obtain ⟨j, hj⟩ := List.mem_iff_getElem?.mp hy
        have q := his y hy
        rw [e] at q
        obtain ⟨t', et⟩ := q
        have e1 := ent_at he j
        rw [hj] at e1
        have := Array.findIdx?_eq_none_iff.mp hf _ (Array.mem_of_getElem? e1)
        simp [entV, et, Value.isStr] at this
      | some i =>
        obtain ⟨hlt, hi, _⟩ := Array.findIdx?_eq_some_iff_getElem.mp hf
        have hei : es[i]? = some es[i] := Array.getElem?_eq_getElem hlt
        obtain ⟨⟨k', v', u'⟩, hx, hxe⟩ := hent i _ hei
        have q := his _ (List.mem_of_getElem? hx)
        have hkk : k' = .inl sx := by
          rw [hxe] at hi
          dsimp only [entV] at hi q
          refine q.inj (k' := .inl sx) ?_
          cases v' <;> simp [Value.isStr] at hi
          exact ⟨_, by rw [hi]⟩
        subst hkk
        simp only [hei]
        rw [hxe]
        refine wpAny_bind (wpAny_dictEpoch ho hd (wpAny_bind (v_eq hu q hkey (wpAny_bind (wpAny_dictEpoch ho hd ?_)))))
        rw [if_neg (by simp), decide_eq_true rfl]
        exact wpAny_bind (wpAny_rule (wpAny_pure (hsome i _ hx)))
    · by_cases hone : (stored == [Value.str sx t]) = true <;> (first | rw [if_pos hone] | rw [if_neg hone]) <;> (first | refine wpAny_bind (wpAny_pure ?_) | refine wpAny_bind (v_tell hkey hst ?_)) <;> (
        rw [if_neg (by simp)]
        refine wpAny_bind ?_
        refine wpAny_forIn_list _ (fun rest b s' => s' = s ∧ ∃ done hit, b = (none, hit) ∧ ps = done ++ rest ∧ ((hit = none ∧ ∀ j ∈ done, ∀ p, xs[j]? ≠ some ((Sum.inl sx : Key), p)) ∨ ∃ j p, hit = some j ∧ j ∈ done ∧ xs[j]? = some ((Sum.inl sx : Key), p))) _ ?_ ?_ _ _ ⟨rfl, [], none, rfl, rfl, .inl ⟨rfl, fun _ h => nomatch h⟩⟩
        · rintro x rest b s' ⟨rfl, done, hit, rfl, hd1, hH⟩
          have next : (∀ p, xs[x]? ≠ some ((Sum.inl sx : Key), p)) → ∃ done' hit', ((none : Option (Option Nat)), hit) = (none, hit') ∧ ps = done' ++ rest ∧ ((hit' = none ∧ ∀ j ∈ done', ∀ p, xs[j]? ≠ some ((Sum.inl sx : Key), p)) ∨ ∃ j p, hit' = some j ∧ j ∈ done' ∧ xs[j]? = some ((Sum.inl sx : Key), p)) := fun hx => ⟨done ++ [x], hit, rfl, by rw [hd1]; simp, by
            rcases hH with ⟨h0, hno⟩ | ⟨j, p, h1, hj, hp⟩
            · refine .inl ⟨h0, fun j hj => ?_⟩
              rcases List.mem_append.mp hj with hj | hj
              · exact hno j hj
              · rw [List.mem_singleton.mp hj]; exact hx
            · exact .inr ⟨j, p, h1, List.mem_append_left _ hj, hp⟩⟩
          cases hex : es[x]? with
          | none =>
            (try dsimp only)
            refine wpAny_pure ⟨rfl, next fun p hp => ?_⟩
            have e1 := ent_at he x
            rw [hp, hex] at e1; cases e1
          | some e =>
            obtain ⟨⟨k', v', u'⟩, hx, rfl⟩ := hent x e hex
            have hib := his _ (List.mem_of_getElem? hx)
            dsimp only
            by_cases hh : ((entV w (k', v', u')).hash == hashK w ((Sum.inl sx : Key))) = true
            · rw [if_pos hh]
              refine wpAny_bind (wpAny_dictEpoch ho hd (wpAny_bind (v_eq hu hib hkey (wpAny_bind (wpAny_dictEpoch ho hd ?_)))))
              rw [if_neg (by simp)]
              by_cases hkk : k' = (Sum.inl sx : Key)
              · subst hkk
                rw [decide_eq_true rfl]
                rcases hH with ⟨rfl, hno⟩ | ⟨j, p, h1, hj, hp⟩
                · rw [if_pos rfl]
                  simp only [Option.isSome_none, Bool.false_eq_true, if_false]
                  refine wpAny_bind (wpAny_rule ?_)
                  split
                  · exact wpAny_pure (wpAny_pure (hsome x _ hx))
                  · exact wpAny_pure ⟨rfl, done ++ [x], some x, rfl, by rw [hd1]; simp, .inr ⟨x, _, rfl, by simp, hx⟩⟩
                · exfalso
                  have e := key_once hn hp hx
                  subst e
                  rw [hd1] at hnd
                  exact (List.nodup_append.mp hnd).2.2 _ hj _ (.head _) rfl
              · rw [decide_eq_false hkk]
                simp only [Bool.false_eq_true, if_false]
                refine wpAny_bind (wpAny_rule ?_)
                rw [if_neg (by simp)]
                refine wpAny_pure ⟨rfl, next fun p hp => ?_⟩
                rw [hx] at hp; cases hp; exact hkk rfl
            · rw [if_neg hh]
              refine wpAny_pure ⟨rfl, next fun p hp => ?_⟩
              rw [hx] at hp; cases hp; exact hh (by simp [entV])
        · rintro b s' ⟨rfl, done, hit, rfl, hd1, hH⟩
          rw [List.append_nil] at hd1
          subst hd1
          rcases hH with ⟨rfl, hno⟩ | ⟨j, p, rfl, hj, hp⟩
          · exact wpAny_pure (hfin fun j p hp => hno j (hps j p hp) p hp)
          · exact wpAny_pure (hsome j p hp))
  · dsimp only
    refine wpAny_ite_split (fun _ => plain) (fun _ => ?_)
    by_cases hone : (stored == [Value.int n t]) = true <;> (first | rw [if_pos hone] | rw [if_neg hone]) <;> (first | refine wpAny_bind (wpAny_pure ?_) | refine wpAny_bind (v_tell hkey hst ?_)) <;> (
      rw [if_neg (by simp)]
      refine wpAny_bind ?_
      refine wpAny_forIn_list _ (fun rest b s' => s' = s ∧ ∃ done hit, b = (none, hit) ∧ ps = done ++ rest ∧ ((hit = none ∧ ∀ j ∈ done, ∀ p, xs[j]? ≠ some (k, p)) ∨ ∃ j p, hit = some j ∧ j ∈ done ∧ xs[j]? = some (k, p))) _ ?_ ?_ _ _ ⟨rfl, [], none, rfl, rfl, .inl ⟨rfl, fun _ h => nomatch h⟩⟩
      · rintro x rest b s' ⟨rfl, done, hit, rfl, hd1, hH⟩
        have next : (∀ p, xs[x]? ≠ some (k, p)) → ∃ done' hit', ((none : Option (Option Nat)), hit) = (none, hit') ∧ ps = done' ++ rest ∧ ((hit' = none ∧ ∀ j ∈ done', ∀ p, xs[j]? ≠ some (k, p)) ∨ ∃ j p, hit' = some j ∧ j ∈ done' ∧ xs[j]? = some (k, p)) := fun hx => ⟨done ++ [x], hit, rfl, by rw [hd1]; simp, by
          rcases hH with ⟨h0, hno⟩ | ⟨j, p, h1, hj, hp⟩
          · refine .inl ⟨h0, fun j hj => ?_⟩
            rcases List.mem_append.mp hj with hj | hj
            · exact hno j hj
            · rw [List.mem_singleton.mp hj]; exact hx
          · exact .inr ⟨j, p, h1, List.mem_append_left _ hj, hp⟩⟩
        cases hex : es[x]? with
        | none =>
          (try dsimp only)
          refine wpAny_pure ⟨rfl, next fun p hp => ?_⟩
          have e1 := ent_at he x
          rw [hp, hex] at e1; cases e1
        | some e =>
          obtain ⟨⟨k', v', u'⟩, hx, rfl⟩ := hent x e hex
          have hib := his _ (List.mem_of_getElem? hx)
          dsimp only
          by_cases hh : ((entV w (k', v', u')).hash == hashK w (k)) = true
          · rw [if_pos hh]
            refine wpAny_bind (wpAny_dictEpoch ho hd (wpAny_bind (v_eq hu hib hkey (wpAny_bind (wpAny_dictEpoch ho hd ?_)))))
            rw [if_neg (by simp)]
            by_cases hkk : k' = k
            · subst hkk
              rw [decide_eq_true rfl]
              rcases hH with ⟨rfl, hno⟩ | ⟨j, p, h1, hj, hp⟩
              · rw [if_pos rfl]
                simp only [Option.isSome_none, Bool.false_eq_true, if_false]
                refine wpAny_bind (wpAny_rule ?_)
                split
                · exact wpAny_pure (wpAny_pure (hsome x _ hx))
                · exact wpAny_pure ⟨rfl, done ++ [x], some x, rfl, by rw [hd1]; simp, .inr ⟨x, _, rfl, by simp, hx⟩⟩
              · exfalso
                have e := key_once hn hp hx
                subst e
                rw [hd1] at hnd
                exact (List.nodup_append.mp hnd).2.2 _ hj _ (.head _) rfl
            · rw [decide_eq_false hkk]
              simp only [Bool.false_eq_true, if_false]
              refine wpAny_bind (wpAny_rule ?_)
              rw [if_neg (by simp)]
              refine wpAny_pure ⟨rfl, next fun p hp => ?_⟩
              rw [hx] at hp; cases hp; exact hkk rfl
          · rw [if_neg hh]
            refine wpAny_pure ⟨rfl, next fun p hp => ?_⟩
            rw [hx] at hp; cases hp; exact hh (by simp [entV])
      · rintro b s' ⟨rfl, done, hit, rfl, hd1, hH⟩
        rw [List.append_nil] at hd1
        subst hd1
        rcases hH with ⟨rfl, hno⟩ | ⟨j, p, rfl, hj, hp⟩
        · exact wpAny_pure (hfin fun j p hp => hno j (hps j p hp) p hp)
        · exact wpAny_pure (hsome j p hp))
  · dsimp only
    refine wpAny_ite_split (fun _ => plain) (fun _ => ?_)
    rw [if_neg (hany a rfl)]
    by_cases hone : (stored == [Value.ref a]) = true <;> (first | rw [if_pos hone] | rw [if_neg hone]) <;> (first | refine wpAny_bind (wpAny_pure ?_) | refine wpAny_bind (v_tell hkey hst ?_)) <;> (
      rw [if_neg (by simp)]
      refine wpAny_bind ?_
      refine wpAny_forIn_list _ (fun rest b s' => s' = s ∧ ∃ done hit, b = (none, hit) ∧ ps = done ++ rest ∧ ((hit = none ∧ ∀ j ∈ done, ∀ p, xs[j]? ≠ some (k, p)) ∨ ∃ j p, hit = some j ∧ j ∈ done ∧ xs[j]? = some (k, p))) _ ?_ ?_ _ _ ⟨rfl, [], none, rfl, rfl, .inl ⟨rfl, fun _ h => nomatch h⟩⟩
      · rintro x rest b s' ⟨rfl, done, hit, rfl, hd1, hH⟩
        have next : (∀ p, xs[x]? ≠ some (k, p)) → ∃ done' hit', ((none : Option (Option Nat)), hit) = (none, hit') ∧ ps = done' ++ rest ∧ ((hit' = none ∧ ∀ j ∈ done', ∀ p, xs[j]? ≠ some (k, p)) ∨ ∃ j p, hit' = some j ∧ j ∈ done' ∧ xs[j]? = some (k, p)) := fun hx => ⟨done ++ [x], hit, rfl, by rw [hd1]; simp, by
          rcases hH with ⟨h0, hno⟩ | ⟨j, p, h1, hj, hp⟩
          · refine .inl ⟨h0, fun j hj => ?_⟩
            rcases List.mem_append.mp hj with hj | hj
            · exact hno j hj
            · rw [List.mem_singleton.mp hj]; exact hx
          · exact .inr ⟨j, p, h1, List.mem_append_left _ hj, hp⟩⟩
        cases hex : es[x]? with
        | none =>
          (try dsimp only)
          refine wpAny_pure ⟨rfl, next fun p hp => ?_⟩
          have e1 := ent_at he x
          rw [hp, hex] at e1; cases e1
        | some e =>
          obtain ⟨⟨k', v', u'⟩, hx, rfl⟩ := hent x e hex
          have hib := his _ (List.mem_of_getElem? hx)
          dsimp only
          by_cases hh : ((entV w (k', v', u')).hash == hashK w (k)) = true
          · rw [if_pos hh]
            refine wpAny_bind (wpAny_dictEpoch ho hd (wpAny_bind (v_eq hu hib hkey (wpAny_bind (wpAny_dictEpoch ho hd ?_)))))
            rw [if_neg (by simp)]
            by_cases hkk : k' = k
            · subst hkk
              rw [decide_eq_true rfl]
              rcases hH with ⟨rfl, hno⟩ | ⟨j, p, h1, hj, hp⟩
              · rw [if_pos rfl]
                simp only [Option.isSome_none, Bool.false_eq_true, if_false]
                refine wpAny_bind (wpAny_rule ?_)
                split
                · exact wpAny_pure (wpAny_pure (hsome x _ hx))
                · exact wpAny_pure ⟨rfl, done ++ [x], some x, rfl, by rw [hd1]; simp, .inr ⟨x, _, rfl, by simp, hx⟩⟩
              · exfalso
                have e := key_once hn hp hx
                subst e
                rw [hd1] at hnd
                exact (List.nodup_append.mp hnd).2.2 _ hj _ (.head _) rfl
            · rw [decide_eq_false hkk]
              simp only [Bool.false_eq_true, if_false]
              refine wpAny_bind (wpAny_rule ?_)
              rw [if_neg (by simp)]
              refine wpAny_pure ⟨rfl, next fun p hp => ?_⟩
              rw [hx] at hp; cases hp; exact hkk rfl
          · rw [if_neg hh]
            refine wpAny_pure ⟨rfl, next fun p hp => ?_⟩
            rw [hx] at hp; cases hp; exact hh (by simp [entV])
      · rintro b s' ⟨rfl, done, hit, rfl, hd1, hH⟩
        rw [List.append_nil] at hd1
        subst hd1
        rcases hH with ⟨rfl, hno⟩ | ⟨j, p, rfl, hj, hp⟩
        · exact wpAny_pure (hfin fun j p hp => hno j (hps j p hp) p hp)
        · exact wpAny_pure (hsome j p hp))
end
end MineV
end
section
open PySem PySem.W PyProof.Rows
namespace MineV
set_option maxRecDepth 100000
set_option maxHeartbeats 400000
/-! dicts whose keys are of several kinds, in the ledger -/
def IsV (w : World) (o : Obj) (xs : List Ent) : Prop := o.ExactDict ∧ ∃ es ep, o.data = .dict es ep ∧ es.toList = xs.map (entV w) ∧ (xs.map (·.1)).Nodup
def KeyN (news : List (Addr × Obj)) : Key → Value → Prop
  | .inl x, v => ∃ t, v = .str x t
  | .inr (.inl n), v => ∃ t, v = .int n t
  | .inr (.inr ns), v => ∃ a o items n, v = .ref a ∧ (a, o) ∈ news ∧ o.cls = .type "tuple" ∧ o.data = .seq items n ∧ IntsAre items.toList ns
def KeysN (news : List (Addr × Obj)) (xs : List Ent) : Prop := ∀ x ∈ xs, KeyN news x.1 x.2.1
def atV (xs : List Ent) (k : Key) : Option Value := (xs.find? fun x => decide (x.1 = k)).map (·.2.2)
def putV (xs : List Ent) (k : Key) (kv v : Value) : List Ent := if xs.any (fun x => decide (x.1 = k)) then xs.map (fun x => if x.1 = k then (x.1, x.2.1, v) else x) else xs ++ [(k, kv, v)]
def woV (xs : List Ent) (k : Key) : List Ent := xs.filter fun x => decide (x.1 ≠ k)
theorem atV_some {xs : List Ent} (hn : (xs.map (·.1)).Nodup) {j : Nat} {k : Key} {p : Value × Value} (h : xs[j]? = some (k, p)) : atV xs k = some p.2 := by
  unfold atV
  have hm : (k, p) ∈ xs := List.mem_of_getElem? h
  cases hf : xs.find? fun x => decide (x.1 = k) with
  | none => exact absurd (List.find?_eq_none.mp hf _ hm) (by simp)
  | some y =>
    have hy := List.mem_of_find?_eq_some hf
    have hk : y.1 = k := by simpa using List.find?_some hf
    obtain ⟨i, hi⟩ := List.mem_iff_getElem?.mp hy
    obtain ⟨y1, y2⟩ := y
    dsimp only at hk
    subst hk
    have := key_once hn hi h
    subst this
    rw [hi] at h
    cases h; rfl
theorem atV_none {xs : List Ent} {k : Key} (h : ∀ x ∈ xs, x.1 ≠ k) : atV xs k = none := by
  unfold atV
  rw [Option.map_eq_none_iff, List.find?_eq_none]
  intro x hx; simpa using h x hx
theorem atV_at {xs : List Ent} {k : Key} {v : Value} (h : atV xs k = some v) : ∃ kv, (k, kv, v) ∈ xs := by
  unfold atV at h
  obtain ⟨y, hy, e⟩ := Option.map_eq_some_iff.mp h
  have hk : y.1 = k := by simpa using List.find?_some hy
  exact ⟨y.2.1, by rw [← hk, ← e]; exact List.mem_of_find?_eq_some hy⟩
theorem any_iff {xs : List Ent} {k : Key} : (xs.any fun x => decide (x.1 = k)) = true ↔ ∃ x ∈ xs, x.1 = k := by simp
section
variable {prog : Program} {w : World} {A : Around} {E : Value → Shared → Prop} {s : Shared} {h₀ : Heap} {L d : Addr} {m : Str → Option Value} {news : List (Addr × Obj)} {od : Obj} {xs : List Ent} {k : Key} {kv v : Value}
theorem KeyN.inH {h : Heap} (N : News h₀ L h news) (x : KeyN news k kv) : KeyIn h k kv := by
  rcases k with y | n | ns
  · exact x
  · exact x
  · obtain ⟨a, o, items, n, rfl, hm, hc, hd, hi⟩ := x
    exact ⟨a, rfl, o, items, n, (N _ hm).1, hc, hd, hi⟩
theorem KeyN.mono {news' : List (Addr × Obj)} (x : KeyN news k kv) (h : ∀ q ∈ news, q.2.cls = .type "tuple" → q ∈ news') : KeyN news' k kv := by
  rcases k with y | n | ns
  · exact x
  · exact x
  · obtain ⟨a, o, items, n, rfl, hm, hc, hd, hi⟩ := x
    exact ⟨a, o, items, n, rfl, h _ hm hc, hc, hd, hi⟩
theorem KeysN.mono {news' : List (Addr × Obj)} (x : KeysN news xs) (h : ∀ q ∈ news, q.2.cls = .type "tuple" → q ∈ news') : KeysN news' xs := fun y hy => (x y hy).mono h
theorem v_type (N : News h₀ L s.heap news) (hp : (d, od) ∈ news) (hd : IsV w od xs) : s.TypeIs (.ref d) "dict" := ⟨od, (N _ hp).1, hd.1.1⟩
theorem v_get {Q : Option Value → Shared → Prop} (hu : A.units < cLine) (N : News h₀ L s.heap news) (hp : (d, od) ∈ news) (hd : IsV w od xs) (hks : KeysN news xs) (hk : KeyN news k kv)
    (h : Q (atV xs k) { s with toks := s.toks + drawsK k }) : wpAny (model prog w) A (dictGet d kv) Q E s := by
  obtain ⟨hx, es, ep, hdd, he, hn⟩ := hd
  have ho := (N _ hp).1
  unfold dictGet
  refine wpAny_holding (wpAny_bind (v_hash hu (hk.inH N) (wpAny_bind (v_find (s := { s with toks := s.toks + drawsK k }) hu (hk.inH N) ho hdd he (fun x hx => (hks x hx).inH N) hn ?_ ?_))))
  · intro hno
    rw [atV_none hno] at h
    exact wpAny_pure h
  · intro j p hj
    rw [atV_some hn hj] at h
    refine wpAny_bind (wpAny_dictEntries (s := { s with toks := s.toks + drawsK k }) ho hdd ?_)
    rw [ent_at he j, hj]
    exact wpAny_pure h
/-- d.get(key) -/
theorem v_get1 {Q : Value → Shared → Prop} (hu : A.units + 1 < cLine) (N : News h₀ L s.heap news) (hp : (d, od) ∈ news) (hd : IsV w od xs) (lo : (d == sysModules) = false) (hks : KeysN news xs) (hk : KeyN news k kv) (x : Option Value) (hv : atV xs k = x)
    (h : Q (x.getD .none) { s with toks := s.toks + drawsK k }) : wpAny (model prog w) A (call (.builtin "dict.get") [.ref d, kv]) Q E s := by
  have hT := v_type N hp hd
  subst hv
  refine wpAny_call_entry PySem.F.slot_dict_get hT PySem.F.entry_dict_get ?_ (PySem.F.args_dict_get_2 _ _)
  show wpAny _ _ (dictGet d kv >>= _) _ _ s
  refine wpAny_bind (v_get (A := A.in1) hu N hp hd hks hk ?_)
  cases hf : atV xs k with
  | some v =>
    rw [hf] at h
    exact wpAny_pure ⟨v, rfl, h⟩
  | none =>
    rw [hf] at h
    show wpAny _ _ (Builtin.Dict.missed d kv >>= _) _ _ _
    exact wpAny_bind (wpAny_missed_other lo (wpAny_pure ⟨.none, rfl, h⟩))
theorem v_getItem {Q : Value → Shared → Prop} (hu : A.units + 1 < cLine) (N : News h₀ L s.heap news) (hp : (d, od) ∈ news) (hd : IsV w od xs) (hks : KeysN news xs) (hk : KeyN news k kv) (hv : atV xs k = some v)
    (h : Q v { s with toks := s.toks + drawsK k }) : wpAny (model prog w) A (getItem (.ref d) kv) Q E s := by
  have hT := v_type N hp hd
  unfold getItem
  refine wpAny_holding (wpAny_bind (wpAny_sequenceKey hT (by decide) ?_))
  refine wpAny_bind (wpAny_callSpecial?_slot (name := Str.ofString "__getitem__") hT slot_dict_getitem
    (wpAny_call_entry slot_dict_getitem hT entry_dict_getitem ?_ (args_dict_getitem _ _)))
  show wpAny _ _ (dictGet d kv >>= _) _ _ s
  refine wpAny_bind (v_get (A := A.in1) hu N hp hd hks hk ?_)
  rw [hv]
  exact wpAny_pure ⟨v, rfl, wpAny_pure h⟩
theorem v_getItem_missing {Q : Value → Shared → Prop} (hu : A.units + 1 < cLine) (N : News h₀ L s.heap news) (hp : (d, od) ∈ news) (hd : IsV w od xs) (lo : (d == sysModules) = false) (hks : KeysN news xs) (hk : KeyN news k kv) (hh : A.handled = none) (hv : atV xs k = none)
    (h : ∀ h' e, Heap.NewExc s.heap h' e "KeyError" → E (.ref e) { s with heap := h', toks := s.toks + drawsK k }) : wpAny (model prog w) A (getItem (.ref d) kv) Q E s := by
  have hT := v_type N hp hd
  unfold getItem
  refine wpAny_holding (wpAny_bind (wpAny_sequenceKey hT (by decide) ?_))
  refine wpAny_bind (wpAny_callSpecial?_slot (name := Str.ofString "__getitem__") hT slot_dict_getitem
    (wpAny_call_entry slot_dict_getitem hT entry_dict_getitem ?_ (args_dict_getitem _ _)))
  show wpAny _ _ (dictGet d kv >>= _) _ _ s
  refine wpAny_bind (v_get (A := A.in1) hu N hp hd hks hk ?_)
  rw [hv]
  show wpAny _ _ (Builtin.Dict.missed d kv >>= _) _ _ _
  refine wpAny_bind (wpAny_missed_other lo ?_)
  refine wpAny_bind (wpAny_typeOf (s := { s with toks := s.toks + drawsK k }) hT ?_)
  show wpAny _ _ (if (Value.type "dict" != Value.type "dict") = true then _ else _) _ _ _
  rw [if_neg (by decide)]
  exact wpAny_bind (wpAny_rule (wpAny_raise_newExc (A := A.in1) plainExc_KeyError hh h))
theorem v_item {value slice : PySem.Expr} {Q : Value → Shared → Prop} (hu : A.units + 1 < cLine) (N : News h₀ L s.heap news) (hp : (d, od) ∈ news) (hd : IsV w od xs) (hks : KeysN news xs) (hk : KeyN news k kv) (hv : atV xs k = some v)
    (h : Q v { s with toks := s.toks + drawsK k })
    (hs : subscripted slice false (.ref d) kv = operate [.ref d, kv] (getItem (.ref d) kv) := by with_unfolding_all rfl) (hg : ∀ r, letTemporaryGo value (.ref d) r = pure () := by intro _; with_unfolding_all rfl) :
    wpAny (model prog w) A (subscriptTail value slice (.ref d) kv) Q E s :=
  subscriptTail_builtin (v_type N hp hd) slot_dict_getitem.lookup (v_getItem hu N hp hd hks hk hv h) hs hg
theorem v_item_missing {value slice : PySem.Expr} {Q : Value → Shared → Prop} (hu : A.units + 1 < cLine) (N : News h₀ L s.heap news) (hp : (d, od) ∈ news) (hd : IsV w od xs) (lo : (d == sysModules) = false) (hks : KeysN news xs) (hk : KeyN news k kv) (hh : A.handled = none) (hv : atV xs k = none)
    (h : ∀ h' e, Heap.NewExc s.heap h' e "KeyError" → E (.ref e) { s with heap := h', toks := s.toks + drawsK k })
    (hs : subscripted slice false (.ref d) kv = operate [.ref d, kv] (getItem (.ref d) kv) := by with_unfolding_all rfl) (hg : ∀ r, letTemporaryGo value (.ref d) r = pure () := by intro _; with_unfolding_all rfl) :
    wpAny (model prog w) A (subscriptTail value slice (.ref d) kv) Q E s :=
  subscriptTail_builtin (v_type N hp hd) slot_dict_getitem.lookup (v_getItem_missing hu N hp hd lo hks hk hh hv h) hs hg
theorem v_len {Q : Value → Shared → Prop} (N : News h₀ L s.heap news) (hp : (d, od) ∈ news) (hd : IsV w od xs) (lo : (d == sysModules) = false) (hz : xs.length ≤ 100000) (h : Q (.int xs.length (s.toks + 1)) { s with toks := s.toks + 1 + 1 }) :
    wpAny (model prog w) A (call (.builtin "len") [.ref d]) Q E s := by
  have hT := v_type N hp hd
  obtain ⟨hx, es, ep, hdd, he, hn⟩ := hd
  have ho := (N _ hp).1
  refine Calls.call_function_entry kind_len plain_len entry_len (args_len1 _) ?_
  unfold Builtin.«len»
  refine wpAny_bind (m := oneArg "len" _) (wpAny_pure ?_)
  refine wpAny_bind (m := callSpecial? (.ref d) (Str.ofString "__len__")) (wpAny_callSpecial?_slot (name := Str.ofString "__len__") hT PySem.F.slot_dict_len
    (wpAny_call_entry PySem.F.slot_dict_len hT PySem.F.entry_dict_len ?_ (PySem.F.args_dict_len_1 _)))
  show wpAny _ _ (dictSize d >>= _) _ _ s
  unfold dictSize
  refine wpAny_bind (wpAny_bind (wpAny_dictEntries ho hdd (wpAny_pure ?_)))
  show wpAny _ _ (Builtin.Dict.pendingCount d >>= _) _ _ s
  refine wpAny_bind (wpAny_pendingCount_other lo ?_)
  refine wpAny_ret_mkInt ?_
  have e0 : ((es.size : Nat) : Int) + ((0 : Nat) : Int) = ((xs.length : Nat) : Int) := by rw [ent_size he]; simp
  rw [e0]
  refine wpAny_bind (wpAny_holding (wpAny_pure ?_))
  refine wpAny_bind (wpAny_letGo ?_)
  show wpAny _ _ (if ((xs.length : Nat) : Int) < 0 then _ else _) _ _ _
  rw [if_neg (by omega)]
  show wpAny _ _ (if ((xs.length : Nat) : Int) ≥ 2 ^ 63 then _ else _) _ _ _
  rw [if_neg (by omega)]
  exact wpAny_bind (wpAny_mkInt (wpAny_pure ⟨_, rfl, h⟩))
end
end MineV
end
section
open PySem PySem.W PyProof.Rows
namespace MineV
set_option maxRecDepth 100000
set_option maxHeartbeats 400000
/-! storing and taking out -/
theorem putV_keys {xs : List Ent} {k : Key} {kv v : Value} : (putV xs k kv v).map (·.1) = if xs.any (fun x => decide (x.1 = k)) then xs.map (·.1) else xs.map (·.1) ++ [k] := by
  unfold putV
  split
  · rw [List.map_map]
    refine List.map_congr_left fun x _ => ?_
    simp only [Function.comp]
    split <;> rfl
  · simp
theorem putV_nodup {xs : List Ent} (hn : (xs.map (·.1)).Nodup) {k : Key} {kv v : Value} : ((putV xs k kv v).map (·.1)).Nodup := by
  rw [putV_keys]
  split
  · exact hn
  · rename_i h
    rw [List.nodup_append]
    refine ⟨hn, by simp, fun x hx y hy => ?_⟩
    rw [List.mem_singleton.mp hy]
    rintro rfl
    obtain ⟨z, hz, e⟩ := List.mem_map.mp hx
    exact h (any_iff.mpr ⟨z, hz, e⟩)
theorem woV_erase : ∀ {xs : List Ent} (_hn : (xs.map (·.1)).Nodup) {j : Nat} {k : Key} {p : Value × Value}, xs[j]? = some (k, p) → xs.eraseIdx j = woV xs k
  | [], _, _, _, _, h => by simp at h
  | x :: xs, hn, 0, k, p, h => by
    simp only [List.getElem?_cons_zero, Option.some.injEq] at h
    subst h
    simp only [List.map_cons, List.nodup_cons] at hn
    have e : woV xs k = xs := List.filter_eq_self.mpr fun y hy => by simpa using fun e => hn.1 (List.mem_map.mpr ⟨y, hy, e⟩)
    show xs = woV ((k, p) :: xs) k
    have e2 : woV ((k, p) :: xs) k = woV xs k := by unfold woV; simp
    rw [e2, e]
  | x :: xs, hn, j + 1, k, p, h => by
    simp only [List.map_cons, List.nodup_cons] at hn
    simp only [List.getElem?_cons_succ] at h
    have hk : x.1 ≠ k := fun e => hn.1 (List.mem_map.mpr ⟨(k, p), List.mem_of_getElem? h, e.symm⟩)
    have ih := woV_erase hn.2 h
    unfold woV at ih ⊢
    simp [hk, ih]
theorem erase_map {α β : Type} (f : α → β) : ∀ (l : List α) (j : Nat), (l.map f).eraseIdx j = (l.eraseIdx j).map f
  | [], _ => rfl
  | _ :: _, 0 => rfl
  | x :: l, j + 1 => by simp [erase_map f l j]
theorem ent_map_put (w : World) {xs : List Ent} (hn : (xs.map (·.1)).Nodup) {j : Nat} {k : Key} {p : Value × Value} (hj : xs[j]? = some (k, p)) (kv v : Value) :
    ((xs.map (entV w)).modify j fun e => { e with val := v }) = (putV xs k kv v).map (entV w) := by
  have hany : (xs.any fun x => decide (x.1 = k)) = true := any_iff.mpr ⟨_, List.mem_of_getElem? hj, rfl⟩
  unfold putV
  rw [if_pos hany]
  apply List.ext_getElem?
  intro i
  rw [List.getElem?_modify, List.getElem?_map, List.getElem?_map, List.getElem?_map]
  cases hi : xs[i]? with
  | none => simp
  | some x =>
    obtain ⟨k', v', u'⟩ := x
    by_cases e : j = i
    · subst e
      rw [hj] at hi
      cases hi
      simp [entV]
    · have hk : k' ≠ k := fun e' => e (key_once hn hj (by rw [hi, e']))
      simp [e, hk]
section
variable {prog : Program} {w : World} {A : Around} {E : Value → Shared → Prop} {s : Shared} {h₀ : Heap} {L d : Addr} {m : Str → Option Value} {news : List (Addr × Obj)} {od : Obj} {xs : List Ent} {k : Key} {kv v : Value} {g : Obj → List (Addr × Obj)}
theorem v_dictSet {Q : Unit → Shared → Prop} {o : Obj} (hu : A.units < cLine) (ho : s.heap.get? d = some o) (hd : IsV w o xs) (hks : ∀ x ∈ xs, KeyIn s.heap x.1 x.2.1) (hk : KeyIn s.heap k kv) (hsz : xs.length ≤ 100000)
    (h : ∀ h' o', h'.get? d = some o' → Heap.SameBut d s.heap h' → IsV w o' (putV xs k kv v) → Q () { s with heap := h', toks := s.toks + drawsK k }) : wpAny (model prog w) A (dictSet d kv v) Q E s := by
  obtain ⟨hx, es, ep, hdd, he, hn⟩ := hd
  unfold dictSet
  refine wpAny_holding (wpAny_bind (v_hash hu hk ?_))
  unfold dictSetHashed
  refine wpAny_holding (wpAny_bind (v_find (s := { s with toks := s.toks + drawsK k }) hu hk ho hdd he hks hn ?_ ?_))
  · intro hno
    refine wpAny_bind (wpAny_rule (wpAny_updateDictKeys (hz := by have e := ent_size he; rw [sizeLine_eq]; omega) (s := { s with toks := s.toks + drawsK k }) ho hdd (h _ _ (Heap.get?_update_self _ ho (Obj.isFreed_of_dict (Obj.data_mapDictKeys hdd _))) (Heap.SameBut.update ..) ⟨hx.mapDictKeys _, _, _, Obj.data_mapDictKeys hdd _, ?_, putV_nodup hn⟩)))
    have hany : ¬ (xs.any fun x => decide (x.1 = k)) = true := fun e => by
      obtain ⟨x, hx, e⟩ := any_iff.mp e
      exact hno x hx e
    unfold putV
    rw [if_neg hany]
    simp [he, entV]
  · intro j p hj
    refine wpAny_bind (wpAny_rule (wpAny_bind (wpAny_updateDict (s := { s with toks := s.toks + drawsK k }) ho hdd (wpAny_point (h _ _ (Heap.get?_update_self _ ho (Obj.isFreed_of_dict (Obj.data_mapDict hdd _))) (Heap.SameBut.update ..) ⟨hx.mapDict _, _, _, Obj.data_mapDict hdd _, ?_, putV_nodup hn⟩)))))
    have := ent_map_put w hn hj kv v
    rw [← he] at this
    obtain ⟨l⟩ := es
    simpa using this
theorem v_set {Q : Unit → Shared → Prop} (hu : A.units + 1 < cLine) (F : Fr h₀ L s.heap m) (N : News h₀ L s.heap news) (U : UpdF d od news g) (hd : IsV w od xs) (hks : KeysN news xs) (hk : KeyN news k kv) (hsz : xs.length ≤ 100000)
    (h : ∀ h' o', Fr h₀ L h' m → News h₀ L h' (g o') → IsV w o' (putV xs k kv v) → Q () { s with heap := h', toks := s.toks + drawsK k }) : wpAny (model prog w) A (setItem (.ref d) kv v) Q E s := by
  obtain ⟨pre, post, rfl, hg, a, b⟩ := U.split
  have hm := N (d, od) (List.mem_append_right _ (.head _))
  have hT : s.TypeIs (.ref d) "dict" := ⟨od, hm.1, hd.1.1⟩
  unfold setItem
  refine wpAny_holding (wpAny_bind (wpAny_sequenceKey hT (by decide) ?_))
  refine wpAny_bind (wpAny_callSpecial?_slot (name := Str.ofString "__setitem__") hT slot_dict_setitem
    (wpAny_call_entry slot_dict_setitem hT entry_dict_setitem ?_ (args_dict_setitem _ _ _)))
  show wpAny _ _ (Builtin.Dict.notOrdered "__setitem__" ⟨[.ref d, kv, v], []⟩ >>= _) _ _ s
  refine wpAny_bind (wpAny_notOrdered_dict hT ?_)
  show wpAny _ _ (dictSet d kv v >>= _) _ _ s
  refine wpAny_bind (v_dictSet (A := A.in1) hu hm.1 hd (fun x hx => (hks x hx).inH N) (hk.inH N) hsz fun h' o' ho' hs hd' => ?_)
  exact wpAny_pure ⟨.none, rfl, wpAny_pure (h h' o' (F.change hs hm.2.1 hm.2.2) (hg o' ▸ N.setIn a b hs ho') hd')⟩
theorem v_takeOut {Q : Option DictEntry → Shared → Prop} {o : Obj} (hu : A.units < cLine) (ho : s.heap.get? d = some o) (hd : IsV w o xs) (hks : ∀ x ∈ xs, KeyIn s.heap x.1 x.2.1) (hk : KeyIn s.heap k kv) (hsz : xs.length ≤ 100000)
    (hnone : (∀ x ∈ xs, x.1 ≠ k) → Q none { s with toks := s.toks + drawsK k })
    (hsome : ∀ e h' o', h'.get? d = some o' → Heap.SameBut d s.heap h' → IsV w o' (woV xs k) → (∃ x ∈ xs, x.1 = k) → Q (some e) { s with heap := h', toks := s.toks + drawsK k }) : wpAny (model prog w) A (Builtin.Dict.takeOut d kv) Q E s := by
  obtain ⟨hx, es, ep, hdd, he, hn⟩ := hd
  unfold Builtin.Dict.takeOut
  refine wpAny_holding (wpAny_bind (v_hash hu hk (wpAny_bind (v_find (s := { s with toks := s.toks + drawsK k }) hu hk ho hdd he hks hn ?_ ?_))))
  · exact fun hno => wpAny_pure (hnone hno)
  · intro j p hj
    refine wpAny_bind (wpAny_dictEntries (s := { s with toks := s.toks + drawsK k }) ho hdd ?_)
    rw [ent_at he j, hj]
    dsimp only [Option.map_some]
    refine wpAny_bind (wpAny_updateDictKeys (hz := by have e := ent_size he; rw [sizeLine_eq]; omega) (s := { s with toks := s.toks + drawsK k }) ho hdd (wpAny_pure (hsome _ _ _ (Heap.get?_update_self _ ho (Obj.isFreed_of_dict (Obj.data_mapDictKeys hdd _))) (Heap.SameBut.update ..) ⟨hx.mapDictKeys _, _, _, Obj.data_mapDictKeys hdd _, ?_, hn.sublist (List.filter_sublist.map _)⟩ ⟨_, List.mem_of_getElem? hj, rfl⟩)))
    rw [← woV_erase hn hj]
    have hlt : j < es.size := by rw [ent_size he]; exact (List.getElem?_eq_some_iff.mp hj).1
    obtain ⟨l⟩ := es
    simp only at he
    have hlt' : j < l.length := by simpa using hlt
    rw [← erase_map, ← he]
    simp [Array.eraseIdxIfInBounds, hlt']

theorem v_del {Q : Unit → Shared → Prop} (hu : A.units + 1 < cLine) (F : Fr h₀ L s.heap m) (N : News h₀ L s.heap news) (U : UpdF d od news g) (hd : IsV w od xs) (hks : KeysN news xs) (hk : KeyN news k kv) (hsz : xs.length ≤ 100000) (hin : ∃ x ∈ xs, x.1 = k)
    (h : ∀ h' o', Fr h₀ L h' m → News h₀ L h' (g o') → IsV w o' (woV xs k) → Q () { s with heap := h', toks := s.toks + drawsK k }) : wpAny (model prog w) A (delItem (.ref d) kv) Q E s := by
  obtain ⟨pre, post, rfl, hg, a, b⟩ := U.split
  have hm := N (d, od) (List.mem_append_right _ (.head _))
  have hT : s.TypeIs (.ref d) "dict" := ⟨od, hm.1, hd.1.1⟩
  unfold delItem
  refine wpAny_holding (wpAny_bind (wpAny_sequenceKey hT (by decide) ?_))
  refine wpAny_bind (wpAny_callSpecial?_slot (name := Str.ofString "__delitem__") hT PySem.F.slot_dict_delitem
    (wpAny_call_entry PySem.F.slot_dict_delitem hT PySem.F.entry_dict_delitem ?_ (PySem.F.args_dict_delitem_2 _ _)))
  unfold Builtin.«dict.__delitem__»
  refine wpAny_bind ?_
  unfold Builtin.Dict.dictSlotArgs
  refine wpAny_bind (wpAny_notOrdered_dict hT ?_)
  show wpAny _ _ (pure (Value.ref d, kv)) _ _ s
  refine wpAny_pure ?_
  show wpAny _ _ (Builtin.Dict.takeOut d kv >>= _) _ _ s
  refine wpAny_bind (v_takeOut (A := A.in1) hu hm.1 hd (fun x hx => (hks x hx).inH N) (hk.inH N) hsz (fun hno => ?_) fun e h' o' ho' hs hd' _ => ?_)
  · obtain ⟨x, hx, e⟩ := hin
    exact absurd e (hno x hx)
  · exact wpAny_bind (wpAny_letGo (wpAny_pure ⟨.none, rfl, wpAny_pure (h h' o' (F.change hs hm.2.1 hm.2.2) (hg o' ▸ N.setIn a b hs ho') hd')⟩))
theorem v_del_missing {Q : Unit → Shared → Prop} (hu : A.units + 1 < cLine) (N : News h₀ L s.heap news) (hp : (d, od) ∈ news) (hd : IsV w od xs) (lo : (d == sysModules) = false) (hks : KeysN news xs) (hk : KeyN news k kv) (hh : A.handled = none) (hsz : xs.length ≤ 100000) (hno : ∀ x ∈ xs, x.1 ≠ k)
    (h : ∀ h' e, Heap.NewExc s.heap h' e "KeyError" → E (.ref e) { s with heap := h', toks := s.toks + drawsK k }) : wpAny (model prog w) A (delItem (.ref d) kv) Q E s := by
  have hT := v_type N hp hd
  unfold delItem
  refine wpAny_holding (wpAny_bind (wpAny_sequenceKey hT (by decide) ?_))
  refine wpAny_bind (wpAny_callSpecial?_slot (name := Str.ofString "__delitem__") hT PySem.F.slot_dict_delitem
    (wpAny_call_entry PySem.F.slot_dict_delitem hT PySem.F.entry_dict_delitem ?_ (PySem.F.args_dict_delitem_2 _ _)))
  unfold Builtin.«dict.__delitem__»
  refine wpAny_bind ?_
  unfold Builtin.Dict.dictSlotArgs
  refine wpAny_bind (wpAny_notOrdered_dict hT ?_)
  show wpAny _ _ (pure (Value.ref d, kv)) _ _ s
  refine wpAny_pure ?_
  show wpAny _ _ (Builtin.Dict.takeOut d kv >>= _) _ _ s
  refine wpAny_bind (v_takeOut (A := A.in1) hu (N _ hp).1 hd (fun x hx => (hks x hx).inH N) (hk.inH N) hsz (fun _ => ?_) fun e h' o' ho' hs hd' hin => ?_)
  · show wpAny _ _ (Builtin.Dict.missedRemoval d kv >>= _) _ _ _
    refine wpAny_bind (wpAny_missedRemoval_other lo ?_)
    exact wpAny_bind (wpAny_rule (wpAny_raise_newExc (A := A.in1) plainExc_KeyError hh h))
  · obtain ⟨x, hx, e⟩ := hin
    exact absurd e (hno x hx)
end
end MineV
end
section
open PySem PySem.W PyProof.Rows
namespace MineV
set_option maxRecDepth 100000
set_option maxHeartbeats 400000
/-! walking over a dict's keys or values, whatever its keys are -/
def EntAt (h : Heap) (d : Addr) (es : Array DictEntry) (ep : Nat) : Prop := ∃ o, h.get? d = some o ∧ o.ExactDict ∧ o.data = .dict es ep
section
variable {prog : Program} {w : World} {A : Around} {E : Value → Shared → Prop} {s : Shared}
theorem EntAt.type {d : Addr} {es : Array DictEntry} {ep : Nat} (x : EntAt s.heap d es ep) : s.TypeIs (.ref d) "dict" := let ⟨o, ho, hc, _⟩ := x; ⟨o, ho, hc.1⟩
theorem EntAt.keeps {h h' : Heap} {d : Addr} {es : Array DictEntry} {ep : Nat} (x : EntAt h d es ep) (hk : ∀ o, h.get? d = some o → h'.get? d = some o) : EntAt h' d es ep := let ⟨o, ho, r⟩ := x; ⟨o, hk o ho, r⟩
theorem e_iter {d : Addr} {es : Array DictEntry} {ep : Nat} {Q : Value → Shared → Prop} (lo : (d == sysModules) = false) (hm : EntAt s.heap d es ep)
    (hQ : Q (.ref s.heap.objs.size) { s with heap := s.heap.push { cls := .type "dict_keyiterator", data := .fields #[.ref d, .int 0 0, .int es.size 0, .int ep 0] } }) :
    wpAny (model prog w) A (pyIter (.ref d)) Q E s := by
  have hT := hm.type
  obtain ⟨o, ho, hc, hdat⟩ := id hm
  refine wpAny_pyIter_slot hT PySem.F.slot_dict_iter (wpAny_call_entry PySem.F.slot_dict_iter hT PySem.F.entry_dict_iter ?_ (PySem.F.args_dict_iter_1 _))
  unfold Builtin.«dict.__iter__»
  refine wpAny_bind ?_
  unfold Builtin.Dict.dictSlotNone
  refine wpAny_bind (wpAny_notOrdered_dict hT ?_)
  show wpAny _ _ (pure (Value.ref d)) _ _ s
  refine wpAny_pure ?_
  show wpAny _ _ (Builtin.Dict.showsAll d >>= _) _ _ s
  unfold Builtin.Dict.showsAll
  rw [if_neg (by rw [lo]; exact Bool.false_ne_true)]
  refine wpAny_bind (wpAny_pure ?_)
  refine wpAny_bind (wpAny_dictEntries ho hdat ?_)
  refine wpAny_bind (wpAny_dictEpoch ho hdat ?_)
  refine wpAny_bind (wpAny_newObj_type (wpAny_pure ⟨_, rfl, "dict_keyiterator", _, ⟨_, Heap.get?_push_size _ rfl, rfl⟩, PySem.F.slot_dict_keyiterator_next.lookup, ?_⟩))
  simpa [rawInt] using hQ
theorem e_iterV {v d : Addr} {es : Array DictEntry} {ep : Nat} {Q : Value → Shared → Prop} (hv : s.heap.IsValuesView v d) (hm : EntAt s.heap d es ep)
    (hQ : Q (.ref s.heap.objs.size) { s with heap := s.heap.push { cls := .type "dict_valueiterator", data := .fields #[.ref d, .int 0 0, .int es.size 0, .int ep 0] } }) :
    wpAny (model prog w) A (pyIter (.ref v)) Q E s := by
  obtain ⟨ov, hov, hcv, hdv⟩ := id hv
  obtain ⟨o, ho, hc, hdat⟩ := id hm
  refine wpAny_pyIter_slot hv.typeIs PySem.F.slot_dict_values_iter (wpAny_call_entry PySem.F.slot_dict_values_iter hv.typeIs PySem.F.entry_dict_values_iter ?_ (PySem.F.args_dict_values_iter_1 _))
  unfold Builtin.«dict_values.__iter__»
  refine wpAny_bind (wpAny_pure ?_)
  refine wpAny_bind ?_
  unfold Builtin.Dict_items.dictOf
  refine wpAny_bind (wpAny_field hov hdv (x := .ref d) rfl (wpAny_pure ?_))
  refine wpAny_bind ?_
  unfold Builtin.Dict_items.newIterator
  refine wpAny_bind (wpAny_dictEntries ho hdat ?_)
  refine wpAny_bind (wpAny_dictEpoch ho hdat ?_)
  have hown : Builtin.Dict_items.ownsTuple "dict_valueiterator" = false := by decide
  simp only [hown, Bool.false_eq_true, if_false]
  refine wpAny_newObj_type (wpAny_pure ⟨_, rfl, "dict_valueiterator", _, ⟨_, Heap.get?_push_size _ rfl, rfl⟩, PySem.F.slot_dict_valueiterator_next.lookup, ?_⟩)
  simpa [rawInt] using hQ

theorem e_itemK {it d : Addr} {i ep : Nat} {es : Array DictEntry} {Q : Option Value → Shared → Prop} (hit : s.heap.IsKeyIter it d i es.size ep) (hm : EntAt s.heap d es ep) (hlt : i < es.size)
    (hQ : ∀ h', h'.IsKeyIter it d (i + 1) es.size ep → Heap.SameBut it s.heap h' → Q (some es[i].key) { s with heap := h' }) : wpAny (model prog w) A (pyNext (.ref it)) Q E s := by
  obtain ⟨o, ho, hc, hd⟩ := id hit
  obtain ⟨od, hod, hcd, hdd⟩ := id hm
  unfold pyNext
  refine wpAny_bind (wpAny_attempt (wpAny_callSpecial?_slot (name := Str.ofString "__next__") hit.typeIs PySem.F.slot_dict_keyiterator_next
    (wpAny_call_entry PySem.F.slot_dict_keyiterator_next hit.typeIs PySem.F.entry_dict_keyiterator_next ?_ (PySem.F.args_dict_keyiterator_next_1 _))))
  refine wpAny_bind (wpAny_pure ?_)
  refine wpAny_bind ?_
  refine wpAny_bind ?_
  first | refine wpAny_bind (wpAny_typeNameOfWhole_keyiter hit.typeIs (wpAny_pure ?_)) | refine wpAny_bind (wpAny_typeNameOf_keyiter hit.typeIs (wpAny_pure ?_))
  refine wpAny_bind (wpAny_fieldsOf ho hd ?_)
  have hown : Builtin.Dict_items.ownsTuple "dict_keyiterator" = false := by decide
  simp only [hown, Bool.false_eq_true, if_false]
  show wpAny _ _ (if (Value.ref d == Value.none) = true then _ else _) _ _ s
  rw [if_neg (show ¬ ((Value.ref d == Value.none) = true) from Bool.false_ne_true)]
  refine wpAny_bind (wpAny_pure ?_)
  refine wpAny_bind (wpAny_dictEntries hod hdd ?_)
  rw [if_neg (by simp)]
  refine wpAny_bind (wpAny_pure ?_)
  refine wpAny_bind (wpAny_dictEpoch hod hdd ?_)
  rw [if_neg (by simp)]
  refine wpAny_pure ?_
  simp only [show ¬ ((i : Int) < 0) from by omega, if_false, Int.toNat_natCast, Array.getElem?_eq_getElem hlt]
  refine wpAny_bind ?_
  first | refine wpAny_bind (wpAny_typeNameOfWhole_keyiter hit.typeIs (wpAny_pure ?_)) | refine wpAny_bind (wpAny_typeNameOf_keyiter hit.typeIs (wpAny_pure ?_))
  refine wpAny_bind (wpAny_isOneOf_keyiter hit.typeIs ?_)
  show wpAny _ _ (setField (.ref it) 1 (rawInt ((i : Int) + 1)) >>= _) _ _ s
  refine wpAny_bind (wpAny_setField ho hd (by simp) ?_)
  have hit' : (s.heap.update it (Obj.mapFields (·.setIfInBounds 1 (rawInt ((i : Int) + 1))))).IsKeyIter it d (i + 1) es.size ep :=
    ⟨_, Heap.get?_update_self _ ho (Obj.isFreed_of_fields (Obj.data_mapFields hd _)), (Obj.cls_mapFields ..).trans hc, by rw [Obj.data_mapFields hd]; simp [rawInt]⟩
  refine wpAny_bind (wpAny_holding ?_)
  refine wpAny_bind (wpAny_isOneOf_keyiter (s := { s with heap := s.heap.update it (Obj.mapFields (·.setIfInBounds 1 (rawInt ((i : Int) + 1)))) }) hit'.typeIs ?_)
  show wpAny _ _ (pure es[i].key) _ _ _
  exact wpAny_pure (wpAny_pure ⟨_, rfl, wpAny_pure (hQ _ hit' (Heap.SameBut.update ..))⟩)
theorem e_endK {it d : Addr} {ep : Nat} {es : Array DictEntry} {Q : Option Value → Shared → Prop} (hh : A.handled = none) (hit : s.heap.IsKeyIter it d es.size es.size ep) (hm : EntAt s.heap d es ep)
    (hQ : ∀ h', Heap.ExtBut it s.heap h' → Q none { s with heap := h' }) : wpAny (model prog w) A (pyNext (.ref it)) Q E s := by
  obtain ⟨o, ho, hc, hd⟩ := id hit
  obtain ⟨od, hod, hcd, hdd⟩ := id hm
  unfold pyNext
  refine wpAny_bind (wpAny_attempt (wpAny_callSpecial?_slot (name := Str.ofString "__next__") hit.typeIs PySem.F.slot_dict_keyiterator_next
    (wpAny_call_entry PySem.F.slot_dict_keyiterator_next hit.typeIs PySem.F.entry_dict_keyiterator_next ?_ (PySem.F.args_dict_keyiterator_next_1 _))))
  refine wpAny_bind (wpAny_pure ?_)
  refine wpAny_bind ?_
  refine wpAny_bind ?_
  first | refine wpAny_bind (wpAny_typeNameOfWhole_keyiter hit.typeIs (wpAny_pure ?_)) | refine wpAny_bind (wpAny_typeNameOf_keyiter hit.typeIs (wpAny_pure ?_))
  refine wpAny_bind (wpAny_fieldsOf ho hd ?_)
  have hown : Builtin.Dict_items.ownsTuple "dict_keyiterator" = false := by decide
  simp only [hown, Bool.false_eq_true, if_false]
  show wpAny _ _ (if (Value.ref d == Value.none) = true then _ else _) _ _ s
  rw [if_neg (show ¬ ((Value.ref d == Value.none) = true) from Bool.false_ne_true)]
  refine wpAny_bind (wpAny_pure ?_)
  refine wpAny_bind (wpAny_dictEntries hod hdd ?_)
  rw [if_neg (by simp)]
  refine wpAny_bind (wpAny_pure ?_)
  refine wpAny_bind (wpAny_dictEpoch hod hdd ?_)
  rw [if_neg (by simp)]
  refine wpAny_pure ?_
  simp only [show ¬ ((es.size : Int) < 0) from by omega, if_false, Int.toNat_natCast, Array.getElem?_eq_none (Nat.le_refl es.size)]
  refine wpAny_bind ?_
  first | refine wpAny_bind (wpAny_typeNameOfWhole_keyiter hit.typeIs (wpAny_pure ?_)) | refine wpAny_bind (wpAny_typeNameOf_keyiter hit.typeIs (wpAny_pure ?_))
  show wpAny _ _ (setField (.ref it) 0 .none >>= _) _ _ s
  refine wpAny_bind (wpAny_setField ho hd (by simp) ?_)
  show wpAny _ _ (newExc (.type "StopIteration") [] >>= _) _ _ _
  refine wpAny_bind ?_
  simp only [newExc, newTuple]
  refine wpAny_bind (wpAny_newObj_type ?_ (by size_fits))
  refine wpAny_bind (m := firstArgMember _ _) (wpAny_of_eq (a := Value.none) (by first | rfl | (simp only [firstArgMember]; rfl)) ?_)
  refine wpAny_newObj_type ?_ (by size_fits)
  simp only [raiseNew]
  refine wpAny_bind (wpAny_handled ?_)
  rw [show A.in1.handled = none from hh]
  refine wpAny_bind (wpAny_pure (wpAny_throw ?_))
  refine wpAny_bind (wpAny_isInstance (T := "StopIteration") (b := true) ⟨_, Heap.get?_push_size _ rfl, rfl⟩ isSubtype_stop ?_)
  exact wpAny_pure (hQ _ (((Heap.SameBut.update ..).extBut.push _).push _))
theorem e_walksK (hh : A.handled = none) (I d : Addr) (hne : d ≠ I) (es : Array DictEntry) (ep : Nat) :
    Walks prog w A I [I, d] [I] es.size (fun i v => ∃ e, es[i]? = some e ∧ v = e.key) (fun i h => h.IsKeyIter I d i es.size ep ∧ EntAt h d es ep) where
  sub := fun b hb => by simp at hb; simp [hb]
  frame := fun _ _ _ st hk => ⟨st.1.at fun o e => hk I (by simp) o e, st.2.keeps fun o e => hk d (by simp) o e⟩
  item := fun i s Q E hi st hQ => e_itemK st.1 st.2 hi fun h' hit' hs' => hQ es[i].key h' s.toks ⟨_, Array.getElem?_eq_getElem hi, rfl⟩ ⟨hit', st.2.keeps fun o e => (hs'.extBut d o hne e)⟩ fun b o hb e => hs'.extBut b o (fun h => hb (by simp [h])) e
  done := fun s Q E st hQ => e_endK hh st.1 st.2 fun h' he' => hQ h' s.toks fun b o hb e => he' b o (fun h => hb (by simp [h])) e
  self := fun _ _ _ _ st hQ => wpAny_pyIter_keyiter st.1 hQ

theorem e_itemV {it d : Addr} {i ep : Nat} {es : Array DictEntry} {Q : Option Value → Shared → Prop} (hit : s.heap.IsValIter it d i es.size ep) (hm : EntAt s.heap d es ep) (hlt : i < es.size)
    (hQ : ∀ h', h'.IsValIter it d (i + 1) es.size ep → Heap.SameBut it s.heap h' → Q (some es[i].val) { s with heap := h' }) : wpAny (model prog w) A (pyNext (.ref it)) Q E s := by
  obtain ⟨o, ho, hc, hd⟩ := id hit
  obtain ⟨od, hod, hcd, hdd⟩ := id hm
  unfold pyNext
  refine wpAny_bind (wpAny_attempt (wpAny_callSpecial?_slot (name := Str.ofString "__next__") hit.typeIs PySem.F.slot_dict_valueiterator_next
    (wpAny_call_entry PySem.F.slot_dict_valueiterator_next hit.typeIs PySem.F.entry_dict_valueiterator_next ?_ (PySem.F.args_dict_valueiterator_next_1 _))))
  refine wpAny_bind (wpAny_pure ?_)
  refine wpAny_bind ?_
  refine wpAny_bind ?_
  first | refine wpAny_bind (wpAny_typeNameOfWhole_valiter hit.typeIs (wpAny_pure ?_)) | refine wpAny_bind (wpAny_typeNameOf_valiter hit.typeIs (wpAny_pure ?_))
  refine wpAny_bind (wpAny_fieldsOf ho hd ?_)
  have hown : Builtin.Dict_items.ownsTuple "dict_valueiterator" = false := by decide
  simp only [hown, Bool.false_eq_true, if_false]
  show wpAny _ _ (if (Value.ref d == Value.none) = true then _ else _) _ _ s
  rw [if_neg (show ¬ ((Value.ref d == Value.none) = true) from Bool.false_ne_true)]
  refine wpAny_bind (wpAny_pure ?_)
  refine wpAny_bind (wpAny_dictEntries hod hdd ?_)
  rw [if_neg (by simp)]
  refine wpAny_bind (wpAny_pure ?_)
  refine wpAny_bind (wpAny_dictEpoch hod hdd ?_)
  rw [if_neg (by simp)]
  refine wpAny_pure ?_
  simp only [show ¬ ((i : Int) < 0) from by omega, if_false, Int.toNat_natCast, Array.getElem?_eq_getElem hlt]
  refine wpAny_bind ?_
  first | refine wpAny_bind (wpAny_typeNameOfWhole_valiter hit.typeIs (wpAny_pure ?_)) | refine wpAny_bind (wpAny_typeNameOf_valiter hit.typeIs (wpAny_pure ?_))
  refine wpAny_bind (wpAny_isOneOf_valiter hit.typeIs ?_)
  show wpAny _ _ (setField (.ref it) 1 (rawInt ((i : Int) + 1)) >>= _) _ _ s
  refine wpAny_bind (wpAny_setField ho hd (by simp) ?_)
  have hit' : (s.heap.update it (Obj.mapFields (·.setIfInBounds 1 (rawInt ((i : Int) + 1))))).IsValIter it d (i + 1) es.size ep :=
    ⟨_, Heap.get?_update_self _ ho (Obj.isFreed_of_fields (Obj.data_mapFields hd _)), (Obj.cls_mapFields ..).trans hc, by rw [Obj.data_mapFields hd]; simp [rawInt]⟩
  refine wpAny_bind (wpAny_holding ?_)
  refine wpAny_bind (wpAny_isOneOf_valiter (s := { s with heap := s.heap.update it (Obj.mapFields (·.setIfInBounds 1 (rawInt ((i : Int) + 1)))) }) hit'.typeIs ?_)
  refine wpAny_bind (wpAny_isOneOf_valiter (s := { s with heap := s.heap.update it (Obj.mapFields (·.setIfInBounds 1 (rawInt ((i : Int) + 1)))) }) hit'.typeIs ?_)
  show wpAny _ _ (pure es[i].val) _ _ _
  exact wpAny_pure (wpAny_pure ⟨_, rfl, wpAny_pure (hQ _ hit' (Heap.SameBut.update ..))⟩)
theorem e_endV {it d : Addr} {ep : Nat} {es : Array DictEntry} {Q : Option Value → Shared → Prop} (hh : A.handled = none) (hit : s.heap.IsValIter it d es.size es.size ep) (hm : EntAt s.heap d es ep)
    (hQ : ∀ h', Heap.ExtBut it s.heap h' → Q none { s with heap := h' }) : wpAny (model prog w) A (pyNext (.ref it)) Q E s := by
  obtain ⟨o, ho, hc, hd⟩ := id hit
  obtain ⟨od, hod, hcd, hdd⟩ := id hm
  unfold pyNext
  refine wpAny_bind (wpAny_attempt (wpAny_callSpecial?_slot (name := Str.ofString "__next__") hit.typeIs PySem.F.slot_dict_valueiterator_next
    (wpAny_call_entry PySem.F.slot_dict_valueiterator_next hit.typeIs PySem.F.entry_dict_valueiterator_next ?_ (PySem.F.args_dict_valueiterator_next_1 _))))
  refine wpAny_bind (wpAny_pure ?_)
  refine wpAny_bind ?_
  refine wpAny_bind ?_
  first | refine wpAny_bind (wpAny_typeNameOfWhole_valiter hit.typeIs (wpAny_pure ?_)) | refine wpAny_bind (wpAny_typeNameOf_valiter hit.typeIs (wpAny_pure ?_))
  refine wpAny_bind (wpAny_fieldsOf ho hd ?_)
  have hown : Builtin.Dict_items.ownsTuple "dict_valueiterator" = false := by decide
  simp only [hown, Bool.false_eq_true, if_false]
  show wpAny _ _ (if (Value.ref d == Value.none) = true then _ else _) _ _ s
  rw [if_neg (show ¬ ((Value.ref d == Value.none) = true) from Bool.false_ne_true)]
  refine wpAny_bind (wpAny_pure ?_)
  refine wpAny_bind (wpAny_dictEntries hod hdd ?_)
  rw [if_neg (by simp)]
  refine wpAny_bind (wpAny_pure ?_)
  refine wpAny_bind (wpAny_dictEpoch hod hdd ?_)
  rw [if_neg (by simp)]
  refine wpAny_pure ?_
  simp only [show ¬ ((es.size : Int) < 0) from by omega, if_false, Int.toNat_natCast, Array.getElem?_eq_none (Nat.le_refl es.size)]
  refine wpAny_bind ?_
  first | refine wpAny_bind (wpAny_typeNameOfWhole_valiter hit.typeIs (wpAny_pure ?_)) | refine wpAny_bind (wpAny_typeNameOf_valiter hit.typeIs (wpAny_pure ?_))
  show wpAny _ _ (setField (.ref it) 0 .none >>= _) _ _ s
  refine wpAny_bind (wpAny_setField ho hd (by simp) ?_)
  show wpAny _ _ (newExc (.type "StopIteration") [] >>= _) _ _ _
  refine wpAny_bind ?_
  simp only [newExc, newTuple]
  refine wpAny_bind (wpAny_newObj_type ?_ (by size_fits))
  refine wpAny_bind (m := firstArgMember _ _) (wpAny_of_eq (a := Value.none) (by first | rfl | (simp only [firstArgMember]; rfl)) ?_)
  refine wpAny_newObj_type ?_ (by size_fits)
  simp only [raiseNew]
  refine wpAny_bind (wpAny_handled ?_)
  rw [show A.in1.handled = none from hh]
  refine wpAny_bind (wpAny_pure (wpAny_throw ?_))
  refine wpAny_bind (wpAny_isInstance (T := "StopIteration") (b := true) ⟨_, Heap.get?_push_size _ rfl, rfl⟩ isSubtype_stop ?_)
  exact wpAny_pure (hQ _ (((Heap.SameBut.update ..).extBut.push _).push _))
theorem e_walksV (hh : A.handled = none) (I d : Addr) (hne : d ≠ I) (es : Array DictEntry) (ep : Nat) :
    Walks prog w A I [I, d] [I] es.size (fun i v => ∃ e, es[i]? = some e ∧ v = e.val) (fun i h => h.IsValIter I d i es.size ep ∧ EntAt h d es ep) where
  sub := fun b hb => by simp at hb; simp [hb]
  frame := fun _ _ _ st hk => ⟨st.1.at fun o e => hk I (by simp) o e, st.2.keeps fun o e => hk d (by simp) o e⟩
  item := fun i s Q E hi st hQ => e_itemV st.1 st.2 hi fun h' hit' hs' => hQ es[i].val h' s.toks ⟨_, Array.getElem?_eq_getElem hi, rfl⟩ ⟨hit', st.2.keeps fun o e => (hs'.extBut d o hne e)⟩ fun b o hb e => hs'.extBut b o (fun h => hb (by simp [h])) e
  done := fun s Q E st hQ => e_endV hh st.1 st.2 fun h' he' => hQ h' s.toks fun b o hb e => he' b o (fun h => hb (by simp [h])) e
  self := fun _ _ _ _ st hQ => wpAny_pyIter_valiter st.1 hQ
end
end MineV
end
section
open PySem PySem.W PyProof.Rows
namespace MineV
open MineP
set_option maxRecDepth 100000
set_option maxHeartbeats 400000
/-! a dict's values sorted, its keys listed through an own class -/
section
variable {prog : Program} {w : World} {A : Around} {E : Value → Shared → Prop} {s : Shared} {h₀ : Heap} {L d : Addr} {m : Str → Option Value} {news : List (Addr × Obj)} {od : Obj} {xs : List Ent}
theorem e_src {r d : Addr} {es : Array DictEntry} {ep : Nat} : KdlSrc prog w "dict_values" r d es.size (fun i v => ∃ e, es[i]? = some e ∧ v = e.val) (fun h => h.IsValuesView r d ∧ EntAt h d es ep) where
  type := fun _ hm => hm.1.typeIs
  there := fun _ hm => ⟨let ⟨_, ho, _⟩ := hm.1; Heap.lt_size ho, let ⟨_, ho, _⟩ := hm.2; Heap.lt_size ho⟩
  keep := fun _ _ hm hk => ⟨let ⟨o, ho, x⟩ := hm.1; ⟨o, hk r (.inl rfl) o ho, x⟩, hm.2.keeps fun o e => hk d (.inr rfl) o e⟩
  notList := by decide
  notTuple := by decide
  hint := fun _ _ _ _ hm hq => kdl_hint_values hm.1.typeIs hq
  iter := fun _ s hh hm => ⟨_, _, (fun _ _ hq => e_iterV hm.1 hm.2 hq), e_walksV hh _ d (by obtain ⟨o, ho, _⟩ := hm.2; exact Nat.ne_of_lt (Heap.lt_size ho)) es ep, ⟨⟨_, Heap.get?_push_size _ rfl, rfl, rfl⟩, hm.2.keeps fun o e => Heap.get?_push_of_some _ e⟩⟩
theorem v_values {Q : Value → Shared → Prop} (F : Fr h₀ L s.heap m) (N : News h₀ L s.heap news) (hp : (d, od) ∈ news) (hd : IsV w od xs) (lo : (d == sysModules) = false)
    (h : ∀ D h', Fr h₀ L h' m → News h₀ L h' ((D, ({ cls := .type "dict_values", data := .fields #[.ref d] } : Obj)) :: news) → (∀ q ∈ news, q.1 < D) → Q (.ref D) { s with heap := h' }) :
    wpAny (model prog w) A (call (.builtin "dict.values") [.ref d]) Q E s := by
  have hT := v_type N hp hd
  refine wpAny_call_entry PySem.F.slot_dict_values hT PySem.F.entry_dict_values ?_ (PySem.F.args_dict_values_1 _)
  refine wpAny_bind ?_
  unfold Builtin.Dict.noArgs
  refine wpAny_bind (wpAny_notOrdered_dict hT ?_)
  show wpAny _ _ (pure d) _ _ s
  refine wpAny_pure ?_
  show wpAny _ _ (Builtin.Dict.showsAll d >>= _) _ _ s
  unfold Builtin.Dict.showsAll
  rw [if_neg (by rw [lo]; exact Bool.false_ne_true)]
  refine wpAny_bind (wpAny_pure ?_)
  exact wpAny_bind (wpAny_newObj_type (wpAny_pure ⟨_, rfl, h _ _ (F.push _) (News.push F N _ rfl) fun q hq => Heap.lt_size (N q hq).1⟩))
theorem v_iter {Q : Value → Shared → Prop} (F : Fr h₀ L s.heap m) (N : News h₀ L s.heap news) (hp : (d, od) ∈ news) (hd : IsV w od xs) (lo : (d == sysModules) = false)
    (h : ∀ I h' oI es ep, Fr h₀ L h' m → News h₀ L h' ((I, oI) :: news) → (∀ q ∈ news, q.1 < I) → KdkIter oI d 0 es.size ep → (od.ExactDict ∧ od.data = .dict es ep) → es.toList = xs.map (entV w) → Q (.ref I) { s with heap := h' }) :
    wpAny (model prog w) A (call (.builtin "iter") [.ref d]) Q E s := by
  obtain ⟨hx, es, ep, hdd, he, hn⟩ := hd
  refine Calls.call_function_entry (by decide +kernel) (by decide +kernel) kdk_entry_iter (kdk_args_iter _) ?_
  unfold Builtin.«iter»
  refine wpAny_bind (m := someArgs "iter" 1 2 _) (wpAny_of_eq (a := [Value.ref d]) (by first | rfl | kernel_rfl!) ?_)
  show wpAny _ _ (pyIter (.ref d) >>= _) _ _ _
  refine wpAny_bind (e_iter lo ⟨od, (N _ hp).1, hx, hdd⟩ ?_)
  exact wpAny_pure ⟨_, rfl, h _ _ _ es ep (F.push _) (News.push F N _ rfl) (fun q hq => Heap.lt_size (N q hq).1) ⟨rfl, rfl⟩ ⟨hx, hdd⟩ he⟩
theorem sorted_valuesV {v dd : Addr} {od : Obj} {f : Addr} {ls : List Addr} {cs : List Int} {Q : Value → Shared → Prop}
    (hu : A.in1.in1.units < cLine) (hh : A.handled = none) (F : Fr h₀ L s.heap m) (N : News h₀ L s.heap news) (hv : (v, ({ cls := .type "dict_values", data := .fields #[.ref dd] } : Obj)) ∈ news) (hp : (dd, od) ∈ news) (hd : IsV w od xs)
    (h64 : xs.length < 64) (hvl : xs.length = ls.length) (hvc : xs.length = cs.length) (hkey : ∀ (i : Nat) (l : Addr) (c : Int), ls[i]? = some l → cs[i]? = some c → KeyAt news l c) (hnd : cs.Nodup)
    (turn : ∀ (i : Nat) (v : Value) (l : Addr), (xs.map (·.2.2))[i]? = some v → ls[i]? = some l → ∀ (h : Heap) (tk : Nat) (own : List (Addr × Obj)), Fr h₀ L h m → News h₀ L h (own ++ news) →
      wpAny (model prog w) A.in1.in1 (call (.ref f) [v]) (fun r s' => ∃ h' tk', r = .ref l ∧ s' = { s with heap := h', toks := tk' } ∧ Fr h₀ L h' m ∧ News h₀ L h' (own ++ news)) (fun _ _ => False) { s with heap := h, toks := tk })
    (h : ∀ D h' tk c srt, Fr h₀ L h' m → News h₀ L h' ((D, W.listOf (List.toArray (srt.map Prod.fst)) c) :: news) → (∀ q ∈ news, q.1 < D) → Srt ((xs.map (·.2.2)).zip cs) srt → Q (.ref D) { s with heap := h', toks := tk }) :
    wpAny (model prog w) A (call (.builtin "sorted") [.ref v] [(Str.ofString "key", .ref f), (Str.ofString "reverse", .bool true)]) Q E s := by
  refine call_function_entry_kw kind_sorted plain_sorted entry_sorted (ksk_s2 _ _ _) ?_
  unfold Builtin.«sorted»
  refine wpAny_bind (m := checkCount "sorted" 1 1 _) (wpAny_pure ?_)
  obtain ⟨hx, es, ep, hdd, he, hn⟩ := hd
  have hsz := ent_size he
  refine wpAny_bind (kdu_collect (A := A.in1) (e_src (es := es) (ep := ep)) hh ⟨⟨_, (N _ hv).1, rfl, rfl⟩, ⟨od, (N _ hp).1, hx, hdd⟩⟩ (by rw [sizeLine_eq]; omega) fun h' tk acc hk hacc => ?_)
  have hl : acc.toList.length = xs.length := by rw [Array.length_toList, hacc.1, hsz]
  have hvs : acc.toList = xs.map (·.2.2) := by
    apply List.ext_getElem?
    intro i
    rw [List.getElem?_map]
    cases hi : acc.toList[i]? with
    | none =>
      have : acc.toList.length ≤ i := List.getElem?_eq_none_iff.mp hi
      rw [List.getElem?_eq_none (by omega)]; rfl
    | some a =>
      obtain ⟨e, e1, e2⟩ := hacc.2 i a (by rw [← Array.getElem?_toList]; exact hi)
      rw [ent_at he i] at e1
      obtain ⟨x, ex, e3⟩ := Option.map_eq_some_iff.mp e1
      rw [ex]
      rw [e2, ← e3]; rfl
  rw [hvs]
  have F' := F.keeps hk
  have N' : News h₀ L h' news := fun q hq => ⟨hk _ _ (N q hq).1, (N q hq).2⟩
  refine wpAny_bind (wpAny_newList ?_ (by rw [List.length_map, sizeLine_eq]; omega))
  have hD := News.push F' N' (seqObj "list" (xs.map (·.2.2)).toArray 0)
  have hDlt : ∀ q ∈ news, q.1 < h'.objs.size := fun q hq => Heap.lt_size (N' q hq).1
  have hoL : (h'.push (seqObj "list" (xs.map (·.2.2)).toArray 0)).get? h'.objs.size = some (seqObj "list" (xs.map (·.2.2)).toArray 0) := (hD _ (.head _)).1
  refine wpAny_bind (wpAny_holding (wpAny_call_entry_kw slot_list_sort ⟨_, hoL, rfl⟩ entry_list_sort ?body (ksk_l2 _ _ _)))
  case body =>
    show wpAny (model prog w) A.in1.in1 (Builtin.«list.sort» ⟨[.ref h'.objs.size], [(Str.ofString "key", .ref f), (Str.ofString "reverse", .bool true)]⟩) _ _ _
    rw [ksk_t2]
    refine tree_run (s := { s with heap := h'.push (seqObj "list" (xs.map (·.2.2)).toArray 0), toks := tk }) (ls := ls) (cs := cs) hu (F'.push _) (fun q hq => hD q (.tail _ hq)) hoL (hD _ (.head _)).2.1 (hD _ (.head _)).2.2
      (fun q hq => Nat.ne_of_lt (hDlt q hq)) (by rw [List.length_map]; exact h64) (by rw [List.length_map]; exact hvl) (by rw [List.length_map]; exact hvc) hkey hnd turn fun h4 tk4 c4 srt F4 N4 hs => ?_
    exact ⟨_, rfl, wpAny_pure ⟨_, rfl, h _ h4 tk4 c4 srt F4 N4 hDlt hs⟩⟩
end
end MineV
end
section
open PySem PySem.W PyProof.Rows
namespace MineV
set_option maxRecDepth 100000
set_option maxHeartbeats 400000
/-! list(x) of an own class whose __iter__ hands a dict's iterator out -/
section
variable {prog : Program} {w : World} {A : Around} {E : Value → Shared → Prop} {s : Shared} {h₀ : Heap} {L a c fi fl dd C S : Addr} {m : Str → Option Value} {news : List (Addr × Obj)} {K : Frag} {oc od : Obj} {ox : Option Obj} {es : Array DictEntry} {ep : Nat}
theorem own_extend {R : Result → Shared → Prop} {res : Value} {c0 : Nat} (hh : A.handled = none) (F : Fr h₀ L s.heap m) (N : News h₀ L s.heap ((S, ({ cls := .type "list", data := .seq #[] c0 } : Obj)) :: news)) (hlt : ∀ q ∈ news, q.1 < S) (X₀ : K.In h₀) (hI : ∀ h, News h₀ L h news → InstAt h c oc C ox)
    (hdm : (dd, od) ∈ news) (hod : od.ExactDict ∧ od.data = .dict es ep)
    (hs1 : findIn K (.ref C) "__iter__" = some (some (.ref fi))) (hf1 : isFn K (.ref fi) = true) (hs2 : findIn K (.ref C) "__len__" = some (some (.ref fl)))
    (hcm : ∃ o, (c, o) ∈ news) (hn : es.size ≤ 1000)
    (ci : ∀ (s1 : Shared) news1 (Q' E' : Value → Shared → Prop), (∀ q ∈ news, q ∈ news1) → Fr h₀ L s1.heap m → News h₀ L s1.heap news1 →
      (∀ h' tk' I o, Fr h₀ L h' m → News h₀ L h' ((I, o) :: news1) → (∀ q ∈ news1, q.1 < I) → KdkIter o dd 0 es.size ep → Q' (.ref I) { s1 with heap := h', toks := tk' }) → wpAny (model prog w) A.in1 (call (.ref fi) [.ref c]) Q' E' s1)
    (cl : ∀ (s1 : Shared) news1 (Q' E' : Value → Shared → Prop), (∀ q ∈ news, q ∈ news1) → Fr h₀ L s1.heap m → News h₀ L s1.heap news1 →
      (∀ h' tk' t', Fr h₀ L h' m → News h₀ L h' news1 → Q' (.int es.size t') { s1 with heap := h', toks := tk' }) → wpAny (model prog w) A.in1 (call (.builtin "len") [.ref c]) Q' E' s1)
    (hR : ∀ h' tk' e, Fr h₀ L h' m → News h₀ L h' ((S, W.listOf (es.toList.map (·.key)).toArray e) :: news) → R (.ok (.ret res)) { s with heap := h', toks := tk' }) :
    wpAny (model prog w) A.in1 (Builtin.List.listExtendWith (.ref S) (.ref c) res) (fun fin s' => match fin with | .done f => R (.ok f) s' | .again c' => c'.quiet = true ∧ codeAny (model prog w) A c' R s') (fun e s' => R (.error e) s') s := by
  unfold Builtin.List.listExtendWith
  obtain ⟨oc', hcm⟩ := hcm
  have hne : S ≠ c := Nat.ne_of_gt (hlt _ hcm)
  refine wpAny_bind ((hI _ fun q hq => N q (.tail _ hq)).type.here ?_)
  have h1 : Builtin.List.listSameRef (.ref S) (.ref c) = false := by simp [Builtin.List.listSameRef, hne]
  have h2 : (Value.ref C == Value.type "list") = false := rfl
  have h3 : (Value.ref C == Value.type "tuple") = false := rfl
  simp only [h1, h2, h3, Bool.or_false, Bool.false_eq_true, if_false]
  refine wpAny_bind (owit_iter F X₀ (hI _ fun q hq => N q (.tail _ hq)) hs1 hf1 (ci _ _ _ _ (fun q hq => .tail _ hq) F N fun h2 tk2 I oI F2 N2 hI2 hit => ?_))
  unfold OwitIt
  have hit2 := KdkIter.at hit (N2 _ (.head _)).1
  refine wpAny_specialOf hit2.typeIs PySem.F.slot_dict_keyiterator_next.lookup ?_
  refine wpAny_bind (wpAny_holding ?_)
  unfold Builtin.List.listLengthHint
  refine wpAny_bind ?_
  unfold specialOf
  have N2' : News h₀ L h2 news := fun q hq => N2 q (.tail _ (.tail _ hq))
  refine wpAny_bind ((hI _ N2').type.here ((looks_findIn (X₀.keeps F2.keep) hs2).here ?_))
  dsimp only
  refine wpAny_ite_split (fun hab => (Bool.false_ne_true hab).elim) (fun _ => ?_)
  refine wpAny_ite_split (fun _ => ?_) (fun hab => absurd rfl hab)
  refine wpAny_bind (wpAny_rule ?_)
  refine wpAny_bind (wpAny_attempt (cl { s with heap := h2, toks := tk2 } _ _ _ (fun q hq => .tail _ (.tail _ hq)) F2 N2 fun h3 tk3 t3 F3 N3 => ?_))
  dsimp only
  refine wpAny_bind (wpAny_pure ?_)
  dsimp only
  have hbig : ¬ Builtin.List.listTooLong (es.size : Int).toNat = true := by
    unfold Builtin.List.listTooLong
    rw [sizeLine_eq, decide_eq_true_eq, Int.toNat_natCast]; omega
  rw [if_neg hbig]
  refine wpAny_pure ?_
  have hSm := N3 (S, ({ cls := .type "list", data := .seq #[] c0 } : Obj)) (.tail _ (.head _))
  have hit3 := KdkIter.at hit (N3 _ (.head _)).1
  have hat3 : EntAt h3 dd es ep := ⟨od, (N3 (dd, od) (.tail _ (.tail _ hdm))).1, hod.1, hod.2⟩
  have hdI : dd ≠ I := Nat.ne_of_lt (hI2 _ (.tail _ hdm))
  have hSI : S ≠ I := Nat.ne_of_lt (hI2 _ (.head _))
  have hSd : S ≠ dd := Nat.ne_of_gt (hlt _ hdm)
  have hSf : S ∉ [I, dd] := by simp [hSI, hSd]
  have key : ∀ (h : Heap) (c₁ tk : Nat), (∀ b o, b ≠ S → h3.get? b = some o → h.get? b = some o) → h.get? S = some { cls := .type "list", data := .seq #[] c₁ } →
      codeAny (model prog w) A (.builtin "list.extend.loop" ⟨[.ref S, .ref I, res], []⟩) R { s with heap := h, toks := tk } := by
    intro h c₁ tk hk hS₁
    refine codeAny_extend_loopS (e_walksK (A := A.in1) hh I dd hdI es ep).toS (by rw [sizeLine_eq]; omega) S hSf res es.size 0 _ #[] c₁ rfl (Nat.zero_le _) ⟨hit3.at fun o e => hk I o (Ne.symm hSI) e, hat3.keeps fun o e => hk dd o (Ne.symm hSd) e⟩ hS₁ (ItemsOf.nil _) fun s' acc' c' hm hS' hacc => ?_
    rw [Moved.eq_with hm]
    have hkp : ∀ b o, b ≠ S → b ≠ I → h3.get? b = some o → s'.heap.get? b = some o := fun b o b1 b2 e => hm.heap b o (by simp [b1, b2]) (hk b o b1 e)
    have hvs : acc'.toList = es.toList.map (·.key) := by
      apply List.ext_getElem?
      intro i
      rw [List.getElem?_map]
      cases hi : acc'.toList[i]? with
      | none =>
        have e1 : acc'.toList.length ≤ i := List.getElem?_eq_none_iff.mp hi
        have e2 : acc'.toList.length = es.size := by rw [Array.length_toList, hacc.1]
        rw [List.getElem?_eq_none (by rw [Array.length_toList]; omega)]; rfl
      | some v =>
        obtain ⟨e, e1, e2⟩ := hacc.2 i v (by rw [← Array.getElem?_toList]; exact hi)
        rw [Array.getElem?_toList, e1, e2]; rfl
    have hIL := (N3 _ (.head _)).2
    have hSL := hSm.2
    refine hR s'.heap s'.toks c' ⟨?_, fun b x e => hkp b x (fun e2 => by rw [e2] at e; have := hSL.2; dsimp only at this; rw [this] at e; cases e) (fun e2 => by rw [e2] at e; have := hIL.2; dsimp only at this; rw [this] at e; cases e) (F3.keep b x e), F3.above⟩ (fun p hp => ?_)
    · obtain ⟨oL, es', eL, hoL, r⟩ := F3.ns
      exact ⟨oL, es', eL, hkp L oL (Ne.symm hSL.1) (Ne.symm hIL.1) hoL, r⟩
    · rcases List.mem_cons.mp hp with rfl | hp
      · refine ⟨?_, hSL⟩
        rw [← hvs, Array.toArray_toList]
        exact hS'
      · have q := N3 p (.tail _ (.tail _ hp))
        exact ⟨hkp _ _ (Nat.ne_of_lt (hlt p hp)) (Nat.ne_of_lt (hI2 p (.tail _ hp))) q.1, q.2⟩
  refine wpAny_ite_split (fun _ => ?_) (fun _ => wpAny_pure ⟨plainId_quiet PySem.F.plain_extend_loop _, key h3 _ tk3 (fun b o _ e => e) hSm.1⟩)
  refine wpAny_bind (wpAny_rule ?_)
  refine wpAny_bind ?_
  show wpAny _ _ (updateSeq S (·.push .none) >>= fun _ => updateSeq S (·.pop)) _ _ _
  refine wpAny_bind (wpAny_updateSeq hSm.1 rfl ?_)
  have hS₂ := Heap.get?_update_self (Obj.mapSeq (·.push Value.none)) hSm.1 rfl
  refine wpAny_updateSeq (hz := by seq_fits) hS₂ rfl ?_
  have hS₃ := Heap.get?_update_self (Obj.mapSeq (·.pop)) hS₂ rfl
  refine wpAny_pure ⟨plainId_quiet PySem.F.plain_extend_loop _, key _ _ _ (fun b o hb e => ?_) hS₃⟩
  exact (Heap.get?_update_other _ _ (Ne.symm hb)).trans ((Heap.get?_update_other _ _ (Ne.symm hb)).trans e)
theorem v_method {xs : List Ent} {name : Str} {id : String} {pl : Sem Bool} {Q : Value × List Value → Shared → Prop} (slot : Slot "dict" name id) (hty : typeOf (.builtin id) = pure (.type "method_descriptor")) (N : News h₀ L s.heap news) (hp : (dd, od) ∈ news) (hd : IsV w od xs)
    (h : Q (.builtin id, [.ref dd]) s) : wpAny (model prog w) A (getMethod (.ref dd) name pl) Q E s :=
  getMethod_builtin (v_type N hp hd) PySem.F.plainAttrs_dict slot hty (fun a e => by cases e; exact ⟨od, (N _ hp).1, hd.1.2.1⟩) h
theorem own_list {Q : Value → Shared → Prop} (hh : A.handled = none) (F : Fr h₀ L s.heap m) (N : News h₀ L s.heap news) (X₀ : K.In h₀) (hI : ∀ h, News h₀ L h news → InstAt h c oc C ox)
    (hdm : (dd, od) ∈ news) (hod : od.ExactDict ∧ od.data = .dict es ep)
    (hs1 : findIn K (.ref C) "__iter__" = some (some (.ref fi))) (hf1 : isFn K (.ref fi) = true) (hs2 : findIn K (.ref C) "__len__" = some (some (.ref fl)))
    (hcm : ∃ o, (c, o) ∈ news) (hn : es.size ≤ 1000)
    (ci : ∀ (s1 : Shared) news1 (Q' E' : Value → Shared → Prop), (∀ q ∈ news, q ∈ news1) → Fr h₀ L s1.heap m → News h₀ L s1.heap news1 →
      (∀ h' tk' I o, Fr h₀ L h' m → News h₀ L h' ((I, o) :: news1) → (∀ q ∈ news1, q.1 < I) → KdkIter o dd 0 es.size ep → Q' (.ref I) { s1 with heap := h', toks := tk' }) → wpAny (model prog w) A.in1.in1 (call (.ref fi) [.ref c]) Q' E' s1)
    (cl : ∀ (s1 : Shared) news1 (Q' E' : Value → Shared → Prop), (∀ q ∈ news, q ∈ news1) → Fr h₀ L s1.heap m → News h₀ L s1.heap news1 →
      (∀ h' tk' t', Fr h₀ L h' m → News h₀ L h' news1 → Q' (.int es.size t') { s1 with heap := h', toks := tk' }) → wpAny (model prog w) A.in1.in1 (call (.builtin "len") [.ref c]) Q' E' s1)
    (h : ∀ D h' tk' e, Fr h₀ L h' m → News h₀ L h' ((D, W.listOf (es.toList.map (·.key)).toArray e) :: news) → (∀ q ∈ news, q.1 < D) → Q (.ref D) { s with heap := h', toks := tk' }) :
    wpAny (model prog w) A (call (.type "list") [.ref c]) Q E s := by
  refine callType_codes (Q₁ := fun obj s₁ => obj = .ref s.heap.objs.size ∧ s₁ = { s with heap := s.heap.push { cls := .type "list", data := .seq #[] } }) PySem.F.called_list (PySem.F.typeCall_list_1 _) PySem.F.entry_list_init
    (code_list_new _ ⟨rfl, rfl⟩) fun obj s₁ h₁ => ?_
  obtain ⟨rfl, rfl⟩ := h₁
  have hlt : ∀ q ∈ news, q.1 < s.heap.objs.size := fun q hq => Heap.lt_size (N q hq).1
  have N1 := News.push F N (seqObj "list" #[] 0)
  have F1 := F.push (seqObj "list" #[] 0)
  have hS := (N1 _ (.head _)).1
  refine ⟨⟨_, hS, rfl⟩, PySem.F.args_list_init_2 _ _, ?_⟩
  generalize hSz : s.heap.objs.size = S at *
  show wpAny _ _ (do let old ← Builtin.List.listItems (.ref S); Builtin.List.listUpdate (.ref S) (fun _ => #[]); letGo old.toList.reverse; Builtin.List.listExtendWith (.ref S) (.ref c) .none) _ _ _
  refine wpAny_bind ?_
  unfold Builtin.List.listItems
  refine wpAny_bind (wpAny_seqItems hS rfl (wpAny_pure ?_))
  show wpAny _ _ (updateSeq S (fun _ => #[]) >>= fun _ => letGo (#[] : Array Value).toList.reverse >>= fun _ => Builtin.List.listExtendWith (.ref S) (.ref c) .none) _ _ _
  refine wpAny_bind (wpAny_updateSeq hS rfl ?_)
  have s2 := Heap.SameBut.update (s.heap.push (seqObj "list" #[] 0)) S (Obj.mapSeq (fun _ => (#[] : Array Value)))
  obtain ⟨c2, hc2⟩ : ∃ c2, ((s.heap.push (seqObj "list" #[] 0)).update S (Obj.mapSeq (fun _ => (#[] : Array Value)))).get? S = some (seqObj "list" #[] c2) := ⟨_, get?_update_seq hS fun _ => #[]⟩
  have hSL := (N1 _ (.head _)).2
  have F2 := kas_fr F1 s2 hSL.1 hSL.2
  have N2 : News h₀ L ((s.heap.push (seqObj "list" #[] 0)).update S (Obj.mapSeq (fun _ => (#[] : Array Value)))) ((S, ({ cls := .type "list", data := .seq #[] c2 } : Obj)) :: news) := fun p hp => by
    rcases List.mem_cons.mp hp with rfl | hp
    · exact ⟨hc2, hSL⟩
    · exact kas_news (fun q hq => N1 q (.tail _ hq)) s2 (fun q hq => Nat.ne_of_lt (hlt q hq)) p hp
  refine wpAny_bind (wpAny_letGo ?_)
  refine own_extend (A := A.in1) (s := { s with heap := (s.heap.push (seqObj "list" #[] 0)).update S (Obj.mapSeq (fun _ => (#[] : Array Value))) }) hh F2 N2 hlt X₀ hI hdm hod hs1 hf1 hs2 hcm hn ci cl fun h' tk' e F' N' => ?_
  exact ⟨rfl, h S h' tk' e F' N' hlt⟩
end
end MineV
end
section
open PySem PySem.W PySem.SeqAt PyProof.Rows
namespace MineV
set_option maxRecDepth 100000
set_option maxHeartbeats 400000
abbrev KL := List (Key × Value)
def KLN (news : List (Addr × Obj)) (xs : KL) : Prop := ∀ p ∈ xs, KeyN news p.1 p.2
abbrev kvals (xs : KL) : List Value := xs.map (·.2)
abbrev kkeys (xs : KL) : List Key := xs.map (·.1)
def hasK (xs : KL) (k : Key) : Bool := xs.any fun p => decide (p.1 = k)
section
variable {prog : Program} {w : World} {A : Around} {E : Value → Shared → Prop} {s : Shared} {h₀ : Heap} {L d l b : Addr} {m : Str → Option Value} {news : List (Addr × Obj)} {k k' : Key} {kv u v : Value} {xs ys : KL} {ep ep' : Nat}
theorem KLN.mono {news' : List (Addr × Obj)} (x : KLN news xs) (h : ∀ q ∈ news, q.2.cls = .type "tuple" → q ∈ news') : KLN news' xs := fun p hp => (x p hp).mono h
theorem KLN.sub (x : KLN news xs) (h : ∀ p ∈ ys, p ∈ xs) : KLN news ys := fun p hp => x p (h p hp)
theorem key_eqAt (hu : A.units < cLine) (h1 : KeyIn s.heap k u) (h2 : KeyIn s.heap k' v) : EqAt A s u v (decide (k = k')) := fun _ _ _ _ h => v_eq hu h1 h2 h
theorem ints_alls : ∀ {us vs : List Value} {ns ms : List Int}, IntsAre us ns → IntsAre vs ms → ∀ j (h1 : j < us.length) (h2 : j < vs.length), EqAt A s us[j] vs[j] (decide (ns[j]? = ms[j]?))
  | _, _, _, _, .nil, _, j, h1, _ => absurd h1 (by simp)
  | _, _, _, _, _, .nil, j, _, h2 => absurd h2 (by simp)
  | _, _, _, _, .cons n t r, .cons m u q, 0, h1, h2 => by
    simp only [List.getElem_cons_zero, List.getElem?_cons_zero, Option.some.injEq]
    exact EqAt.int_int n t m u
  | _, _, _, _, .cons n t r, .cons m u q, j + 1, h1, h2 => by
    simp only [List.getElem_cons_succ, List.getElem?_cons_succ]
    exact ints_alls r q j _ _
theorem ints_len : ∀ {us : List Value} {ns : List Int}, IntsAre us ns → us.length = ns.length
  | _, _, .nil => rfl
  | _, _, .cons _ _ r => by simp [ints_len r]
theorem all_getElem {ns ms : List Int} : ((List.range (min ns.length ms.length)).all (fun j => decide (ns[j]? = ms[j]?)) && ns.length == ms.length) = decide (ns = ms) := by
  rw [Bool.eq_iff_iff]
  simp only [Bool.and_eq_true, List.all_eq_true, List.mem_range, decide_eq_true_eq, beq_iff_eq]
  constructor
  · rintro ⟨h, hl⟩
    apply List.ext_getElem?
    intro j
    by_cases hj : j < min ns.length ms.length
    · exact h j hj
    · rw [List.getElem?_eq_none (by omega), List.getElem?_eq_none (by omega)]
  · rintro rfl
    exact ⟨fun _ _ => rfl, rfl⟩
theorem key_ne {Q : Value → Shared → Prop} (hu : A.units < cLine) (h1 : KeyIn s.heap k u) (h2 : KeyIn s.heap k' v) (h : Q (.bool (decide (k ≠ k'))) s) : wpAny (model prog w) A (compareOp .NotEq u v) Q E s := by
  have no : ∀ {k k' : Key}, k ≠ k' → decide (k ≠ k') = true := fun h => decide_eq_true h
  show wpAny _ _ (richCompare .NotEq u v) _ _ _
  rcases k with x | n | ns <;> rcases k' with y | m | ms
  · obtain ⟨t, rfl⟩ := h1; obtain ⟨t', rfl⟩ := h2
    have e : decide ((Sum.inl x : Key) ≠ Sum.inl y) = (!(x == y)) := by by_cases hxy : x = y <;> simp [hxy]
    rw [e] at h; exact RcNeAt.str_str x t y t' prog w E Q h
  · obtain ⟨t, rfl⟩ := h1; obtain ⟨t', rfl⟩ := h2
    rw [no (by simp)] at h; exact RcNeAt.str_int x t m t' prog w E Q h
  · obtain ⟨t, rfl⟩ := h1; obtain ⟨a, rfl, ht⟩ := h2
    obtain ⟨its, hi⟩ := ht.tuple
    rw [no (by simp)] at h; exact RcNeAt.str_tuple x t hi hu prog w E Q h
  · obtain ⟨t, rfl⟩ := h1; obtain ⟨t', rfl⟩ := h2
    rw [no (by simp)] at h; exact RcNeAt.int_str n t y t' prog w E Q h
  · obtain ⟨t, rfl⟩ := h1; obtain ⟨t', rfl⟩ := h2
    have e : decide ((Sum.inr (Sum.inl n) : Key) ≠ Sum.inr (Sum.inl m)) = (!(n == m)) := by by_cases hxy : n = m <;> simp [hxy]
    rw [e] at h; exact RcNeAt.int_int n t m t' prog w E Q h
  · obtain ⟨t, rfl⟩ := h1; obtain ⟨a, rfl, ht⟩ := h2
    obtain ⟨its, hi⟩ := ht.tuple
    rw [no (by simp)] at h; exact RcNeAt.int_tuple n t hi hu prog w E Q h
  · obtain ⟨a, rfl, ht⟩ := h1; obtain ⟨t', rfl⟩ := h2
    obtain ⟨its, hi⟩ := ht.tuple
    rw [no (by simp)] at h; exact RcNeAt.tuple_str y t' hi hu prog w E Q h
  · obtain ⟨a, rfl, ht⟩ := h1; obtain ⟨t', rfl⟩ := h2
    obtain ⟨its, hi⟩ := ht.tuple
    rw [no (by simp)] at h; exact RcNeAt.tuple_int m t' hi hu prog w E Q h
  · obtain ⟨a, rfl, o, items, n, ho, hc, hd, hi⟩ := h1; obtain ⟨a', rfl, o', items', n', ho', hc', hd', hi'⟩ := h2
    refine RcNeAt.tuples (e := fun j => decide (ns[j]? = ms[j]?)) ⟨o, ho, hc, n, hd⟩ ⟨o', ho', hc', n', hd'⟩ hu (fun j h1 h2 => ?_) prog w E Q ?_
    · exact ints_alls hi hi' j (by simpa using h1) (by simpa using h2)
    · have e1 : items.size = ns.length := by have := ints_len hi; simpa using this
      have e2 : items'.size = ms.length := by have := ints_len hi'; simpa using this
      have e : decide ((Sum.inr (Sum.inr ns) : Key) ≠ Sum.inr (Sum.inr ms)) = (!decide (ns = ms)) := by by_cases hxy : ns = ms <;> simp [hxy]
      rw [e1, e2, all_getElem, ← e]; exact h
theorem kl_any (N : News h₀ L s.heap news) (hx : KLN news xs) (hk : KeyN news k v) : ∃ e : Value → Bool, (∀ A : Around, A.units < cLine → ∀ y, y ∈ (kvals xs).toArray → EqAt A s y v (e y)) ∧ (kvals xs).toArray.any e = hasK xs k := by
  classical
  refine ⟨fun y => decide (KeyIn s.heap k y), fun A hu y hy => ?_, ?_⟩
  · obtain ⟨p, hp, rfl⟩ := List.mem_map.mp (by simpa using hy : y ∈ kvals xs)
    have q := (hx p hp).inH N
    have e : decide (KeyIn s.heap k p.2) = decide (p.1 = k) := decide_eq_decide.mpr ⟨fun h => q.inj h, fun h => h ▸ q⟩
    show EqAt A s p.2 v (decide (KeyIn s.heap k p.2))
    rw [e]; exact key_eqAt hu q (hk.inH N)
  · rw [Bool.eq_iff_iff]
    simp only [hasK, List.any_toArray, List.any_eq_true, List.mem_map, decide_eq_true_eq]
    constructor
    · rintro ⟨y, ⟨p, hp, rfl⟩, hy⟩
      exact ⟨p, hp, ((hx p hp).inH N).inj hy⟩
    · rintro ⟨p, hp, rfl⟩
      exact ⟨p.2, ⟨p, hp, rfl⟩, (hx p hp).inH N⟩
theorem kl_isList {vs : List Value} (N : News h₀ L s.heap news) (hl : (l, W.listOf vs.toArray ep) ∈ news) : s.heap.IsList l vs.toArray := ⟨_, (N _ hl).1, rfl, _, rfl⟩
theorem kl_in {Q : Value → Shared → Prop} (hu : A.units + 1 < cLine) (N : News h₀ L s.heap news) (hl : (l, W.listOf (kvals xs).toArray ep) ∈ news) (hx : KLN news xs) (hk : KeyN news k v)
    (h : Q (.bool (hasK xs k)) s) : wpAny (model prog w) A (compareOp .In v (.ref l)) Q E s := by
  obtain ⟨e, h1, h2⟩ := kl_any N hx hk
  rw [← h2] at h
  exact in_listAt e (kl_isList N hl) (h1 _ hu) h
theorem kl_notIn {Q : Value → Shared → Prop} (hu : A.units + 1 < cLine) (N : News h₀ L s.heap news) (hl : (l, W.listOf (kvals xs).toArray ep) ∈ news) (hx : KLN news xs) (hk : KeyN news k v)
    (h : Q (.bool (!hasK xs k)) s) : wpAny (model prog w) A (compareOp .NotIn v (.ref l)) Q E s := by
  obtain ⟨e, h1, h2⟩ := kl_any N hx hk
  rw [← h2] at h
  exact notIn_listAt e (kl_isList N hl) (h1 _ hu) h
theorem kl_ne_same {Q : Value → Shared → Prop} (hu : A.units + 1 < cLine) (N : News h₀ L s.heap news) (hl : (l, W.listOf (kvals xs).toArray ep) ∈ news) (hb : (b, W.listOf (kvals ys).toArray ep') ∈ news) (hx : KLN news xs) (hy : KLN news ys) (he : kkeys xs = kkeys ys)
    (h : Q (.bool false) s) : wpAny (model prog w) A (compareOp .NotEq (.ref l) (.ref b)) Q E s := by
  have hlen : xs.length = ys.length := by have := congrArg List.length he; simpa using this
  refine RcNeAt.lists (e := fun _ => true) (kl_isList N hl) (kl_isList N hb) (by simp [hlen]) (by omega) (fun j h1 h2 => ?_) prog w E Q ?_
  · have g1 : j < xs.length := by simpa using h1
    have g2 : j < ys.length := by simpa using h2
    have e1 : (kkeys xs)[j]? = (kkeys ys)[j]? := by rw [he]
    simp only [List.getElem?_map, List.getElem?_eq_getElem g1, List.getElem?_eq_getElem g2, Option.map_some, Option.some.injEq] at e1
    have q := key_eqAt (A := A.in1) hu ((hx _ (List.getElem_mem g1)).inH N) ((hy _ (List.getElem_mem g2)).inH N)
    rw [e1, decide_eq_true rfl] at q
    simpa using q
  · have e : (List.range (kvals xs).toArray.size).all (fun _ => true) = true := by simp
    rw [e]; exact h
theorem kl_rcAt (hu : A.units + 1 < cLine) (N : News h₀ L s.heap news) (hl : (l, W.listOf (kvals xs).toArray ep) ∈ news) (hb : (b, W.listOf (kvals ys).toArray ep') ∈ news) (hx : KLN news xs) (hy : KLN news ys) (he : kkeys xs = kkeys ys) :
    RcAt A s (.ref l) (.ref b) true := by
  have hlen : xs.length = ys.length := by have := congrArg List.length he; simpa using this
  have q := RcAt.lists (A := A) (s := s) (e := fun _ => true) (kl_isList N hl) (kl_isList N hb) (by simp [hlen]) (by omega) (fun j h1 h2 => by
    have g1 : j < xs.length := by simpa using h1
    have g2 : j < ys.length := by simpa using h2
    have e1 : (kkeys xs)[j]? = (kkeys ys)[j]? := by rw [he]
    simp only [List.getElem?_map, List.getElem?_eq_getElem g1, List.getElem?_eq_getElem g2, Option.map_some, Option.some.injEq] at e1
    have q := key_eqAt (A := A.in1) hu ((hx _ (List.getElem_mem g1)).inH N) ((hy _ (List.getElem_mem g2)).inH N)
    rw [e1, decide_eq_true rfl] at q
    simpa using q)
  have e : (List.range (kvals xs).toArray.size).all (fun _ => true) = true := by simp
  rw [e] at q; exact q
/-- an item of a list of keys, at an index that is not known -/
theorem kl_item {i : Int} {t : Tok} {Q : Value → Shared → Prop} (N : News h₀ L s.heap news) (hl : (l, W.listOf (kvals xs).toArray ep) ∈ news) (hx : KLN news xs) (h0 : 0 ≤ i) (h1 : i < xs.length) (hsz : xs.length ≤ 1000)
    (h : ∀ k v, (k, v) ∈ xs → KeyN news k v → Q v s) : wpAny (model prog w) A (getItem (.ref l) (.int i t)) Q E s := by
  have hlt : i.toNat < xs.length := by omega
  have hm := List.getElem_mem hlt
  refine wpAny_getItem_list (x := xs[i.toNat].2) (kl_isList N hl) h0 (by omega) ?_ (h xs[i.toNat].1 xs[i.toNat].2 hm (hx _ hm))
  simp [hlt]
theorem kl_item_tail {value slice : PySem.Expr} {i : Int} {t : Tok} {Q : Value → Shared → Prop} (N : News h₀ L s.heap news) (hl : (l, W.listOf (kvals xs).toArray ep) ∈ news) (hx : KLN news xs) (h0 : 0 ≤ i) (h1 : i < xs.length) (hsz : xs.length ≤ 1000)
    (h : ∀ k v, (k, v) ∈ xs → KeyN news k v → Q v s)
    (hs : subscripted slice false (.ref l) (.int i t) = operate [.ref l, .int i t] (getItem (.ref l) (.int i t)) := by with_unfolding_all rfl) :
    wpAny (model prog w) A (subscriptTail value slice (.ref l) (.int i t)) Q E s :=
  tail_any (kl_isList N hl).typeIs slot_list_getitem.lookup (kl_item N hl hx h0 h1 hsz h) hs
end
end MineV
end
section
open PySem PySem.W PySem.Calls PyProof.Rows
namespace MineV
set_option maxRecDepth 100000
set_option maxHeartbeats 400000
section
variable {prog : Program} {w : World} {A₀ : Around} {E : Value → Shared → Prop} {s : Shared} {h₀ h : Heap} {L e : Addr} {m : Str → Option Value} {env : Env} {b₀ : Stmt} {suite : List Stmt} {pos np : Pos} {rest : List ExceptHandler} {Q : Flow → Shared → Prop} {news : List (Addr × Obj)}
  {p : Program} {loose : List Str} {mean : ExcName → Option Value} {mg mb : Str → Option Value}
/-- «except KeyError:» in a frame that holds cells (the law's own): what flew is caught, the ledger stands -/
theorem caught_key (hfr : env.frame = some L) (hge : env.globals = mainGlobals) (hbe : env.builtins = builtinsNs) (K : Below A₀ h₀ [] h₀) (F : Fr h₀ L h m) (hsm : h.UpToSlots s.heap) (R : RaisedN h₀ [env] e (.type "KeyError") news s.heap) (T : Top p loose mean mg mb h₀)
    {KF : Frag} (X : KF.In h₀) (ex : nsIn KF mainGlobals (Str.ofString "KeyError") = some none)
    (k : ∀ h', Fr h₀ L h' m → News h₀ L h' news → wpAny (model prog w) ((A₀.deeper env).mark (some (.ref e))) (execs (b₀ :: suite) env) Q E { s with heap := h' })
    (hk : env.scope.kind = .function := by rfl) (hx : env.kindOf (Str.ofString "KeyError") = some .globalImplicit := by rfl)
    (hE : PassesOwnAt (model prog w) ((A₀.deeper env).mark (some (.ref e))) (A₀.deeper env) env E := by passes_own) :
    wpAny (model prog w) (A₀.deeper env) (noteFrame (.ref e) env)
      (fun _ s₂ => wpAny (model prog w) (A₀.deeper env) (setFlight (.ref e) none) (fun _ s₃ =>
        wpAny (model prog w) (A₀.deeper env) (handleBy (.ref e) env (.ExceptHandler (some (.Name (Str.ofString "KeyError") np)) none (b₀ :: suite) pos :: rest)) Q E s₃) E s₂) E s := by
  obtain ⟨B, a0, stB, led, fly⟩ := R
  have Tr : TopRead p loose mg mb h₀ := topRead_of T
  have noL : B.get? L = none := by
    obtain ⟨-, -, ⟨-, ⟨L', -, hL', hn, -⟩, -⟩, -⟩ := fly
    rw [hfr] at hL'
    rw [Option.some.inj hL']; exact hn
  refine wpAny_looks_onW (Around.frames_deeper K.stack) hfr fly fun h1 held1 u1 => wpAny_landsW held1 fun h2 fly2 u2 => ?_
  have up2 := hsm.trans (u1.trans u2)
  have fly2' := flyingW_base stB fly2
  have F2 := F.of_stays fly2'.1 up2
  obtain ⟨ob, gob, cob⟩ := fly2'.there
  refine wpAny_handleBy_builtin (X := "KeyError") (T := "KeyError") (b := true) kr_isExc_KeyError kr_notTuple_KeyError (by rw [isSubtype_type]; kernel_rfl) ?_
  refine Calls.Name_function_global hk hx (Calls.loadGlobal_builtin (mg := mg) (mb := mb) (by rw [hge]; exact Tr.g.keeps F2.keep) (mg_none_of X Tr.g ex) (by rw [hbe]; exact Tr.b.keeps F2.keep) ((Tr.builtins _ (by decide)).trans PyProof.Rows.Boot.«KeyError») ⟨rfl, ⟨ob, gob, cob⟩, ?_⟩) (by decide)
  refine lands_againW fly2 fun h3 fly3 u3 => wpAny_passesOwnAt hE (k h3 (F.of_stays (flyingW_base stB fly3).1 (up2.trans u3)) fun q hq => ⟨fly3.1 _ _ (led q hq).1, fun z => ?_, (led q hq).2⟩)
  have := (led q hq).1
  rw [z, noL] at this; cases this
theorem v_item_missingT {A : Around} {s : Shared} {d : Addr} {od : Obj} {xs : List Ent} {k : Key} {kv : Value} {value slice : PySem.Expr} {E : Value → Shared → Prop} {Q : Value → Shared → Prop} (hu : A.units + 1 < cLine) (N : News h₀ L s.heap news) (hp : (d, od) ∈ news) (hd : IsV w od xs) (lo : (d == sysModules) = false) (hks : KeysN news xs) (hk : KeyN news k kv) (hh : A.handled = none) (hv : atV xs k = none)
    (h : ∀ h' e, Heap.NewExc s.heap h' e "KeyError" → E (.ref e) { s with heap := h', toks := s.toks + drawsK k })
    (hs : subscripted slice false (.ref d) kv = operate [.ref d, kv] (getItem (.ref d) kv) := by with_unfolding_all rfl) :
    wpAny (model prog w) A (subscriptTail value slice (.ref d) kv) Q E s :=
  subscriptTail_builtinR (x := .none) (v_type N hp hd) slot_dict_getitem.lookup (v_getItem_missing hu N hp hd lo hks hk hh hv h) hs
end
end MineV
end
section
open PySem PySem.W PyProof.Rows
namespace Mine2

/-- the ledger without some addresses -/
def wo (xs : List Addr) (news : List (Addr × Obj)) : List (Addr × Obj) := news.filter fun p => !xs.contains p.1
theorem wo_ne {xs : List Addr} {news : List (Addr × Obj)} {a : Addr} (ha : a ∈ xs) : ∀ p ∈ wo xs news, p.1 ≠ a := by
  intro p hp e
  have := (List.mem_filter.mp hp).2
  rw [e] at this
  simp [ha] at this
theorem wo_mem {xs : List Addr} {news : List (Addr × Obj)} {p : Addr × Obj} (hp : p ∈ news) (h : p.1 ∉ xs) : p ∈ wo xs news := List.mem_filter.mpr ⟨hp, by simp [h]⟩
theorem wo_sub {xs : List Addr} {news : List (Addr × Obj)} {p : Addr × Obj} (hp : p ∈ wo xs news) : p ∈ news := (List.mem_filter.mp hp).1
theorem wo_not {xs : List Addr} {news : List (Addr × Obj)} {p : Addr × Obj} (hp : p ∈ wo xs news) : p.1 ∉ xs := by
  have := (List.mem_filter.mp hp).2; simpa using this
theorem news_mono {h₀ h : Heap} {L : Addr} {news news' : List (Addr × Obj)} (N : News h₀ L h news) (hs : ∀ p ∈ news', p ∈ news) : News h₀ L h news' := fun p hp => N p (hs p hp)
theorem news_cons {h₀ h : Heap} {L : Addr} {p : Addr × Obj} {news news' : List (Addr × Obj)} (N : News h₀ L h news) (hp : p ∈ news) (N' : News h₀ L h news') : News h₀ L h (p :: news') := fun q hq => by
  rcases List.mem_cons.mp hq with rfl | hq
  · exact N _ hp
  · exact N' q hq
theorem news_ne {h₀ h : Heap} {L a b : Addr} {o o' : Obj} {news : List (Addr × Obj)} (N : News h₀ L h news) (h1 : (a, o) ∈ news) (h2 : (b, o') ∈ news) (hne : o ≠ o') : a ≠ b := fun e => by
  have q := (N _ h1).1
  have q' := (N _ h2).1
  subst e
  dsimp only at q q'
  rw [q] at q'
  exact hne (Option.some.inj q')
theorem news_nec {h₀ h : Heap} {L a b : Addr} {o o' : Obj} {news : List (Addr × Obj)} (N : News h₀ L h news) (h1 : (a, o) ∈ news) (h2 : (b, o') ∈ news) (hne : o.cls ≠ o'.cls) : a ≠ b :=
  news_ne N h1 h2 fun e => hne (congrArg Obj.cls e)
theorem dict_cls {prog : Program} {w : World} {K : Type} [DecidableEq K] {knd : KeyKind prog w K} {o : Obj} {kvs : List (K × Value)} (h : o.IsDictOf knd kvs) : o.cls = .type "dict" := let ⟨_, _, e, _⟩ := h; e.1
theorem allLt_mem {a : Addr} {l : List (Addr × Obj)} (h : AllLt a l) : ∀ q ∈ l, q.1 < a := by
  induction l with
  | nil => intro q hq; cases hq
  | cons p r ih =>
    intro q hq
    rcases List.mem_cons.mp hq with e | hq
    · rw [e]; exact h.1
    · exact ih h.2 q hq
theorem allLt_ne {a b : Addr} {l : List (Addr × Obj)} (h : AllLt a l) (hb : @LT.lt Nat _ a b) : ∀ q ∈ l, q.1 ≠ b := fun q hq => Nat.ne_of_lt (Nat.lt_trans (allLt_mem h q hq) hb)
theorem allLt_ne' {a : Addr} {l : List (Addr × Obj)} (h : AllLt a l) : ∀ q ∈ l, q.1 ≠ a := fun q hq => Nat.ne_of_lt (allLt_mem h q hq)
theorem lt_ne {a b : Addr} {l : List (Addr × Obj)} (h : ∀ p ∈ l, p.1 < a) (hb : @LT.lt Nat _ a b) : ∀ q ∈ l, q.1 ≠ b := fun q hq => Nat.ne_of_lt (Nat.lt_trans (h q hq) hb)
theorem lt_ne' {a : Addr} {l : List (Addr × Obj)} (h : ∀ p ∈ l, p.1 < a) : ∀ q ∈ l, q.1 ≠ a := fun q hq => Nat.ne_of_lt (h q hq)
theorem wo_lt {xs : List Addr} {news : List (Addr × Obj)} {a : Addr} (h1 : ∀ x ∈ xs, x < a) (h2 : AllLt a (wo xs news)) : ∀ q ∈ news, q.1 < a := fun q hq => by
  by_cases h : q.1 ∈ xs
  · exact h1 _ h
  · exact allLt_mem h2 _ (wo_mem hq h)
theorem news_same {h₀ h : Heap} {L a : Addr} {o : Obj} {news : List (Addr × Obj)} {q : Addr × Obj} (N : News h₀ L h news) (h1 : (a, o) ∈ news) (hq : q ∈ news) (e : q.1 = a) : q = (a, o) := by
  have e1 := (N _ h1).1
  have e2 := (N _ hq).1
  rw [e] at e2
  exact Prod.ext e (Option.some.inj (e2.symm.trans e1))
theorem updF_front {a : Addr} {o : Obj} {news : List (Addr × Obj)} {g : Obj → List (Addr × Obj)} (U : UpdF a o news g) :
    ∃ T : List (Addr × Obj), (∀ p ∈ T, p.1 ≠ a) ∧ (∀ p, p ∈ news ↔ p = (a, o) ∨ p ∈ T) ∧ ∀ o' p, p ∈ g o' ↔ p = (a, o') ∨ p ∈ T := by
  obtain ⟨pre, post, e, hg, h1, h2⟩ := U.split
  refine ⟨pre ++ post, fun p hp => (List.mem_append.mp hp).elim (h1 p) (h2 p), fun p => ?_, fun o' p => ?_⟩
  · rw [e]; simp only [List.mem_append, List.mem_cons]; constructor <;> (intro h; rcases h with h | h | h <;> simp_all)
  · rw [hg]; simp only [List.mem_append, List.mem_cons]; constructor <;> (intro h; rcases h with h | h | h <;> simp_all)
section
variable {prog : Program} {w : World} {A : Around} {E : Value → Shared → Prop} {s : Shared} {K : Frag} {x C L f : Addr} {h₀ : Heap} {m : Str → Option Value} {ox : Obj} {od : Option Obj} {v : Value}
theorem delItem_own {Q : Unit → Shared → Prop} (F : Fr h₀ L s.heap m) (X₀ : K.In h₀) (I : InstAt s.heap x ox C od) (hq : noSeq K C = true) (hs : findIn K (.ref C) "__delitem__" = some (some (.ref f))) (hf : isFn K (.ref f) = true)
    (h : wpAny (model prog w) A (call (.ref f) [.ref x, v]) (fun _ => Q ()) E s) : wpAny (model prog w) A (delItem (.ref x) v) Q E s := by
  have X := X₀.keeps F.keep
  unfold delItem sequenceKey
  refine wpAny_holding (wpAny_bind (wpAny_bind (I.type.here ?_)))
  refine wpAny_bind ((anyM_none X hq).here ?_)
  rw [if_pos (show (!false) = true from rfl)]
  exact wpAny_pure (wpAny_bind (special_fn X I hs (beq_iff_eq.mp hf) (wpAny_mono h (fun _ _ z => wpAny_pure z) fun _ _ z => z)))
end
section
variable {prog : Program} {w : World} {K : Type} [DecidableEq K] {knd : KeyKind prog w K} {A : Around} {E : Value → Shared → Prop} {s : Shared} {h₀ : Heap} {L dd : Addr} {news : List (Addr × Obj)} {od : Obj} {kvs : List (K × Value)} {k : K} {key : Value}
theorem getItem_missing {Q : Value → Shared → Prop} (N : News h₀ L s.heap news) (hp : (dd, od) ∈ news) (hd : od.IsDictOf knd kvs) (lo : (dd == sysModules) = false) (hkey : knd.is k key = true) (hh : A.handled = none) (hv : valueAt kvs k = none)
    (h : ∀ h' e, Heap.NewExc s.heap h' e "KeyError" → E (.ref e) { s with heap := h', toks := s.toks + 1 }) : wpAny (model prog w) A (getItem (.ref dd) key) Q E s :=
  wpAny_getItem_missing_of hkey lo hh (kda_dict N hp hd).mapOf hv h
theorem item_missing {value slice : PySem.Expr} {Q : Value → Shared → Prop} (N : News h₀ L s.heap news) (hp : (dd, od) ∈ news) (hd : od.IsDictOf knd kvs) (lo : (dd == sysModules) = false) (hkey : knd.is k key = true) (hh : A.handled = none) (hv : valueAt kvs k = none)
    (h : ∀ h' e, Heap.NewExc s.heap h' e "KeyError" → E (.ref e) { s with heap := h', toks := s.toks + 1 })
    (hs : subscripted slice false (.ref dd) key = operate [.ref dd, key] (getItem (.ref dd) key) := by with_unfolding_all rfl) (hg : ∀ r, letTemporaryGo value (.ref dd) r = pure () := by intro _; with_unfolding_all rfl) :
    wpAny (model prog w) A (subscriptTail value slice (.ref dd) key) Q E s :=
  subscriptTail_builtin (kda_dict N hp hd).typeIs slot_dict_getitem.lookup (getItem_missing N hp hd lo hkey hh hv h) hs hg
theorem delItem_missing {Q : Unit → Shared → Prop} (N : News h₀ L s.heap news) (hp : (dd, od) ∈ news) (hd : od.IsDictOf knd kvs) (lo : (dd == sysModules) = false) (hkey : knd.is k key = true) (hh : A.handled = none) (hv : valueAt kvs k = none)
    (h : ∀ h' e, Heap.NewExc s.heap h' e "KeyError" → E (.ref e) { s with heap := h', toks := s.toks + 1 }) : wpAny (model prog w) A (delItem (.ref dd) key) Q E s := by
  have hD := kda_dict N hp hd
  unfold delItem
  try with_reducible refine wpAny_holding ?_
  refine wpAny_bind (wpAny_sequenceKey hD.typeIs (by decide) ?_)
  exact wpAny_bind (wpAny_callSpecial?_slot (name := Str.ofString "__delitem__") hD.typeIs PySem.F.slot_dict_delitem
    (call_meetsIn PySem.F.slot_dict_delitem hD.typeIs PySem.F.entry_dict_delitem (PySem.F.args_dict_delitem_2 _ _) (meets_dict_delitem_missing knd dd hkey lo) ⟨hh, kvs, hD, hv, h⟩))
end

/-! rows of the cache -/
structure Row (α : Type) where
  key : α
  kv : Value
  val : Value
  ctr : Int
  ctok : Tok
  ep : Nat
  tup : Addr
  lst : Addr
abbrev Row.tupO {α : Type} (r : Row α) : Obj := { cls := .type "tuple", data := .seq [r.kv, r.val, .ref r.lst].toArray }
abbrev Row.lstO {α : Type} (r : Row α) : Obj := PySem.W.listOf #[.int r.ctr r.ctok] r.ep
def RowsIn {α : Type} (news : List (Addr × Obj)) (rows : List (Row α)) : Prop := ∀ r ∈ rows, (r.tup, r.tupO) ∈ news ∧ (r.lst, r.lstO) ∈ news
def kvsOf {α : Type} (rows : List (Row α)) : List (α × Value) := rows.map fun r => (r.key, .ref r.tup)
theorem perm_map_inv {α β : Type} {f : α → β} {l' : List β} {m : List β} (h : m.Perm l') : ∀ {l : List α}, m = l.map f → ∃ l₂ : List α, l₂.Perm l ∧ l₂.map f = l' := by
  induction h with
  | nil => intro l e; exact ⟨l, .refl _, e.symm⟩
  | cons x _ ih =>
    intro l e
    rcases l with _ | ⟨a, l⟩
    · cases e
    · obtain ⟨e1, e2⟩ := List.cons.inj e
      obtain ⟨l₂, p, q⟩ := ih e2
      exact ⟨a :: l₂, p.cons a, by rw [List.map_cons, q, e1]⟩
  | swap x y l =>
    intro l0 e
    rcases l0 with _ | ⟨a, _ | ⟨b, l1⟩⟩
    · cases e
    · cases e
    · obtain ⟨e1, e2⟩ := List.cons.inj e
      obtain ⟨e3, e4⟩ := List.cons.inj e2
      exact ⟨b :: a :: l1, .swap _ _ _, by rw [List.map_cons, List.map_cons, ← e1, ← e3, ← e4]⟩
  | trans _ _ ih1 ih2 =>
    intro l e
    obtain ⟨l₂, p, q⟩ := ih1 e
    obtain ⟨l₃, p', q'⟩ := ih2 q.symm
    exact ⟨l₃, p'.trans p, q'⟩
end Mine2
end
section
open PySem PySem.W PyProof.Rows
namespace Mine2
set_option maxRecDepth 100000
set_option maxHeartbeats 8000000
local macro_rules | `(tactic| k_all) => `(tactic| first | assumption)
local macro_rules | `(tactic| k_ne) => `(tactic| (refine neN ?_; (try dsimp only); first | assumption | (apply Ne.symm; assumption)))
local macro_rules | `(tactic| k_room) => `(tactic| ((try simp only [depth_under_make, depth_under_kw, depth_in1, depth_deeper, depth_caller]); show _ < 1000; omega))
local macro_rules | `(tactic| walk_at "delItem ref") => `(tactic| (k_dflt (refine' delItem_own ?k1 ?k2 ?k3 ?k4 ?k5 ?k6 ?_; (case k1 => k_asm); (case k2 => k_asm); (case k3 => k_inst); (case k4 => k_is); (case k5 => k_is); (case k6 => k_is); k_whole)))
variable {w : World} {A₀ : Around} {d u : Nat} {gs : Option (List Code)} {nm : List (Str × NameKind)} {mo : List (Str × PySem.Const)} {gl : Addr} {cl : List (Str × Addr)} {ql : Str} {fn : Option Addr} {co : Value} {bi : Addr} {outer : List Env}
  {base h₀ : Heap} {L : Addr} {s : Shared} {m mg mb : Str → Option Value} {mean : ExcName → Option Value} {loose : List Str} {p : Program} {news : List (Addr × Obj)} {Q : Value → Shared → Prop} {E : Value → Shared → Prop} {keep : List Addr}
abbrev AA (d u : Nat) (gs : Option (List Code)) (nm : List (Str × NameKind)) (mo : List (Str × PySem.Const)) (gl : Addr) (cl : List (Str × Addr)) (ql : Str) (fn : Option Addr) (co : Value) (bi L : Addr) (outer : List Env) : Around :=
  ⟨none, d, some ((⟨⟨.function, nm, false, false, mo⟩, L, gl, cl, ql, fn, co, some L, bi⟩ : Env) :: outer), gs, u⟩
abbrev lockObj (md : Addr) : Obj := instObj 53 md
abbrev heldDict (hs : Int) (tk : Tok) (b : Bool) : Obj := dictOf [⟨hs, .str (PySem.Str.ofString "held") tk, .bool b⟩] 1
abbrev cacheObj (cd d mx : Addr) (n : Int) (t : Tok) (cap al thr : Value) : Obj :=
  ⟨.ref 185, some cd, .plain, #[some (.int n t), some (.ref d), some (.ref mx), some cap, some al, some thr]⟩
variable {c cd dd mx md : Addr} {n : Int} {t : Tok} {cap al thr : Value}

theorem acquire_free {hs : Int} {tk : Tok} {g : Obj → List (Addr × Obj)} : d ≤ 600 → Below A₀ base outer h₀ → (hd.heap_39 w.params).In h₀ → Top p loose mean mg mb h₀ → Fr h₀ L s.heap m → News h₀ L s.heap news →
    UpdF md (heldDict hs tk false) news g → (mx, lockObj md) ∈ news → 
    (∀ h' tk', Fr h₀ L h' m → News h₀ L h' (g (heldDict hs tk true)) → Q (.bool true) { s with heap := h', toks := tk' }) →
    wpAny (model PySem.Challenge.rw_eu0033_02.row.prog w) (AA d u gs nm mo gl cl ql fn co bi L outer) (call (.ref 43) [.ref mx, .bool false]) Q E s := by
  k_fill
  intro hdp B X T F N U h1 K
  obtain ⟨R, hR, e1, e2⟩ := updF_front U
  have hne : mx ≠ md := news_ne N h1 ((e1 _).mpr (.inl rfl)) (by intro q; cases q)
  have N1 : News h₀ L s.heap ((mx, lockObj md) :: (md, heldDict hs tk false) :: R) := news_cons N h1 (news_mono N fun q hq => (e1 q).mpr (by simpa using hq))
  clear N h1
  k_steps
  exact K _ _ (by assumption) (news_mono (by assumption) fun q hq => by rcases (e2 _ q).mp hq with rfl | h <;> simp_all)

theorem acquire_held {hs : Int} {tk : Tok} : d ≤ 600 → Below A₀ base outer h₀ → (hd.heap_39 w.params).In h₀ → Top p loose mean mg mb h₀ → Fr h₀ L s.heap m → News h₀ L s.heap news →
    (md, heldDict hs tk true) ∈ news → (mx, lockObj md) ∈ news →
    (∀ h' tk', Fr h₀ L h' m → News h₀ L h' news → Q (.bool false) { s with heap := h', toks := tk' }) →
    wpAny (model PySem.Challenge.rw_eu0033_02.row.prog w) (AA d u gs nm mo gl cl ql fn co bi L outer) (call (.ref 43) [.ref mx, .bool false]) Q E s := by
  k_fill
  intro hdp B X T F N h2 h1 K
  have N1 : News h₀ L s.heap ((mx, lockObj md) :: (md, heldDict hs tk true) :: news) := news_cons N h1 (news_cons N h2 N)
  clear N h1
  k_steps
  exact K _ _ (by assumption) (news_mono (by assumption) fun q hq => by simp_all)

theorem release_ {hs : Int} {tk : Tok} {b : Bool} {g : Obj → List (Addr × Obj)} : d ≤ 600 → Below A₀ base outer h₀ → (hd.heap_39 w.params).In h₀ → Top p loose mean mg mb h₀ → Fr h₀ L s.heap m → News h₀ L s.heap news →
    UpdF md (heldDict hs tk b) news g → (mx, lockObj md) ∈ news →
    (∀ h' tk', Fr h₀ L h' m → News h₀ L h' (g (heldDict hs tk false)) → Q .none { s with heap := h', toks := tk' }) →
    wpAny (model PySem.Challenge.rw_eu0033_02.row.prog w) (AA d u gs nm mo gl cl ql fn co bi L outer) (call (.ref 50) [.ref mx]) Q E s := by
  k_fill
  intro hdp B X T F N U h1 K
  obtain ⟨R, hR, e1, e2⟩ := updF_front U
  have hne : mx ≠ md := news_ne N h1 ((e1 _).mpr (.inl rfl)) (by intro q; cases q)
  have N1 : News h₀ L s.heap ((mx, lockObj md) :: (md, heldDict hs tk b) :: R) := news_cons N h1 (news_mono N fun q hq => (e1 q).mpr (by simpa using hq))
  clear N h1
  k_steps
  exact K _ _ (by assumption) (news_mono (by assumption) fun q hq => by rcases (e2 _ q).mp hq with rfl | h <;> simp_all)

theorem inc_counter {g : Obj → List (Addr × Obj)} : d ≤ 600 → Below A₀ base outer h₀ → (hd.heap_39 w.params).In h₀ → Top p loose mean mg mb h₀ → Fr h₀ L s.heap m → News h₀ L s.heap news →
    UpdF c (cacheObj cd dd mx n t cap al thr) news g → (cd, dictOf [] 0) ∈ news →
    (∀ h' tk' t', Fr h₀ L h' m → News h₀ L h' (g (cacheObj cd dd mx (n + 1) t' cap al thr)) → Q (.int (n + 1) t') { s with heap := h', toks := tk' }) →
    wpAny (model PySem.Challenge.rw_eu0033_02.row.prog w) (AA d u gs nm mo gl cl ql fn co bi L outer) (call (.ref 123) [.ref c]) Q E s := by
  k_fill
  intro hdp B X T F N U h1 K
  obtain ⟨R, hR, e1, e2⟩ := updF_front U
  have hne : cd ≠ c := news_ne N h1 ((e1 _).mpr (.inl rfl)) (by intro q; cases q)
  have N1 : News h₀ L s.heap ((cd, dictOf [] 0) :: (c, cacheObj cd dd mx n t cap al thr) :: R) := news_cons N h1 (news_mono N fun q hq => (e1 q).mpr (by simpa using hq))
  clear N h1
  k_steps
  exact K _ _ _ (by assumption) (news_mono (by assumption) fun q hq => by rcases (e2 _ q).mp hq with rfl | h <;> simp_all)
end Mine2
end
section
open PySem PySem.W PyProof.Rows PyProof.Rows.LCg PyProof.Rows.LCt PyProof.Rows.LCp
namespace Mine2
set_option maxRecDepth 100000
set_option maxHeartbeats 8000000
local macro_rules | `(tactic| k_all) => `(tactic| first | assumption)
local macro_rules | `(tactic| k_ne) => `(tactic| (refine neN ?_; (try dsimp only); first | assumption | (apply Ne.symm; assumption)))
local macro_rules | `(tactic| k_room) => `(tactic| ((try simp only [depth_under_make, depth_under_kw, depth_in1, depth_deeper, depth_caller]); show _ < 1000; omega))
local macro_rules | `(tactic| walk_at "delItem ref") => `(tactic| (k_dflt (refine' delItem_own ?k1 ?k2 ?k3 ?k4 ?k5 ?k6 ?_; (case k1 => k_asm); (case k2 => k_asm); (case k3 => k_inst); (case k4 => k_is); (case k5 => k_is); (case k6 => k_is); k_whole)))
variable {w : World} {A₀ : Around} {d u : Nat} {gs : Option (List Code)} {nm : List (Str × NameKind)} {mo : List (Str × PySem.Const)} {gl : Addr} {cl : List (Str × Addr)} {ql : Str} {fn : Option Addr} {co : Value} {bi : Addr} {outer : List Env}
  {base h₀ : Heap} {L : Addr} {s : Shared} {m mg mb : Str → Option Value} {mean : ExcName → Option Value} {loose : List Str} {p : Program} {news : List (Addr × Obj)} {Q : Value → Shared → Prop} {E : Value → Shared → Prop} {keep : List Addr}
section
variable {prog : Program} {A : Around} {env : Env}
theorem compEnd_mono {s₁ s₂ : Shared} {I C D : Addr} {oI oC oD : Obj} {S : List (Addr × Obj) → Prop} {r1 r2 : Value → List (Addr × Obj) → Prop} {y : Value} (h : CompEnd h₀ L m s₁ I oI C oC D oD S r1 y s₂) (hr : ∀ n, r1 y n → r2 y n) : CompEnd h₀ L m s₁ I oI C oC D oD S r2 y s₂ :=
  let ⟨h', tk, n', e, F, N, o, hs, r⟩ := h; ⟨h', tk, n', e, F, N, o, hs, hr _ r⟩
theorem compRestT_inv {ct elt : PySem.Expr} {x : Str} {scope : Scope} {cl : List (Str × Addr)} {S : List (Addr × Obj) → Prop} {P : Nat → Value → Prop} {Fin : List Value → List (Addr × Obj) → Prop} {J : Nat → List Value → List (Addr × Obj) → Prop} {NN : Nat}
    (step : ∀ i ys n, i < NN → J i ys n → ∀ v I oI C oC D m₂ h tk (E' : Value → Shared → Prop), P i v → NsObj oC m₂ → m₂ x = some v → Fr h₀ L h m → News h₀ L h ((I, oI) :: (C, oC) :: (D, lst ys) :: n) → Off3 I C D n → ((@Ne Nat I C) ∧ (@Ne Nat I D) ∧ (@Ne Nat C D)) →
      wpAny (model prog w) A (isTrue ct (compEnvC scope cl C env) (eval ct (compEnvC scope cl C env))) (fun ok s' => if ok = true then
        wpAny (model prog w) A (eval elt (compEnvC scope cl C env)) (CompEnd h₀ L m { s with heap := h, toks := tk } I oI C oC D (lst ys) S (fun y n' => J (i + 1) (ys ++ [y]) n')) E' s'
        else CompEnd h₀ L m { s with heap := h, toks := tk } I oI C oC D (lst ys) S (fun _ n' => J (i + 1) ys n') Value.none s') E' { s with heap := h, toks := tk })
    (done : ∀ ys n, J NN ys n → Fin ys n) : ∀ (k i : Nat) ys n, i + k = NN → J i ys n → CompRestT prog w A h₀ L m env ct elt x scope cl s S P Fin k i ys n := by
  intro k
  induction k with
  | zero => intro i ys n e hj; exact CompRestT.zero (done _ _ (by rw [← e]; exact hj))
  | succ k ih =>
    intro i ys n e hj
    refine CompRestT.succ fun v I oI C oC D m₂ h tk E' hp h1 h2 F N o q => wpAny_mono (step i ys n (by omega) hj v I oI C oC D m₂ h tk E' hp h1 h2 F N o q) (fun ok s' hk => ?_) fun _ _ e => e
    split at hk
    · rename_i ht
      rw [if_pos ht]
      exact wpAny_mono hk (fun y s'' hy => compEnd_mono hy fun n' r => ih _ _ _ (by omega) r) fun _ _ e => e
    · rename_i ht
      rw [if_neg ht]
      exact compEnd_mono hk fun n' r => ih _ _ _ (by omega) r
theorem compRestP_inv {elt : PySem.Expr} {x x₂ : Str} {scope : Scope} {cl : List (Str × Addr)} {S : List (Addr × Obj) → Prop} {P : Nat → Value → Prop} {Fin : List Value → List (Addr × Obj) → Prop} {J : Nat → List Value → List (Addr × Obj) → Prop} {NN : Nat}
    (step : ∀ i ys n, i < NN → J i ys n → ∀ v, P i v → ∃ (t : Addr) (ot : Obj) (v₁ v₂ : Value) (nt : Nat), v = .ref t ∧ (t, ot) ∈ n ∧ ot.cls = .type "tuple" ∧ ot.data = .seq #[v₁, v₂] nt ∧
      ∀ I oI C oC D m₂ h tk (E' : Value → Shared → Prop), NsObj oC m₂ → m₂ x = some v₁ → m₂ x₂ = some v₂ → Fr h₀ L h m → News h₀ L h ((I, oI) :: (C, oC) :: (D, lst ys) :: n) → Off3 I C D n → ((@Ne Nat I C) ∧ (@Ne Nat I D) ∧ (@Ne Nat C D)) →
      wpAny (model prog w) A (eval elt (compEnvC scope cl C env)) (CompEnd h₀ L m { s with heap := h, toks := tk } I oI C oC D (lst ys) S (fun y n' => J (i + 1) (ys ++ [y]) n')) E' { s with heap := h, toks := tk })
    (done : ∀ ys n, J NN ys n → Fin ys n) : ∀ (k i : Nat) ys n, i + k = NN → J i ys n → CompRestP prog w A h₀ L m env elt x x₂ scope cl s S P Fin k i ys n := by
  intro k
  induction k with
  | zero => intro i ys n e hj; exact CompRestP.zero (done _ _ (by rw [← e]; exact hj))
  | succ k ih =>
    intro i ys n e hj
    refine CompRestP.succ fun v hv => ?_
    obtain ⟨t, ot, v₁, v₂, nt, a1, a2, a3, a4, hh⟩ := step i ys n (by omega) hj v hv
    exact ⟨t, ot, v₁, v₂, nt, a1, a2, a3, a4, fun I oI C oC D m₂ h tk E' h1 h2 h3 F N o q => wpAny_mono (hh I oI C oC D m₂ h tk E' h1 h2 h3 F N o q) (fun y s'' hy => compEnd_mono hy fun n' r => ih _ _ _ (by omega) r) fun _ _ e => e⟩
theorem compRest_inv {elt : PySem.Expr} {x : Str} {scope : Scope} {cl : List (Str × Addr)} {S : List (Addr × Obj) → Prop} {P : Nat → Value → Prop} {Fin : List Value → List (Addr × Obj) → Prop} {J : Nat → List Value → List (Addr × Obj) → Prop} {NN : Nat}
    (step : ∀ i ys n, i < NN → J i ys n → ∀ v I oI C oC D m₂ h tk (E' : Value → Shared → Prop), P i v → NsObj oC m₂ → m₂ x = some v → Fr h₀ L h m → News h₀ L h ((I, oI) :: (C, oC) :: (D, lst ys) :: n) → Off3 I C D n → ((@Ne Nat I C) ∧ (@Ne Nat I D) ∧ (@Ne Nat C D)) →
      wpAny (model prog w) A (eval elt (compEnvC scope cl C env)) (CompEnd h₀ L m { s with heap := h, toks := tk } I oI C oC D (lst ys) S (fun y n' => J (i + 1) (ys ++ [y]) n')) E' { s with heap := h, toks := tk })
    (done : ∀ ys n, J NN ys n → Fin ys n) : ∀ (k i : Nat) ys n, i + k = NN → J i ys n → CompRest prog w A h₀ L m env elt x scope cl s S P Fin k i ys n := by
  intro k
  induction k with
  | zero => intro i ys n e hj; exact CompRest.zero (done _ _ (by rw [← e]; exact hj))
  | succ k ih =>
    intro i ys n e hj
    exact CompRest.succ fun v I oI C oC D m₂ h tk E' hp h1 h2 F N o q => wpAny_mono (step i ys n (by omega) hj v I oI C oC D m₂ h tk E' hp h1 h2 F N o q) (fun y s'' hy => compEnd_mono hy fun n' r => ih _ _ _ (by omega) r) fun _ _ e => e
end
end Mine2
end
section
open PySem PySem.W PyProof.Rows
namespace Mine2
/-- what the walk needs of the threshold: len > cap + cap * thr says dbl < 2 * len -/
structure ThrOK (prog : Program) (w : World) (cap : Int) (thr : Value) (dbl : Int) (PM PA : Value → Prop) : Prop where
  hand : handedIn thr = true
  mul : ∀ {A : Around} {E : Value → Shared → Prop} {s : Shared} {tc : Tok} {Q : Value → Shared → Prop}, (∀ y tk, PM y → Q y { s with toks := tk }) → wpAny (model prog w) A (binaryOp .Mult (.int cap tc) thr) Q E s
  add : ∀ {A : Around} {E : Value → Shared → Prop} {s : Shared} {tc : Tok} {y : Value} {Q : Value → Shared → Prop}, PM y → (∀ x tk, PA x → Q x { s with toks := tk }) → wpAny (model prog w) A (binaryOp .Add (.int cap tc) y) Q E s
  gt : ∀ {A : Around} {E : Value → Shared → Prop} {s : Shared} {n : Int} {t : Tok} {x : Value} {Q : Value → Shared → Prop}, PA x → 0 ≤ n → n ≤ 64 → Q (.bool (decide (dbl < 2 * n))) s → wpAny (model prog w) A (compareOp .Gt (.int n t) x) Q E s
end Mine2
end
section
open PySem PySem.W PyProof.Rows
namespace Mine2
open MineV
set_option maxRecDepth 100000
set_option maxHeartbeats 8000000
local macro_rules | `(tactic| k_all) => `(tactic| first | assumption)
local macro_rules | `(tactic| k_ne) => `(tactic| (refine neN ?_; (try dsimp only); first | assumption | (apply Ne.symm; assumption)))
local macro_rules | `(tactic| k_room) => `(tactic| ((try simp only [depth_under_make, depth_under_kw, depth_in1, depth_deeper, depth_caller]); show _ < 1000; omega))
local macro_rules | `(tactic| walk_at "delItem ref") => `(tactic| (k_dflt (refine' delItem_own ?k1 ?k2 ?k3 ?k4 ?k5 ?k6 ?_; (case k1 => k_asm); (case k2 => k_asm); (case k3 => k_inst); (case k4 => k_is); (case k5 => k_is); (case k6 => k_is); k_whole)))
variable {w : World} {A₀ : Around} {d u : Nat} {gs : Option (List Code)} {nm : List (Str × NameKind)} {mo : List (Str × PySem.Const)} {gl : Addr} {cl : List (Str × Addr)} {ql : Str} {fn : Option Addr} {co : Value} {bi : Addr} {outer : List Env}
  {base h₀ : Heap} {L : Addr} {s : Shared} {m mg mb : Str → Option Value} {mean : ExcName → Option Value} {loose : List Str} {p : Program} {news : List (Addr × Obj)} {Q : Value → Shared → Prop} {E : Value → Shared → Prop} {keep : List Addr}
local macro_rules | `(tactic| walk_at "subscriptTail") => `(tactic| (k_dflt (refine v_item_missing (by (simp only [AA, Around.deeper, cLine]; omega)) (by k_asm) (by k_mem) (by k_asm) (by k_asm) (by k_asm) (by k_asm) (by rfl) (by assumption) ?_); intro h' e' x'))
local macro_rules | `(tactic| walk_at "subscriptTail") => `(tactic| (k_dflt (refine v_item (by (simp only [AA, Around.deeper, cLine]; omega)) (by k_asm) (by k_mem) (by k_asm) (by k_asm) (by k_asm) (by assumption) ?_)))
local macro_rules | `(tactic| walk_at "call builtin:dict.get") => `(tactic| (k_dflt (refine v_get1 (by (simp only [AA, Around.deeper, cLine]; omega)) (by k_asm) (by k_mem) (by k_asm) (by k_asm) (by k_asm) (by k_asm) _ (by assumption) ?_); (try dsimp only [Option.getD])))
local macro_rules | `(tactic| walk_at "getMethod ref") => `(tactic| (k_dflt (first | refine v_method PySem.F.slot_dict_get PySem.F.type_dict_get (by k_asm) (by k_mem) (by k_asm) ?_ | refine v_method PySem.F.slot_dict_values PySem.F.type_dict_values (by k_asm) (by k_mem) (by k_asm) ?_)))
local macro_rules | `(tactic| walk_at "delItem ref") => `(tactic| (k_dflt (refine v_del_missing (by (simp only [AA, Around.deeper, cLine]; omega)) (by k_asm) (by k_mem) (by k_asm) (by k_asm) (by k_asm) (by k_asm) (by rfl) (by omega) (by assumption) ?_); intro h' e' x'))
local macro_rules | `(tactic| walk_at "delItem ref") => `(tactic| (k_dflt (refine' v_del ?hu ?F ?N ?U ?d ?hs ?hk ?hz ?hi ?_; (case hu => (simp only [AA, Around.deeper, cLine]; omega)); (case F => k_asm); (case N => k_asm); (case U => k_updF); (case d => k_asm); (case hs => k_asm); (case hk => k_asm); (case hz => omega); (case hi => assumption)); intro h' o' F' N' hd'; (try dsimp only at N')))
local macro_rules | `(tactic| walk_at "setItem ref") => `(tactic| (k_dflt (refine' v_set ?hu ?F ?N ?U ?d ?hs ?hk ?hz ?_; (case hu => (simp only [AA, Around.deeper, cLine]; omega)); (case F => k_asm); (case N => k_asm); (case U => k_updF); (case d => k_asm); (case hs => k_asm); (case hk => k_asm); (case hz => omega)); intro h' o' F' N' hd'; (try dsimp only at N')))
local macro_rules | `(tactic| walk_at "call ref") => `(tactic| (k_dflt (refine' inc_counter ?k1 ?k2 ?k3 ?k4 ?k5 ?k6 ?k7 ?k8 ?_; (case k1 => (try simp only [depth_deeper]); omega); (case k2 => k_asm); (case k3 => k_asm); (case k4 => k_asm); (case k5 => k_asm); (case k6 => k_asm); (case k7 => k_updF); (case k8 => k_mem); k_whole); intro h' tk' t' F' N'; (try dsimp only at N'); (try k_sweep)))
variable {c cd dd mx md tup lst : Addr} {n : Int} {t : Tok} {cap al thr : Value} {od : Obj} {xs : List Ent} {k : Key} {ctr : Int} {ct : Tok} {ep : Nat} {v kw kv dflt : Value}
abbrev tupObj (vs : List Value) : Obj := { cls := .type "tuple", data := .seq vs.toArray }

theorem get_found : d ≤ 500 → u ≤ 9000 → Below A₀ base outer h₀ → (hd.heap_39 w.params).In h₀ → Top p loose mean mg mb h₀ → Fr h₀ L s.heap m → News h₀ L s.heap news →
    (c, cacheObj cd dd mx n t cap al thr) ∈ news → (cd, dictOf [] 0) ∈ news → (dd, od) ∈ news → IsV w od xs → (dd == sysModules) = false → KeysN news xs → KeyN news k kw →
    atV xs k = some (.ref tup) → (tup, tupObj [kv, v, .ref lst]) ∈ news → (lst, listOf #[.int ctr ct] ep) ∈ news →
    (∀ h' tk' t', Fr h₀ L h' m → News h₀ L h' ((c, cacheObj cd dd mx (n + 1) t' cap al thr) :: (lst, listOf #[.int (n + 1) t'] ep) :: wo [c, lst] news) → Q v { s with heap := h', toks := tk' }) →
    wpAny (model PySem.Challenge.rw_eu0033_02.row.prog w) (AA d u gs nm mo gl cl ql fn co bi L outer) (call (.ref 131) [.ref c, kw, dflt]) Q E s := by
  k_fill
  intro hdp hu B X T F N h1 h2 h3 hdi lo hks hk hv h4 h5 K
  have hc := hdi.1.1
  have n1 : cd ≠ c := news_nec N h2 h1 (by simp)
  have n2 : lst ≠ c := news_nec N h5 h1 (by simp)
  have n3 : lst ≠ cd := news_nec N h5 h2 (by simp)
  have n4 : tup ≠ c := news_nec N h4 h1 (by simp)
  have n5 : tup ≠ lst := news_nec N h4 h5 (by simp)
  have n6 : dd ≠ c := news_nec N h3 h1 (by rw [hc]; simp)
  have n7 : dd ≠ lst := news_nec N h3 h5 (by rw [hc]; simp)
  have hR1 : ∀ q ∈ wo [c, lst] news, q.1 ≠ c := wo_ne (by simp)
  have hR2 : ∀ q ∈ wo [c, lst] news, q.1 ≠ lst := wo_ne (by simp)
  have N1 : News h₀ L s.heap ((c, cacheObj cd dd mx n t cap al thr) :: (cd, dictOf [] 0) :: (dd, od) :: (tup, tupObj [kv, v, .ref lst]) :: (lst, listOf #[.int ctr ct] ep) :: wo [c, lst] news) :=
    news_cons N h1 (news_cons N h2 (news_cons N h3 (news_cons N h4 (news_cons N h5 (news_mono N fun _ h => wo_sub h)))))
  have hsub : ∀ q ∈ news, q.2.cls = .type "tuple" → q ∈ (c, cacheObj cd dd mx n t cap al thr) :: (cd, dictOf [] 0) :: (dd, od) :: (tup, tupObj [kv, v, .ref lst]) :: (lst, listOf #[.int ctr ct] ep) :: wo [c, lst] news := fun q hq e => by
    have e1 : q.1 ≠ c := news_nec N hq h1 (by rw [e]; simp)
    have e2 : q.1 ≠ lst := news_nec N hq h5 (by rw [e]; simp)
    exact .tail _ (.tail _ (.tail _ (.tail _ (.tail _ (wo_mem hq (by simp [e1, e2]))))))
  have hks' := hks.mono hsub
  have hk' := hk.mono hsub
  generalize wo [c, lst] news = R at *
  clear N h1 h2 h3 h4 h5 hks hk hsub
  k_steps
  with_reducible rename News h₀ L _ _ => N9
  exact K _ _ _ (by assumption) (news_cons N9 (.head _) (news_cons N9 (by k_mem) (news_mono N9 fun q hq => by simp [hq])))
theorem getitem_found : d ≤ 500 → u ≤ 9000 → Below A₀ base outer h₀ → (hd.heap_39 w.params).In h₀ → Top p loose mean mg mb h₀ → Fr h₀ L s.heap m → News h₀ L s.heap news →
    (c, cacheObj cd dd mx n t cap al thr) ∈ news → (cd, dictOf [] 0) ∈ news → (dd, od) ∈ news → IsV w od xs → (dd == sysModules) = false → KeysN news xs → KeyN news k kw →
    atV xs k = some (.ref tup) → (tup, tupObj [kv, v, .ref lst]) ∈ news → (lst, listOf #[.int ctr ct] ep) ∈ news →
    (∀ h' tk' t', Fr h₀ L h' m → News h₀ L h' ((c, cacheObj cd dd mx (n + 1) t' cap al thr) :: (lst, listOf #[.int (n + 1) t'] ep) :: wo [c, lst] news) → Q v { s with heap := h', toks := tk' }) →
    wpAny (model PySem.Challenge.rw_eu0033_02.row.prog w) (AA d u gs nm mo gl cl ql fn co bi L outer) (call (.ref 138) [.ref c, kw]) Q E s := by
  k_fill
  intro hdp hu B X T F N h1 h2 h3 hdi lo hks hk hv h4 h5 K
  have hc := hdi.1.1
  have n1 : cd ≠ c := news_nec N h2 h1 (by simp)
  have n2 : lst ≠ c := news_nec N h5 h1 (by simp)
  have n3 : lst ≠ cd := news_nec N h5 h2 (by simp)
  have n4 : tup ≠ c := news_nec N h4 h1 (by simp)
  have n5 : tup ≠ lst := news_nec N h4 h5 (by simp)
  have n6 : dd ≠ c := news_nec N h3 h1 (by rw [hc]; simp)
  have n7 : dd ≠ lst := news_nec N h3 h5 (by rw [hc]; simp)
  have hR1 : ∀ q ∈ wo [c, lst] news, q.1 ≠ c := wo_ne (by simp)
  have hR2 : ∀ q ∈ wo [c, lst] news, q.1 ≠ lst := wo_ne (by simp)
  have N1 : News h₀ L s.heap ((c, cacheObj cd dd mx n t cap al thr) :: (cd, dictOf [] 0) :: (dd, od) :: (tup, tupObj [kv, v, .ref lst]) :: (lst, listOf #[.int ctr ct] ep) :: wo [c, lst] news) :=
    news_cons N h1 (news_cons N h2 (news_cons N h3 (news_cons N h4 (news_cons N h5 (news_mono N fun _ h => wo_sub h)))))
  have hsub : ∀ q ∈ news, q.2.cls = .type "tuple" → q ∈ (c, cacheObj cd dd mx n t cap al thr) :: (cd, dictOf [] 0) :: (dd, od) :: (tup, tupObj [kv, v, .ref lst]) :: (lst, listOf #[.int ctr ct] ep) :: wo [c, lst] news := fun q hq e => by
    have e1 : q.1 ≠ c := news_nec N hq h1 (by rw [e]; simp)
    have e2 : q.1 ≠ lst := news_nec N hq h5 (by rw [e]; simp)
    exact .tail _ (.tail _ (.tail _ (.tail _ (.tail _ (wo_mem hq (by simp [e1, e2]))))))
  have hks' := hks.mono hsub
  have hk' := hk.mono hsub
  generalize wo [c, lst] news = R at *
  clear N h1 h2 h3 h4 h5 hks hk hsub
  k_steps
  with_reducible rename News h₀ L _ _ => N9
  exact K _ _ _ (by assumption) (news_cons N9 (.head _) (news_cons N9 (by k_mem) (news_mono N9 fun q hq => by simp [hq])))
theorem get_none : d ≤ 500 → u ≤ 9000 → Below A₀ base outer h₀ → (hd.heap_39 w.params).In h₀ → Top p loose mean mg mb h₀ → Fr h₀ L s.heap m → News h₀ L s.heap news →
    (c, cacheObj cd dd mx n t cap al thr) ∈ news → (cd, dictOf [] 0) ∈ news → (dd, od) ∈ news → IsV w od xs → (dd == sysModules) = false → KeysN news xs → KeyN news k kw →
    atV xs k = none →
    (∀ h' tk', Fr h₀ L h' m → News h₀ L h' news → Q dflt { s with heap := h', toks := tk' }) →
    wpAny (model PySem.Challenge.rw_eu0033_02.row.prog w) (AA d u gs nm mo gl cl ql fn co bi L outer) (call (.ref 131) [.ref c, kw, dflt]) Q E s := by
  k_fill
  intro hdp hu B X T F N h1 h2 h3 hdi lo hks hk hv K
  have N1 : News h₀ L s.heap ((c, cacheObj cd dd mx n t cap al thr) :: (cd, dictOf [] 0) :: (dd, od) :: news) := news_cons N h1 (news_cons N h2 (news_cons N h3 N))
  have hks' := hks.mono (news' := (c, cacheObj cd dd mx n t cap al thr) :: (cd, dictOf [] 0) :: (dd, od) :: news) fun q hq _ => .tail _ (.tail _ (.tail _ hq))
  have hk' := hk.mono (news' := (c, cacheObj cd dd mx n t cap al thr) :: (cd, dictOf [] 0) :: (dd, od) :: news) fun q hq _ => .tail _ (.tail _ (.tail _ hq))
  clear N h1 h2 h3 hks hk
  k_steps
  with_reducible rename News h₀ L _ _ => N9
  exact K _ _ (by assumption) (news_mono N9 fun q hq => by simp [hq])
theorem delitem_found : d ≤ 500 → u ≤ 9000 → Below A₀ base outer h₀ → (hd.heap_39 w.params).In h₀ → Top p loose mean mg mb h₀ → Fr h₀ L s.heap m → News h₀ L s.heap news →
    (c, cacheObj cd dd mx n t cap al thr) ∈ news → (cd, dictOf [] 0) ∈ news → (dd, od) ∈ news → cd ≠ dd → IsV w od xs → KeysN news xs → KeyN news k kw →
    (∃ x ∈ xs, x.1 = k) → xs.length ≤ 1000 →
    (∀ h' tk' od', Fr h₀ L h' m → IsV w od' (woV xs k) → News h₀ L h' ((dd, od') :: wo [dd] news) → Q .none { s with heap := h', toks := tk' }) →
    wpAny (model PySem.Challenge.rw_eu0033_02.row.prog w) (AA d u gs nm mo gl cl ql fn co bi L outer) (call (.ref 166) [.ref c, kw]) Q E s := by
  k_fill
  intro hdp hu B X T F N h1 h2 h3 n2 hdi hks hk hv hz K
  have hc := hdi.1.1
  have n6 : dd ≠ c := news_nec N h3 h1 (by rw [hc]; simp)
  have n1 : cd ≠ c := news_nec N h2 h1 (by simp)
  have hR1 : ∀ q ∈ wo [dd] news, q.1 ≠ dd := wo_ne (by simp)
  have N1 : News h₀ L s.heap ((c, cacheObj cd dd mx n t cap al thr) :: (cd, dictOf [] 0) :: (dd, od) :: wo [dd] news) :=
    news_cons N h1 (news_cons N h2 (news_cons N h3 (news_mono N fun _ h => wo_sub h)))
  have hsub : ∀ q ∈ news, q.2.cls = .type "tuple" → q ∈ (c, cacheObj cd dd mx n t cap al thr) :: (cd, dictOf [] 0) :: (dd, od) :: wo [dd] news := fun q hq e => by
    have e1 : q.1 ≠ dd := news_nec N hq h3 (by rw [e, hc]; simp)
    exact .tail _ (.tail _ (.tail _ (wo_mem hq (by simp [e1]))))
  have hks' := hks.mono hsub
  have hk' := hk.mono hsub
  generalize wo [dd] news = R at *
  clear N h1 h2 h3 hks hk hsub
  k_steps
  with_reducible rename News h₀ L _ _ => N9
  exact K _ _ _ (by assumption) (by assumption) (news_cons N9 (by k_mem) (news_mono N9 fun q hq => by simp [hq]))
end Mine2
end
section
open PySem PySem.W PyProof.Rows
namespace Mine2
set_option maxRecDepth 100000
set_option maxHeartbeats 8000000
local macro_rules | `(tactic| k_all) => `(tactic| first | assumption)
local macro_rules | `(tactic| k_ne) => `(tactic| (refine neN ?_; (try dsimp only); first | assumption | (apply Ne.symm; assumption)))
local macro_rules | `(tactic| k_room) => `(tactic| ((try simp only [depth_under_make, depth_under_kw, depth_in1, depth_deeper, depth_caller]); show _ < 1000; omega))
local macro_rules | `(tactic| walk_at "delItem ref") => `(tactic| (k_dflt (refine' delItem_own ?k1 ?k2 ?k3 ?k4 ?k5 ?k6 ?_; (case k1 => k_asm); (case k2 => k_asm); (case k3 => k_inst); (case k4 => k_is); (case k5 => k_is); (case k6 => k_is); k_whole)))
variable {w : World} {A₀ : Around} {d u : Nat} {gs : Option (List Code)} {nm : List (Str × NameKind)} {mo : List (Str × PySem.Const)} {gl : Addr} {cl : List (Str × Addr)} {ql : Str} {fn : Option Addr} {co : Value} {bi : Addr} {outer : List Env}
  {base h₀ : Heap} {L : Addr} {s : Shared} {m mg mb : Str → Option Value} {mean : ExcName → Option Value} {loose : List Str} {p : Program} {news : List (Addr × Obj)} {Q : Value → Shared → Prop} {E : Value → Shared → Prop} {keep : List Addr}
local macro_rules | `(tactic| k_all) => `(tactic| first | exact allLt_ne (by assumption) (by assumption) | exact allLt_ne' (by assumption) | exact lt_ne (by assumption) (by assumption) | exact lt_ne' (by assumption))
abbrev igObj (igd it : Addr) : Obj := ⟨.ref 97, some igd, .plain, #[some (.ref it)]⟩
variable {ig igd it tup lst : Addr} {t2 : Tok} {kv v : Value}
theorem ig_new : d ≤ 500 → Below A₀ base outer h₀ → (hd.heap_39 w.params).In h₀ → Top p loose mean mg mb h₀ → Fr h₀ L s.heap m → News h₀ L s.heap news →
    (∀ h' tk' ig igd it, Fr h₀ L h' m → News h₀ L h' ((ig, igObj igd it) :: (igd, dictOf [] 0) :: (it, tupObj [.int 2 t2]) :: news) → (∀ q ∈ news, q.1 < igd) → igd < ig → ig < it → Q (.ref ig) { s with heap := h', toks := tk' }) →
    wpAny (model PySem.Challenge.rw_eu0033_02.row.prog w) (AA d u gs nm mo gl cl ql fn co bi L outer) (call (.ref 97) [.int 2 t2]) Q E s := by
  k_fill
  intro hdp B X T F N K
  k_steps
  with_reducible rename News _ _ _ _ => N9
  with_reducible rename _ ∧ _ => c1
  obtain ⟨-, q2, -⟩ := c1
  exact K _ _ _ _ _ (by assumption) (news_cons N9 (.tail _ (.tail _ (.head _))) (news_cons N9 (by k_mem) (news_cons N9 (by k_mem) (news_mono N9 fun q hq => by simp [hq])))) (by assumption) (by assumption) q2
theorem ig_call : d ≤ 500 → Below A₀ base outer h₀ → (hd.heap_39 w.params).In h₀ → Top p loose mean mg mb h₀ → Fr h₀ L s.heap m → News h₀ L s.heap news →
    (ig, igObj igd it) ∈ news → (igd, dictOf [] 0) ∈ news → (it, tupObj [.int 2 t2]) ∈ news → (tup, tupObj [kv, v, .ref lst]) ∈ news →
    (∀ h' tk', Fr h₀ L h' m → News h₀ L h' news → Q (.ref lst) { s with heap := h', toks := tk' }) →
    wpAny (model PySem.Challenge.rw_eu0033_02.row.prog w) (AA d u gs nm mo gl cl ql fn co bi L outer) (call (.ref ig) [.ref tup]) Q E s := by
  k_fill
  intro hdp B X T F N h1 h2 h3 h4 K
  have N1 : News h₀ L s.heap ((ig, igObj igd it) :: (igd, dictOf [] 0) :: (it, tupObj [.int 2 t2]) :: (tup, tupObj [kv, v, .ref lst]) :: news) := news_cons N h1 (news_cons N h2 (news_cons N h3 (news_cons N h4 N)))
  clear N h1 h2 h3 h4
  k_steps
  with_reducible rename News _ _ _ _ => N9
  exact K _ _ (by assumption) (news_mono N9 fun q hq => by simp [hq])
end Mine2
end
section
open PySem PySem.W PyProof.Rows
namespace Mine2
open MineS MineP MineV
set_option maxRecDepth 100000
set_option maxHeartbeats 8000000
local macro_rules | `(tactic| k_all) => `(tactic| first | assumption)
local macro_rules | `(tactic| k_ne) => `(tactic| (refine neN ?_; (try dsimp only); first | assumption | (apply Ne.symm; assumption)))
local macro_rules | `(tactic| k_room) => `(tactic| ((try simp only [depth_under_make, depth_under_kw, depth_in1, depth_deeper, depth_caller]); show _ < 1000; omega))
local macro_rules | `(tactic| walk_at "delItem ref") => `(tactic| (k_dflt (refine' delItem_own ?k1 ?k2 ?k3 ?k4 ?k5 ?k6 ?_; (case k1 => k_asm); (case k2 => k_asm); (case k3 => k_inst); (case k4 => k_is); (case k5 => k_is); (case k6 => k_is); k_whole)))
variable {w : World} {A₀ : Around} {d u : Nat} {gs : Option (List Code)} {nm : List (Str × NameKind)} {mo : List (Str × PySem.Const)} {gl : Addr} {cl : List (Str × Addr)} {ql : Str} {fn : Option Addr} {co : Value} {bi : Addr} {outer : List Env}
  {base h₀ : Heap} {L : Addr} {s : Shared} {m mg mb : Str → Option Value} {mean : ExcName → Option Value} {loose : List Str} {p : Program} {news : List (Addr × Obj)} {Q : Value → Shared → Prop} {E : Value → Shared → Prop} {keep : List Addr}
theorem srows_of {α : Type} {rows : List (Row α)} {srt : List (Value × Int)} (hs : Srt (((kvsOf rows).map (·.2)).zip (rows.map (·.ctr))) srt) :
    ∃ srows : List (Row α), srows.Perm rows ∧ srt.map Prod.fst = srows.map (fun r => .ref r.tup) ∧ srows.Pairwise fun a b => b.ctr < a.ctr := by
  have hz : ((kvsOf rows).map (·.2)).zip (rows.map (·.ctr)) = rows.map fun r => (Value.ref r.tup, r.ctr) := by
    simp [kvsOf, List.zip_map']
  rw [hz] at hs
  obtain ⟨h1, h2⟩ := hs
  obtain ⟨sr, p, e⟩ := perm_map_inv h1.symm rfl
  refine ⟨sr, p, by rw [← e, List.map_map]; rfl, ?_⟩
  rw [← e, List.pairwise_map] at h2
  exact h2
variable {ig igd it dd v : Addr} {t2 : Tok} {od : Obj} {α : Type} [DecidableEq α] {knd : PySem.KeyKind PySem.Challenge.rw_eu0033_02.row.prog w α} {rows : List (Row α)}
theorem sorted_rows : d ≤ 400 → u ≤ 9000 → Below A₀ base outer h₀ → (hd.heap_39 w.params).In h₀ → Top p loose mean mg mb h₀ → Fr h₀ L s.heap m → News h₀ L s.heap news →
    (v, ({ cls := .type "dict_values", data := .fields #[.ref dd] } : Obj)) ∈ news → (dd, od) ∈ news → od.IsDictOf knd (kvsOf rows) → RowsIn news rows → (rows.map (·.ctr)).Nodup → rows.length ≤ 60 →
    (ig, igObj igd it) ∈ news → (igd, dictOf [] 0) ∈ news → (it, tupObj [.int 2 t2]) ∈ news →
    (∀ h' tk' D ep (srows : List (Row α)), Fr h₀ L h' m → News h₀ L h' ((D, listOf (List.toArray (srows.map fun r => Value.ref r.tup)) ep) :: news) → (∀ q ∈ news, q.1 < D) → srows.Perm rows → srows.Pairwise (fun a b : Row α => b.ctr < a.ctr) → Q (.ref D) { s with heap := h', toks := tk' }) →
    wpAny (model PySem.Challenge.rw_eu0033_02.row.prog w) (AA d u gs nm mo gl cl ql fn co bi L outer) (call (.builtin "sorted") [.ref v] [(Str.ofString "key", .ref ig), (Str.ofString "reverse", .bool true)]) Q E s := by
  intro hdp hu B X T F N h1 h2 hdi hrows hnd hz h3 h4 h5 K
  have hkl : (kvsOf rows).length = rows.length := by simp [kvsOf]
  refine sorted_values (ls := rows.map (·.lst)) (cs := rows.map (·.ctr)) (by show u + 1 + 1 < _; unfold cLine; omega) rfl F N h1 h2 hdi (by omega) (by simp [kvsOf]) (by simp [kvsOf]) (fun i l c e1 e2 => ?_) hnd (fun i x l e1 e2 h tk own Fa Na => ?_) fun D h' tk c srt F' N' hlt hs => ?_
  · rw [List.getElem?_map] at e1 e2
    rcases hr : rows[i]? with _ | r
    · rw [hr] at e1; cases e1
    · rw [hr] at e1 e2
      cases e1; cases e2
      exact ⟨_, _, (hrows r (List.mem_of_getElem? hr)).2⟩
  · rw [List.getElem?_map] at e1 e2
    rcases hr : rows[i]? with _ | r
    · rw [hr] at e2; cases e2
    · rw [hr] at e2
      cases e2
      simp only [kvsOf, List.getElem?_map, hr, Option.map_some, Option.some.injEq] at e1
      subst e1
      have hm := hrows r (List.mem_of_getElem? hr)
      refine ig_call (s := { s with heap := h, toks := tk }) (d := d) (gs := gs) (u := u + 1 + 1) (news := own ++ news) (by omega) B X T Fa Na (List.mem_append_right _ h3) (List.mem_append_right _ h4) (List.mem_append_right _ h5) (List.mem_append_right _ hm.1) ?_
      intro h' tk' F' N'
      exact ⟨h', tk', rfl, rfl, F', N'⟩
  · obtain ⟨sr, hp, e, ho⟩ := srows_of hs
    rw [e] at N'
    exact K h' tk D c sr F' N' hlt hp ho
section
variable {prog : Program} {A : Around} {value slice : PySem.Expr} {l sl : Addr} {xs : List Value} {ep : Nat} {cap : Int} {tc : Tok}
theorem slice_tail {Q : Value → Shared → Prop} (F : Fr h₀ L s.heap m) (N : News h₀ L s.heap news) (h1 : (l, listOf xs.toArray ep) ∈ news) (h2 : (sl, ({ cls := .type "slice", data := .fields #[.int cap tc, .none, .none] } : Obj)) ∈ news)
    (h0 : 0 ≤ cap) (hle : cap ≤ xs.length) (hsz : xs.length ≤ 1000)
    (h : ∀ h' a, Fr h₀ L h' m → News h₀ L h' ((a, listOf (xs.drop cap.toNat).toArray 0) :: news) → (∀ q ∈ news, q.1 < a) → Q (.ref a) { s with heap := h' })
    (hs : subscripted slice false (.ref l) (.ref sl) = operate [.ref sl, .ref l] (getItem (.ref l) (.ref sl)) := by with_unfolding_all rfl)
    (ht : ∀ r, letTemporaryGo value (.ref l) r = pure () := by intro _; with_unfolding_all rfl) :
    wpAny (model prog w) A (subscriptTail value slice (.ref l) (.ref sl)) Q E s := by
  have hl : s.heap.IsList l xs.toArray := ⟨_, (N _ h1).1, rfl, _, rfl⟩
  have hsl : s.heap.IsSliceOf sl (.int cap tc) .none .none := ⟨_, (N _ h2).1, rfl, rfl⟩
  refine subscriptTail_ops (Heap.IsList.typeIs hl) list_getitem_lookup (wpAny_getItem_list_slice hl hsl (.int _ _) .none .none (by simp) ?_ (by rw [List.size_toArray, sizeLine_eq]; omega)) hs ht
  have e : slicePick xs.toArray (some cap) none none = (xs.drop cap.toNat).toArray := by
    obtain ⟨k, rfl⟩ : ∃ k : Nat, cap = (k : Int) := ⟨cap.toNat, by omega⟩
    rw [slicePick_from xs.toArray k (by simp; omega)]
    simp
  rw [e]
  exact h _ _ (F.push _) (News.push F N _) fun q hq => Heap.lt_size (N q hq).1
end
section
variable {prog : Program} {A : Around} {env : Env} {x : Str} {body : List Stmt} {QF : Flow → Shared → Prop} {I : Addr} {lp : Addr × Obj} {m0 : Str → Option Value} {β : Type} {f : β → Value} {J : List β → List (Addr × Obj) → Prop}
theorem listRest_rows (hm0 : m0 x = none)
    (step : ∀ a r n, lp ∈ n → J (a :: r) n → ∀ o (it : Obj) h tk, it.cls = .type "list_iterator" → Fr h₀ env.locals h (fun y => if y = x then some (f a) else if y = x then o else m0 y) → News h₀ env.locals h ((I, it) :: n) →
      wpAny (model prog w) A (execs body env) (UnrPost h₀ env.locals { s with heap := h, toks := tk } I it (fun m' n' => lp ∈ n' ∧ (m' = fun y => if y = x then some (f a) else if y = x then o else m0 y) ∧ J r n') QF) E { s with heap := h, toks := tk })
    (done : ∀ o n, J [] n → ∀ h tk, Fr h₀ env.locals h (fun y => if y = x then o else m0 y) → News h₀ env.locals h n → QF .next { s with heap := h, toks := tk })
    (rs : List β) (n : List (Addr × Obj)) (hlp : lp ∈ n) (hJ : J rs n) : ListRest prog w A E h₀ env x body QF s I lp (rs.map f) m0 n := by
  suffices H : ∀ (rs : List β) (n : List (Addr × Obj)) (o : Option Value), lp ∈ n → J rs n → ListRest prog w A E h₀ env x body QF s I lp (rs.map f) (fun y => if y = x then o else m0 y) n by
    have e : (fun y => if y = x then none else m0 y) = m0 := funext fun y => by
      by_cases h : y = x
      · subst h; simp [hm0]
      · simp [h]
    have := H rs n none hlp hJ
    rw [e] at this
    exact this
  intro rs
  induction rs with
  | nil => intro n o hlp hj; exact ListRest.zero fun h tk F N => done o n hj h tk F N
  | cons a r ih =>
    intro n o hlp hj
    refine ListRest.succ fun it h tk hc F N => wpAny_mono (step a r n hlp hj o it h tk hc F N) (fun fl s' hp => ?_) fun _ _ e => e
    have fin : UnrEnd h₀ env.locals { s with heap := h, toks := tk } I it (fun m' n' => lp ∈ n' ∧ (m' = fun y => if y = x then some (f a) else if y = x then o else m0 y) ∧ J r n') s' →
        UnrEnd h₀ env.locals { s with heap := h, toks := tk } I it (fun m' n' => lp ∈ n' ∧ ListRest prog w A E h₀ env x body QF s I lp (r.map f) m' n') s' := by
      rintro ⟨h', tk', m', n', e, F', N', ho, hlp, rfl, hj'⟩
      refine ⟨h', tk', _, n', e, F', N', ho, hlp, ?_⟩
      have e2 : (fun y => if y = x then some (f a) else if y = x then o else m0 y) = fun y => if y = x then some (f a) else m0 y := funext fun y => by
        by_cases h : y = x <;> simp [h]
      rw [e2]
      exact ih n' _ hlp hj'
    cases fl with
    | ret v => exact hp
    | brk => exact hp
    | next => exact fin hp
    | cont => exact fin hp
end
theorem unrEnd_wo {I : Addr} {it : Obj} {rest : (Str → Option Value) → List (Addr × Obj) → Prop} {s₁ : Shared} {h' : Heap} {tk : Nat} {m' : Str → Option Value} {all : List (Addr × Obj)} (F : Fr h₀ L h' m') (N : News h₀ L h' all) (hI : (I, it) ∈ all) (r : rest m' (wo [I] all)) :
    UnrEnd h₀ L s₁ I it rest { s₁ with heap := h', toks := tk } :=
  UnrEnd.intro F N (wo [I] all) (fun p hp => by
    rcases List.mem_cons.mp hp with rfl | hp
    · exact hI
    · exact wo_sub hp) (wo_ne (by simp)) r
theorem without_rows {α : Type} [DecidableEq α] (rows : List (Row α)) (p : Row α → Bool) (k : α) : without (kvsOf (rows.filter p)) k = kvsOf (rows.filter fun r => p r && decide (r.key ≠ k)) := by
  unfold without kvsOf
  rw [List.filter_map, List.filter_filter]
  congr 1
  refine List.filter_congr fun r _ => ?_
  simp [Bool.and_comm]
theorem rows_value {α : Type} [DecidableEq α] {rows : List (Row α)} {r : Row α} (hr : r ∈ rows) : (valueAt (kvsOf rows) r.key).isSome = true := by
  unfold valueAt kvsOf
  rw [Option.isSome_map, List.find?_isSome]
  exact ⟨_, List.mem_map.mpr ⟨r, hr, rfl⟩, by simp⟩
/-- the rows that are left when the rows of 'gone' have been taken -/
def left {α : Type} [DecidableEq α] (rows gone : List (Row α)) : List (Row α) := rows.filter fun r => decide (r.key ∉ gone.map (·.key))
theorem left_nil {α : Type} [DecidableEq α] (rows : List (Row α)) : left rows [] = rows := by simp [left]
theorem left_snoc {α : Type} [DecidableEq α] (rows gone : List (Row α)) (a : Row α) : kvsOf (left rows (gone ++ [a])) = without (kvsOf (left rows gone)) a.key := by
  unfold left
  rw [without_rows]
  congr 1
  refine List.filter_congr fun r _ => ?_
  simp [not_or]
theorem left_mem {α : Type} [DecidableEq α] {rows gone rest kept : List (Row α)} {a : Row α} (hnd : (rows.map (·.key)).Nodup) (hp : (kept ++ (gone ++ a :: rest)).Perm rows) : a ∈ left rows gone := by
  have hn : ((kept ++ (gone ++ a :: rest)).map (·.key)).Nodup := (hp.map _).nodup_iff.mpr hnd
  refine List.mem_filter.mpr ⟨hp.mem_iff.mp (by simp), ?_⟩
  simp only [List.map_append, List.map_cons] at hn
  have h1 := (List.nodup_append.mp hn).2.1
  have h2 := (List.nodup_append.mp h1).2.2
  simp only [decide_eq_true_eq]
  intro hm
  exact h2 _ hm _ (List.mem_cons_self ..) rfl
theorem left_perm {α : Type} [DecidableEq α] {rows kept gone : List (Row α)} (hnd : (rows.map (·.key)).Nodup) (hp : (kept ++ gone).Perm rows) : (left rows gone).Perm kept := by
  have hn : ((kept ++ gone).map (·.key)).Nodup := (hp.map _).nodup_iff.mpr hnd
  simp only [List.map_append] at hn
  have h2 := (List.nodup_append.mp hn).2.2
  refine (hp.symm.filter _).trans ?_
  rw [List.filter_append]
  have e1 : kept.filter (fun r => decide (r.key ∉ gone.map (·.key))) = kept := List.filter_eq_self.mpr fun r hr => by
    simp only [decide_eq_true_eq]
    intro hm
    exact h2 _ (List.mem_map_of_mem hr) _ hm rfl
  have e2 : gone.filter (fun r => decide (r.key ∉ gone.map (·.key))) = [] := List.filter_eq_nil_iff.mpr fun r hr => by
    simp only [decide_eq_true_eq]
    exact fun h => h (List.mem_map_of_mem hr)
  rw [e1, e2, List.append_nil]
/-! the rows as a dict's entries; D: the key that the dict holds -/
def xsD (D : Key → Value) (rows : List (Row Key)) : List Ent := rows.map fun r => (r.key, D r.key, Value.ref r.tup)
theorem xsD_len (D : Key → Value) (rows : List (Row Key)) : (xsD D rows).length = rows.length := by simp [xsD]
theorem xsD_keys (D : Key → Value) (rows : List (Row Key)) : (xsD D rows).map (·.1) = rows.map (·.key) := by simp [xsD]
theorem xsD_wo (D : Key → Value) (rows : List (Row Key)) (k : Key) : woV (xsD D rows) k = xsD D (rows.filter fun r => decide (r.key ≠ k)) := by
  unfold woV xsD
  rw [List.filter_map]; rfl
theorem xsD_left (D : Key → Value) (rows gone : List (Row Key)) (a : Row Key) : woV (xsD D (left rows gone)) a.key = xsD D (left rows (gone ++ [a])) := by
  rw [xsD_wo]
  congr 1
  unfold left
  rw [List.filter_filter]
  refine List.filter_congr fun r _ => ?_
  simp [not_or, Bool.and_comm]
theorem xsD_in {D : Key → Value} {rows : List (Row Key)} {r : Row Key} (hr : r ∈ rows) : ∃ x ∈ xsD D rows, x.1 = r.key := ⟨_, List.mem_map.mpr ⟨r, hr, rfl⟩, rfl⟩
theorem xsD_at {D : Key → Value} {rows : List (Row Key)} {r : Row Key} (hn : (rows.map (·.key)).Nodup) (hr : r ∈ rows) : atV (xsD D rows) r.key = some (.ref r.tup) := by
  obtain ⟨j, hj⟩ := List.mem_iff_getElem?.mp hr
  exact atV_some (by rw [xsD_keys]; exact hn) (j := j) (p := (D r.key, .ref r.tup)) (by unfold xsD; rw [List.getElem?_map, hj]; rfl)
theorem xsD_none {D : Key → Value} {rows : List (Row Key)} {k : Key} (h : ∀ r ∈ rows, r.key ≠ k) : atV (xsD D rows) k = none := atV_none fun x hx => by
  obtain ⟨r, hr, rfl⟩ := List.mem_map.mp hx
  exact h r hr
theorem sorted_rowsV {rowsK : List (Row Key)} {D : Key → Value} : d ≤ 400 → u ≤ 9000 → Below A₀ base outer h₀ → (hd.heap_39 w.params).In h₀ → Top p loose mean mg mb h₀ → Fr h₀ L s.heap m → News h₀ L s.heap news →
    (v, ({ cls := .type "dict_values", data := .fields #[.ref dd] } : Obj)) ∈ news → (dd, od) ∈ news → IsV w od (xsD D rowsK) → RowsIn news rowsK → (rowsK.map (·.ctr)).Nodup → rowsK.length ≤ 60 →
    (ig, igObj igd it) ∈ news → (igd, dictOf [] 0) ∈ news → (it, tupObj [.int 2 t2]) ∈ news →
    (∀ h' tk' D ep (srows : List (Row Key)), Fr h₀ L h' m → News h₀ L h' ((D, listOf (List.toArray (srows.map fun r => Value.ref r.tup)) ep) :: news) → (∀ q ∈ news, q.1 < D) → srows.Perm rowsK → srows.Pairwise (fun a b : Row Key => b.ctr < a.ctr) → Q (.ref D) { s with heap := h', toks := tk' }) →
    wpAny (model PySem.Challenge.rw_eu0033_02.row.prog w) (AA d u gs nm mo gl cl ql fn co bi L outer) (call (.builtin "sorted") [.ref v] [(Str.ofString "key", .ref ig), (Str.ofString "reverse", .bool true)]) Q E s := by
  intro hdp hu B X T F N h1 h2 hdi hrows hnd hz h3 h4 h5 K
  have hxl := xsD_len D rowsK
  have hxv : (xsD D rowsK).map (·.2.2) = (kvsOf rowsK).map (·.2) := by simp [xsD, kvsOf]
  refine sorted_valuesV (ls := rowsK.map (·.lst)) (cs := rowsK.map (·.ctr)) (by show u + 1 + 1 < _; unfold cLine; omega) rfl F N h1 h2 hdi (by omega) (by simp [hxl]) (by simp [hxl]) (fun i l c e1 e2 => ?_) hnd (fun i x l e1 e2 h tk own Fa Na => ?_) fun D' h' tk c srt F' N' hlt hs => ?_
  · rw [List.getElem?_map] at e1 e2
    rcases hr : rowsK[i]? with _ | r
    · rw [hr] at e1; cases e1
    · rw [hr] at e1 e2
      cases e1; cases e2
      exact ⟨_, _, (hrows r (List.mem_of_getElem? hr)).2⟩
  · rw [List.getElem?_map] at e2
    rcases hr : rowsK[i]? with _ | r
    · rw [hr] at e2; cases e2
    · rw [hr] at e2
      cases e2
      rw [hxv] at e1
      simp only [kvsOf, List.getElem?_map, hr, Option.map_some, Option.some.injEq] at e1
      subst e1
      have hm := hrows r (List.mem_of_getElem? hr)
      refine ig_call (s := { s with heap := h, toks := tk }) (d := d) (gs := gs) (u := u + 1 + 1) (news := own ++ news) (by omega) B X T Fa Na (List.mem_append_right _ h3) (List.mem_append_right _ h4) (List.mem_append_right _ h5) (List.mem_append_right _ hm.1) ?_
      intro h' tk' F' N'
      exact ⟨h', tk', rfl, rfl, F', N'⟩
  · rw [hxv] at hs
    obtain ⟨sr, hp, e, ho⟩ := srows_of hs
    rw [e] at N'
    exact K h' tk D' c sr F' N' hlt hp ho
end Mine2
end
section
open PySem PySem.W PyProof.Rows
namespace Mine2
open MineS MineP MineV
set_option maxRecDepth 100000
set_option maxHeartbeats 8000000
local macro_rules | `(tactic| k_all) => `(tactic| first | assumption)
local macro_rules | `(tactic| k_ne) => `(tactic| (refine neN ?_; (try dsimp only); first | assumption | (apply Ne.symm; assumption)))
local macro_rules | `(tactic| k_room) => `(tactic| ((try simp only [depth_under_make, depth_under_kw, depth_in1, depth_deeper, depth_caller]); show _ < 1000; omega))
local macro_rules | `(tactic| walk_at "delItem ref") => `(tactic| (k_dflt (refine' delItem_own ?k1 ?k2 ?k3 ?k4 ?k5 ?k6 ?_; (case k1 => k_asm); (case k2 => k_asm); (case k3 => k_inst); (case k4 => k_is); (case k5 => k_is); (case k6 => k_is); k_whole)))
variable {w : World} {A₀ : Around} {d u : Nat} {gs : Option (List Code)} {nm : List (Str × NameKind)} {mo : List (Str × PySem.Const)} {gl : Addr} {cl : List (Str × Addr)} {ql : Str} {fn : Option Addr} {co : Value} {bi : Addr} {outer : List Env}
  {base h₀ : Heap} {L : Addr} {s : Shared} {m mg mb : Str → Option Value} {mean : ExcName → Option Value} {loose : List Str} {p : Program} {news : List (Addr × Obj)} {Q : Value → Shared → Prop} {E : Value → Shared → Prop} {keep : List Addr}
/-- the cache's state in the ledger -/
structure CV (w : World) (keep : List Addr) (news : List (Addr × Obj)) (c cd dd mx md : Addr) (n cap : Int) (thr al : Value) (held : Bool) (D : Key → Value) (rows : List (Row Key)) : Prop where
  hc : ∃ t tc, (c, cacheObj cd dd mx n t (.int cap tc) al thr) ∈ news
  hcd : (cd, dictOf [] 0) ∈ news
  hdd : ∃ od, (dd, od) ∈ news ∧ IsV w od (xsD D rows)
  hmx : (mx, lockObj md) ∈ news
  hmd : ∃ hs hk, (md, heldDict hs hk held) ∈ news
  hrows : RowsIn news rows
  hks : ∀ r ∈ rows, KeyN news r.key (D r.key) ∧ KeyN news r.key r.kv
  hkn : (rows.map (·.key)).Nodup
  hnd : (rows.map (·.ctr)).Nodup
  hle : ∀ r ∈ rows, r.ctr ≤ n
  hlen : rows.length ≤ 60
  n2 : cd ≠ dd
  n7 : md ≠ dd
  n8 : md ≠ cd
  lo : (dd == sysModules) = false
  hoff : ∀ r ∈ rows, r.lst ∉ keep
theorem CV.keysN {c cd dd mx md : Addr} {n cap : Int} {thr al : Value} {b : Bool} {D : Key → Value} {rows : List (Row Key)} (C : CV w keep news c cd dd mx md n cap thr al b D rows) : KeysN news (xsD D rows) := fun x hx => by
  obtain ⟨r, hr, rfl⟩ := List.mem_map.mp hx
  exact (C.hks r hr).1
theorem CV.mono {c cd dd mx md : Addr} {n cap : Int} {thr al : Value} {b : Bool} {D : Key → Value} {rows : List (Row Key)} {news' : List (Addr × Obj)} (C : CV w keep news c cd dd mx md n cap thr al b D rows) (h : ∀ q ∈ news, q ∈ news') : CV w keep news' c cd dd mx md n cap thr al b D rows where
  hc := let ⟨t, tc, q⟩ := C.hc; ⟨t, tc, h _ q⟩
  hcd := h _ C.hcd
  hdd := let ⟨od, q, r⟩ := C.hdd; ⟨od, h _ q, r⟩
  hmx := h _ C.hmx
  hmd := let ⟨a, b, q⟩ := C.hmd; ⟨a, b, h _ q⟩
  hrows := fun r hr => ⟨h _ (C.hrows r hr).1, h _ (C.hrows r hr).2⟩
  hks := fun r hr => ⟨(C.hks r hr).1.mono fun q hq _ => h q hq, (C.hks r hr).2.mono fun q hq _ => h q hq⟩
  hkn := C.hkn
  hnd := C.hnd
  hle := C.hle
  hlen := C.hlen
  n2 := C.n2
  n7 := C.n7
  n8 := C.n8
  lo := C.lo
  hoff := C.hoff
def AlertV (w : World) (keep : List Addr) (f c cd dd mx md hl : Addr) (cap : Int) (thr : Value) (XI : List (Addr × Obj)) : Prop :=
  ∀ {A₀ : Around} {d u : Nat} {gs : Option (List Code)} {nm : List (Str × NameKind)} {mo : List (Str × PySem.Const)} {gl : Addr} {cl : List (Str × Addr)} {ql : Str} {fn : Option Addr} {co : Value} {bi : Addr} {outer : List Env}
    {base h₀ : Heap} {L : Addr} {s : Shared} {m mg mb : Str → Option Value} {mean : ExcName → Option Value} {loose : List Str} {p : Program} {news : List (Addr × Obj)} {Q : Value → Shared → Prop} {E : Value → Shared → Prop} {n : Int} {D : Key → Value} {rows : List (Row Key)} {vs : List Value} {ep : Nat},
    d ≤ 360 → u ≤ 8000 → Below A₀ base outer h₀ → (hd.heap_39 w.params).In h₀ → Top p loose mean mg mb h₀ → Fr h₀ L s.heap m → News h₀ L s.heap news →
    CV w keep news c cd dd mx md n cap thr (.ref f) true D rows → rows.length ≤ 50 → (hl, W.listOf vs.toArray ep) ∈ news → vs.length ≤ 100 → (∀ q ∈ XI, q ∈ news) →
    (∀ h' tk' DL e ep', Fr h₀ L h' m → News h₀ L h' ((DL, W.listOf (rows.map fun r => D r.key).toArray e) :: (hl, W.listOf (vs ++ [Value.ref DL]).toArray ep') :: wo [hl] news) → (∀ q ∈ news, q.1 < DL) → Q .none { s with heap := h', toks := tk' }) →
    wpAny (model PySem.Challenge.rw_eu0033_02.row.prog w) (AA d u gs nm mo gl cl ql fn co bi L outer) (call (.ref f) [.ref c]) Q E s
theorem left_sub {α : Type} [DecidableEq α] (rows gone : List (Row α)) : (left rows gone).Sublist rows := List.filter_sublist
theorem CV.left {c cd dd mx md : Addr} {n cap : Int} {thr al : Value} {b b' : Bool} {D : Key → Value} {rows gone : List (Row Key)} {news' : List (Addr × Obj)} {od' : Obj} {hs : Int} {hk : Tok} (C : CV w keep news c cd dd mx md n cap thr al b D rows) (hd' : IsV w od' (xsD D (left rows gone)))
    (h1 : (dd, od') ∈ news') (h2 : (md, heldDict hs hk b') ∈ news') (h3 : (cd, dictOf [] 0) ∈ news') (h4 : (mx, lockObj md) ∈ news') {t tc : Tok} (h5 : (c, cacheObj cd dd mx n t (.int cap tc) al thr) ∈ news')
    (h6 : RowsIn news' rows) (h7 : ∀ r ∈ rows, KeyN news' r.key (D r.key) ∧ KeyN news' r.key r.kv) : CV w keep news' c cd dd mx md n cap thr al b' D (left rows gone) where
  hc := ⟨t, tc, h5⟩
  hcd := h3
  hdd := ⟨od', h1, hd'⟩
  hmx := h4
  hmd := ⟨hs, hk, h2⟩
  hrows := fun r hr => h6 r ((left_sub rows gone).subset hr)
  hks := fun r hr => h7 r ((left_sub rows gone).subset hr)
  hkn := C.hkn.sublist ((left_sub rows gone).map _)
  hnd := C.hnd.sublist ((left_sub rows gone).map _)
  hle := fun r hr => C.hle r ((left_sub rows gone).subset hr)
  hlen := Nat.le_trans (left_sub rows gone).length_le C.hlen
  n2 := C.n2
  n7 := C.n7
  n8 := C.n8
  lo := C.lo
  hoff := fun r hr => C.hoff r ((left_sub rows gone).subset hr)
end Mine2
end
section
open PySem PySem.W PyProof.Rows
namespace Mine2
open MineS MineP MineV
set_option maxRecDepth 100000
set_option maxHeartbeats 8000000
local macro_rules | `(tactic| k_all) => `(tactic| first | assumption)
local macro_rules | `(tactic| k_ne) => `(tactic| (refine neN ?_; (try dsimp only); first | assumption | (apply Ne.symm; assumption)))
local macro_rules | `(tactic| k_room) => `(tactic| ((try simp only [depth_under_make, depth_under_kw, depth_in1, depth_deeper, depth_caller]); show _ < 1000; omega))
local macro_rules | `(tactic| walk_at "delItem ref") => `(tactic| (k_dflt (refine' delItem_own ?k1 ?k2 ?k3 ?k4 ?k5 ?k6 ?_; (case k1 => k_asm); (case k2 => k_asm); (case k3 => k_inst); (case k4 => k_is); (case k5 => k_is); (case k6 => k_is); k_whole)))
variable {w : World} {A₀ : Around} {d u : Nat} {gs : Option (List Code)} {nm : List (Str × NameKind)} {mo : List (Str × PySem.Const)} {gl : Addr} {cl : List (Str × Addr)} {ql : Str} {fn : Option Addr} {co : Value} {bi : Addr} {outer : List Env}
  {base h₀ : Heap} {L : Addr} {s : Shared} {m mg mb : Str → Option Value} {mean : ExcName → Option Value} {loose : List Str} {p : Program} {news : List (Addr × Obj)} {Q : Value → Shared → Prop} {E : Value → Shared → Prop} {keep : List Addr}
local macro_rules | `(tactic| walk_at "subscriptTail") => `(tactic| (k_dflt (refine v_item_missing (by (simp only [AA, Around.deeper, cLine]; omega)) (by k_asm) (by k_mem) (by k_asm) (by k_asm) (by k_asm) (by k_asm) (by rfl) (by assumption) ?_); intro h' e' x'))
local macro_rules | `(tactic| walk_at "subscriptTail") => `(tactic| (k_dflt (refine v_item (by (simp only [AA, Around.deeper, cLine]; omega)) (by k_asm) (by k_mem) (by k_asm) (by k_asm) (by k_asm) (by assumption) ?_)))
local macro_rules | `(tactic| walk_at "call builtin:dict.get") => `(tactic| (k_dflt (refine v_get1 (by (simp only [AA, Around.deeper, cLine]; omega)) (by k_asm) (by k_mem) (by k_asm) (by k_asm) (by k_asm) (by k_asm) _ (by assumption) ?_); (try dsimp only [Option.getD])))
local macro_rules | `(tactic| walk_at "getMethod ref") => `(tactic| (k_dflt (first | refine v_method PySem.F.slot_dict_get PySem.F.type_dict_get (by k_asm) (by k_mem) (by k_asm) ?_ | refine v_method PySem.F.slot_dict_values PySem.F.type_dict_values (by k_asm) (by k_mem) (by k_asm) ?_)))
local macro_rules | `(tactic| walk_at "delItem ref") => `(tactic| (k_dflt (refine v_del_missing (by (simp only [AA, Around.deeper, cLine]; omega)) (by k_asm) (by k_mem) (by k_asm) (by k_asm) (by k_asm) (by k_asm) (by rfl) (by omega) (by assumption) ?_); intro h' e' x'))
local macro_rules | `(tactic| walk_at "delItem ref") => `(tactic| (k_dflt (refine' v_del ?hu ?F ?N ?U ?d ?hs ?hk ?hz ?hi ?_; (case hu => (simp only [AA, Around.deeper, cLine]; omega)); (case F => k_asm); (case N => k_asm); (case U => k_updF); (case d => k_asm); (case hs => k_asm); (case hk => k_asm); (case hz => omega); (case hi => assumption)); intro h' o' F' N' hd'; (try dsimp only at N')))
local macro_rules | `(tactic| walk_at "setItem ref") => `(tactic| (k_dflt (refine' v_set ?hu ?F ?N ?U ?d ?hs ?hk ?hz ?_; (case hu => (simp only [AA, Around.deeper, cLine]; omega)); (case F => k_asm); (case N => k_asm); (case U => k_updF); (case d => k_asm); (case hs => k_asm); (case hk => k_asm); (case hz => omega)); intro h' o' F' N' hd'; (try dsimp only at N')))
local macro_rules | `(tactic| k_handed) => `(tactic| (exact ThrOK.hand (by assumption)))
local macro_rules | `(tactic| walk_at "binaryOp Mult int") => `(tactic| (k_dflt (refine ThrOK.mul (by assumption) ?_); intro y tky hy))
local macro_rules | `(tactic| walk_at "binaryOp Add int") => `(tactic| (k_dflt (refine ThrOK.add (by assumption) (by assumption) ?_); intro y tky hy))
local macro_rules | `(tactic| walk_at "compareOp Gt int") => `(tactic| (k_dflt (refine ThrOK.gt (by assumption) (by assumption) (by omega) (by omega) ?_)))
local macro_rules | `(tactic| walk_at "enterS") => `(tactic| (refine wpAny_call ?_; (refine' call_SK ?k1 ?k2 ?k3 ?k4 ?k5 ?XB ?TB ?D ?kA ?kf ?kK ?k6 ?k7 ?k8 ?k9 ?kB ?_ ?c2 ?c3 ?c4 ?c5; (case kA => exact rfl); (case kf => exact rfl); (case kK => exact rfl); (case k1 => k_asm); (case k2 => k_asm); (case k3 => k_asm); (case k4 => k_asm); (case k5 => k_asm); (case XB => assumption); (case TB => assumption); (case D => assumption); (case k6 => k_is); (case k7 => k_is); (case k8 => k_room); (case k9 => first | exact binds_K (by k_in) rfl (by k_is) rfl rfl rfl | exact BindsTo.of_eq rfl); (case kB => exact locs rfl); (case c2 => exact rfl); (case c3 => exact rfl); (case c4 => exact rfl); (case c5 => decide); intro g' L' h' F' N' B' X' T' D'; (try dsimp only); (try k_lift B'); (try k_fold))))
local macro_rules | `(tactic| walk_at "LeaveX") => `(tactic| (k_dflt (refine' leaveX_ ?F ?N ?T ?_; (case F => k_asm); (case N => k_asm); (case T => first | assumption | exact KtsTurn.refl); k_whole); intro h₀' b'; (try dsimp only)))
local macro_rules | `(tactic| walk_at "call ref") => `(tactic| (k_dflt (first
  | (refine' release_ ?k1 ?k2 ?k3 ?k4 ?k5 ?k6 ?k7 ?k8 ?_; (case k1 => (try simp only [depth_deeper]); omega); (case k2 => k_asm); (case k3 => k_asm); (case k4 => k_asm); (case k5 => k_asm); (case k6 => k_asm); (case k8 => k_mem); (case k7 => k_updF); k_whole; intro h' tk' F' N'; (try dsimp only at N'))
  | (refine' acquire_free ?k1 ?k2 ?k3 ?k4 ?k5 ?k6 ?k7 ?k8 ?_; (case k1 => (try simp only [depth_deeper]); omega); (case k2 => k_asm); (case k3 => k_asm); (case k4 => k_asm); (case k5 => k_asm); (case k6 => k_asm); (case k8 => k_mem); (case k7 => k_updF); k_whole; intro h' tk' F' N'; (try dsimp only at N'))); (try k_sweep)))
local macro_rules | `(tactic| walk_at "call builtin:len") => `(tactic| ((with_reducible show wpAny _ _ (call (Value.builtin "len") [Value.ref _]) _ _ _); k_dflt (refine v_len (by k_asm) (by k_mem) (by k_asm) (by k_asm) (by omega) ?_)))
local macro_rules | `(tactic| walk_at "WhlIf") => `(tactic| first | (refine WhlIf.no (by simp; omega) ?_) | (refine WhlIf.yes (by simp; omega) ?_))
variable {c cd dd mx md tup lst : Addr} {n : Int} {t : Tok} {cap dbl : Int} {thr : Value} {PM PA : Value → Prop} {tc : Tok} {al : Value} {od : Obj} {xs : List Ent} {key : Str} {kt : Tok} {v : Value} {hs : Int} {tk : Tok}

theorem typeIs_at {a : Addr} {o : Obj} {T : String} (N : News h₀ L s.heap news) (h : (a, o) ∈ news) (hc : o.cls = .type T) : s.TypeIs (.ref a) T := ⟨o, (N _ h).1, hc⟩
local macro_rules | `(tactic| walk_at "call type:bool") => `(tactic| ((with_reducible rename News _ _ _ _ => N3); k_dflt (refine call_bool_fn (typeIs_at N3 (by k_mem) (by assumption)) ?_)))
theorem manage_fit (hal : al = .none) : d ≤ 400 → Below A₀ base outer h₀ → (hd.heap_39 w.params).In h₀ → Top p loose mean mg mb h₀ → Fr h₀ L s.heap m → News h₀ L s.heap news →
    (c, cacheObj cd dd mx n t (.int cap tc) al thr) ∈ news → (cd, dictOf [] 0) ∈ news → (dd, od) ∈ news → cd ≠ dd → IsV w od xs → xs.length ≤ 60 → (dd == sysModules) = false →
    (mx, lockObj md) ∈ news → (md, heldDict hs tk false) ∈ news → md ≠ dd → md ≠ cd → ThrOK PySem.Challenge.rw_eu0033_02.row.prog w cap thr dbl PM PA → 2 * (xs.length : Int) ≤ dbl →
    (∀ h' tk', Fr h₀ L h' m → News h₀ L h' news → Q .none { s with heap := h', toks := tk' }) →
    wpAny (model PySem.Challenge.rw_eu0033_02.row.prog w) (AA d u gs nm mo gl cl ql fn co bi L outer) (call (.ref 181) [.ref c]) Q E s := by
  k_fill
  subst hal
  intro hdp B X T F N h1 h2 h3 n2 hdi hz lo h4 h5 n7 n8 hthr hle K
  have hc := hdi.1.1
  have n6 : dd ≠ c := news_nec N h3 h1 (by rw [hc]; simp)
  have n1 : cd ≠ c := news_nec N h2 h1 (by simp)
  have n3 : mx ≠ c := news_nec N h4 h1 (by simp)
  have n4 : mx ≠ dd := news_nec N h4 h3 (by rw [hc]; simp)
  have n5 : md ≠ c := news_nec N h5 h1 (by simp)
  have n9 : md ≠ mx := news_nec N h5 h4 (by simp)
  have hR1 : ∀ q ∈ wo [md] news, q.1 ≠ md := wo_ne (by simp)
  have N1 : News h₀ L s.heap ((c, cacheObj cd dd mx n t (.int cap tc) _ thr) :: (cd, dictOf [] 0) :: (dd, od) :: (mx, lockObj md) :: (md, heldDict hs tk false) :: wo [md] news) :=
    news_cons N h1 (news_cons N h2 (news_cons N h3 (news_cons N h4 (news_cons N h5 (news_mono N fun _ h => wo_sub h)))))
  have hback : ∀ q ∈ news, q ∈ (md, heldDict hs tk false) :: wo [md] news := fun q hq => by
    by_cases e : q.1 = md
    · have := news_same N h5 hq e; simp [this]
    · exact .tail _ (wo_mem hq (by simpa using e))
  generalize wo [md] news = R at *
  clear N h1 h2 h3 h4 h5
  k_steps
  with_reducible rename News _ _ _ _ => N9
  exact K _ _ (by assumption) (news_mono N9 fun q hq => by have := hback q hq; simp only [List.mem_cons] at this ⊢; rcases this with e | e <;> simp [e])

theorem manage_fit_f {f : Addr} {fo : Obj} (hal : al = .ref f) : d ≤ 400 → Below A₀ base outer h₀ → (hd.heap_39 w.params).In h₀ → Top p loose mean mg mb h₀ → Fr h₀ L s.heap m → News h₀ L s.heap news →
    (c, cacheObj cd dd mx n t (.int cap tc) al thr) ∈ news → (cd, dictOf [] 0) ∈ news → (dd, od) ∈ news → cd ≠ dd → IsV w od xs → xs.length ≤ 60 → (dd == sysModules) = false →
    (f, fo) ∈ news → fo.cls = .type "function" → (mx, lockObj md) ∈ news → (md, heldDict hs tk false) ∈ news → md ≠ dd → md ≠ cd → ThrOK PySem.Challenge.rw_eu0033_02.row.prog w cap thr dbl PM PA → 2 * (xs.length : Int) ≤ dbl →
    (∀ h' tk', Fr h₀ L h' m → News h₀ L h' news → Q .none { s with heap := h', toks := tk' }) →
    wpAny (model PySem.Challenge.rw_eu0033_02.row.prog w) (AA d u gs nm mo gl cl ql fn co bi L outer) (call (.ref 181) [.ref c]) Q E s := by
  k_fill
  subst hal
  intro hdp B X T F N h1 h2 h3 n2 hdi hz lo hf hfc h4 h5 n7 n8 hthr hle K
  have hc := hdi.1.1
  have n6 : dd ≠ c := news_nec N h3 h1 (by rw [hc]; simp)
  have n1 : cd ≠ c := news_nec N h2 h1 (by simp)
  have n3 : mx ≠ c := news_nec N h4 h1 (by simp)
  have n4 : mx ≠ dd := news_nec N h4 h3 (by rw [hc]; simp)
  have n5 : md ≠ c := news_nec N h5 h1 (by simp)
  have n9 : md ≠ mx := news_nec N h5 h4 (by simp)
  have nf : f ≠ md := news_nec N hf h5 (by rw [hfc]; simp)
  have hf' := wo_mem (xs := [md]) hf (by simpa using nf)
  have hR1 : ∀ q ∈ wo [md] news, q.1 ≠ md := wo_ne (by simp)
  have N1 : News h₀ L s.heap ((f, fo) :: (c, cacheObj cd dd mx n t (.int cap tc) _ thr) :: (cd, dictOf [] 0) :: (dd, od) :: (mx, lockObj md) :: (md, heldDict hs tk false) :: wo [md] news) :=
    news_cons N hf (news_cons N h1 (news_cons N h2 (news_cons N h3 (news_cons N h4 (news_cons N h5 (news_mono N fun _ h => wo_sub h))))))
  have hback : ∀ q ∈ news, q ∈ (md, heldDict hs tk false) :: wo [md] news := fun q hq => by
    by_cases e : q.1 = md
    · have := news_same N h5 hq e; simp [this]
    · exact .tail _ (wo_mem hq (by simpa using e))
  generalize wo [md] news = R at *
  clear N h1 h2 h3 h4 h5 hf
  k_steps
  with_reducible rename News _ _ _ _ => N9
  exact K _ _ (by assumption) (news_mono N9 fun q hq => by have := hback q hq; simp only [List.mem_cons] at this ⊢; rcases this with e | e <;> simp [e])

end Mine2
end
section
open PySem PySem.W PyProof.Rows
namespace Mine2
open MineS MineP MineV
set_option maxRecDepth 100000
set_option maxHeartbeats 8000000
local macro_rules | `(tactic| k_all) => `(tactic| first | assumption)
local macro_rules | `(tactic| k_ne) => `(tactic| (refine neN ?_; (try dsimp only); first | assumption | (apply Ne.symm; assumption)))
local macro_rules | `(tactic| k_room) => `(tactic| ((try simp only [depth_under_make, depth_under_kw, depth_in1, depth_deeper, depth_caller]); show _ < 1000; omega))
local macro_rules | `(tactic| walk_at "delItem ref") => `(tactic| (k_dflt (refine' delItem_own ?k1 ?k2 ?k3 ?k4 ?k5 ?k6 ?_; (case k1 => k_asm); (case k2 => k_asm); (case k3 => k_inst); (case k4 => k_is); (case k5 => k_is); (case k6 => k_is); k_whole)))
variable {w : World} {A₀ : Around} {d u : Nat} {gs : Option (List Code)} {nm : List (Str × NameKind)} {mo : List (Str × PySem.Const)} {gl : Addr} {cl : List (Str × Addr)} {ql : Str} {fn : Option Addr} {co : Value} {bi : Addr} {outer : List Env}
  {base h₀ : Heap} {L : Addr} {s : Shared} {m mg mb : Str → Option Value} {mean : ExcName → Option Value} {loose : List Str} {p : Program} {news : List (Addr × Obj)} {Q : Value → Shared → Prop} {E : Value → Shared → Prop} {keep : List Addr}
local macro_rules | `(tactic| walk_at "subscriptTail") => `(tactic| (k_dflt (refine v_item_missing (by (simp only [AA, Around.deeper, cLine]; omega)) (by k_asm) (by k_mem) (by k_asm) (by k_asm) (by k_asm) (by k_asm) (by rfl) (by assumption) ?_); intro h' e' x'))
local macro_rules | `(tactic| walk_at "subscriptTail") => `(tactic| (k_dflt (refine v_item (by (simp only [AA, Around.deeper, cLine]; omega)) (by k_asm) (by k_mem) (by k_asm) (by k_asm) (by k_asm) (by assumption) ?_)))
local macro_rules | `(tactic| walk_at "call builtin:dict.get") => `(tactic| (k_dflt (refine v_get1 (by (simp only [AA, Around.deeper, cLine]; omega)) (by k_asm) (by k_mem) (by k_asm) (by k_asm) (by k_asm) (by k_asm) _ (by assumption) ?_); (try dsimp only [Option.getD])))
local macro_rules | `(tactic| walk_at "getMethod ref") => `(tactic| (k_dflt (first | refine v_method PySem.F.slot_dict_get PySem.F.type_dict_get (by k_asm) (by k_mem) (by k_asm) ?_ | refine v_method PySem.F.slot_dict_values PySem.F.type_dict_values (by k_asm) (by k_mem) (by k_asm) ?_)))
local macro_rules | `(tactic| walk_at "delItem ref") => `(tactic| (k_dflt (refine v_del_missing (by (simp only [AA, Around.deeper, cLine]; omega)) (by k_asm) (by k_mem) (by k_asm) (by k_asm) (by k_asm) (by k_asm) (by rfl) (by omega) (by assumption) ?_); intro h' e' x'))
local macro_rules | `(tactic| walk_at "delItem ref") => `(tactic| (k_dflt (refine' v_del ?hu ?F ?N ?U ?d ?hs ?hk ?hz ?hi ?_; (case hu => (simp only [AA, Around.deeper, cLine]; omega)); (case F => k_asm); (case N => k_asm); (case U => k_updF); (case d => k_asm); (case hs => k_asm); (case hk => k_asm); (case hz => omega); (case hi => assumption)); intro h' o' F' N' hd'; (try dsimp only at N')))
local macro_rules | `(tactic| walk_at "setItem ref") => `(tactic| (k_dflt (refine' v_set ?hu ?F ?N ?U ?d ?hs ?hk ?hz ?_; (case hu => (simp only [AA, Around.deeper, cLine]; omega)); (case F => k_asm); (case N => k_asm); (case U => k_updF); (case d => k_asm); (case hs => k_asm); (case hk => k_asm); (case hz => omega)); intro h' o' F' N' hd'; (try dsimp only at N')))
local macro_rules | `(tactic| k_handed) => `(tactic| (exact ThrOK.hand (by assumption)))
local macro_rules | `(tactic| walk_at "binaryOp Mult int") => `(tactic| (k_dflt (refine ThrOK.mul (by assumption) ?_); intro y tky hy))
local macro_rules | `(tactic| walk_at "binaryOp Add int") => `(tactic| (k_dflt (refine ThrOK.add (by assumption) (by assumption) ?_); intro y tky hy))
local macro_rules | `(tactic| walk_at "compareOp Gt int") => `(tactic| (k_dflt (refine ThrOK.gt (by assumption) (by assumption) (by omega) (by omega) ?_)))
local macro_rules | `(tactic| walk_at "enterS") => `(tactic| (refine wpAny_call ?_; (refine' call_SK ?k1 ?k2 ?k3 ?k4 ?k5 ?XB ?TB ?D ?kA ?kf ?kK ?k6 ?k7 ?k8 ?k9 ?kB ?_ ?c2 ?c3 ?c4 ?c5; (case kA => exact rfl); (case kf => exact rfl); (case kK => exact rfl); (case k1 => k_asm); (case k2 => k_asm); (case k3 => k_asm); (case k4 => k_asm); (case k5 => k_asm); (case XB => assumption); (case TB => assumption); (case D => assumption); (case k6 => k_is); (case k7 => k_is); (case k8 => k_room); (case k9 => first | exact binds_K (by k_in) rfl (by k_is) rfl rfl rfl | exact BindsTo.of_eq rfl); (case kB => exact locs rfl); (case c2 => exact rfl); (case c3 => exact rfl); (case c4 => exact rfl); (case c5 => decide); intro g' L' h' F' N' B' X' T' D'; (try dsimp only); (try k_lift B'); (try k_fold))))
local macro_rules | `(tactic| walk_at "LeaveX") => `(tactic| (k_dflt (refine' leaveX_ ?F ?N ?T ?_; (case F => k_asm); (case N => k_asm); (case T => first | assumption | exact KtsTurn.refl); k_whole); intro h₀' b'; (try dsimp only)))
local macro_rules | `(tactic| walk_at "call ref") => `(tactic| (k_dflt (first
  | (refine' release_ ?k1 ?k2 ?k3 ?k4 ?k5 ?k6 ?k7 ?k8 ?_; (case k1 => (try simp only [depth_deeper]); omega); (case k2 => k_asm); (case k3 => k_asm); (case k4 => k_asm); (case k5 => k_asm); (case k6 => k_asm); (case k8 => k_mem); (case k7 => k_updF); k_whole; intro h' tk' F' N'; (try dsimp only at N'))
  | (refine' acquire_free ?k1 ?k2 ?k3 ?k4 ?k5 ?k6 ?k7 ?k8 ?_; (case k1 => (try simp only [depth_deeper]); omega); (case k2 => k_asm); (case k3 => k_asm); (case k4 => k_asm); (case k5 => k_asm); (case k6 => k_asm); (case k8 => k_mem); (case k7 => k_updF); k_whole; intro h' tk' F' N'; (try dsimp only at N'))); (try k_sweep)))
local macro_rules | `(tactic| walk_at "call builtin:len") => `(tactic| ((with_reducible show wpAny _ _ (call (Value.builtin "len") [Value.ref _]) _ _ _); k_dflt (refine v_len (by k_asm) (by k_mem) (by k_asm) (by k_asm) (by omega) ?_)))
local macro_rules | `(tactic| walk_at "call ref") => `(tactic| (k_dflt (refine' ig_new ?k1 ?k2 ?k3 ?k4 ?k5 ?k6 ?_; (case k1 => (try simp only [depth_deeper]); omega); (case k2 => k_asm); (case k3 => k_asm); (case k4 => k_asm); (case k5 => k_asm); (case k6 => k_asm); k_whole; intro h' tk' ig' igd' it' F' N' l1 l2 l3; (try k_lt l1); (try k_lt2 l2); (try k_lt2 l3)); (try k_sweep)))
local macro_rules | `(tactic| walk_at "call type:bool") => `(tactic| ((with_reducible rename News _ _ _ _ => N3); k_dflt (refine call_bool_fn (typeIs_at N3 (by k_mem) (by rfl)) ?_)))
local macro_rules | `(tactic| walk_at "call builtin:dict.values") => `(tactic| (k_dflt (refine v_values (by k_asm) (by k_asm) (by k_mem) (by k_asm) (by k_asm) ?_); intro Dv' hv' F' N' l1; (try k_lt l1)))
local macro_rules | `(tactic| walk_at "exec For") => `(tactic| (k_here; (rename Fr _ _ _ _ => lF'); (with_unfolding_all refine' For_invVF lF' ?k1 ?k2 ?_; (case k1 => exact rfl); (case k2 => exact rfl); k_whole)))
local macro_rules | `(tactic| walk_at "pyIter ref") => `(tactic| ((with_reducible show wpAny _ _ (pyIter (Value.ref _)) (fun it s₂ => LoopAtV _ _ _ _ _ _ _ _ _ it s₂) _ _); ((rename Fr _ _ _ _ => lF'); (rename News _ _ _ _ => lN'); (with_unfolding_all refine iter_listUnr (vs := (slicePick _ _ _ _).toList) (by rfl) lF' lN' (by k_mem) (by rfl) (by rfl) ?_); intro i' l1; (try k_lt l1))))
local macro_rules | `(tactic| walk_at "WhlIf") => `(tactic| first | (refine WhlIf.no (by simp; omega) ?_) | (refine WhlIf.yes (by simp; omega) ?_))

variable {f c cd dd mx md hl : Addr} {n : Int} {cap dbl : Int} {thr : Value} {PM PA : Value → Prop} {D : Key → Value} {rows : List (Row Key)} {fd : FuncData} {fod : Option Addr} {fsl : Array (Option Value)} {XI : List (Addr × Obj)} {vs : List Value} {ep0 : Nat}

theorem keysN_at {h : Heap} {R news' : List (Addr × Obj)} {xs : List Ent} (_N : News h₀ L h news') (x : KeysN R xs) (sub : ∀ q ∈ R, q ∈ news') : KeysN news' xs := x.mono fun q hq _ => sub q hq
theorem keyN_at {h : Heap} {R news' : List (Addr × Obj)} {k : Key} {v : Value} (_N : News h₀ L h news') (x : KeyN R k v) (sub : ∀ q ∈ R, q ∈ news') : KeyN news' k v := x.mono fun q hq _ => sub q hq
theorem manage_clear_v : d ≤ 350 → u ≤ 7000 → Below A₀ base outer h₀ → (hd.heap_39 w.params).In h₀ → Top p loose mean mg mb h₀ → Fr h₀ L s.heap m → News h₀ L s.heap news →
    CV w keep news c cd dd mx md n cap thr .none false D rows → rows.length ≤ 50 → ThrOK PySem.Challenge.rw_eu0033_02.row.prog w cap thr dbl PM PA → 0 ≤ cap → 2 * cap ≤ dbl → dbl < 2 * (rows.length : Int) →
    (∀ h' tk' news' (srows : List (Row Key)), Fr h₀ L h' m → News h₀ L h' news' → srows.Perm rows → srows.Pairwise (fun a b : Row Key => b.ctr < a.ctr) → CV w keep news' c cd dd mx md n cap thr .none false D (left rows (srows.drop cap.toNat)) → 
      (∀ q ∈ news, q.1 ≠ dd → q.1 ≠ md → q ∈ news') → Q .none { s with heap := h', toks := tk' }) →
    wpAny (model PySem.Challenge.rw_eu0033_02.row.prog w) (AA d u gs nm mo gl cl ql fn co bi L outer) (call (.ref 181) [.ref c]) Q E s := by
  k_fill
  intro hdp hu B X T F N C hl50 hthr c0 c2 hle K
  obtain ⟨⟨t, tc, h1⟩, h2, ⟨od, h3, hdi⟩, h4, ⟨hs, hk, h5⟩, hrows, hks, hkn, hnd, hnl, hlen, n2, n7, n8, lo, hoff⟩ := id C
  have hkN := C.keysN
  have hc := hdi.1.1
  have n6 : dd ≠ c := news_nec N h3 h1 (by rw [hc]; simp)
  have n1 : cd ≠ c := news_nec N h2 h1 (by simp)
  have n3 : mx ≠ c := news_nec N h4 h1 (by simp)
  have n4 : mx ≠ dd := news_nec N h4 h3 (by rw [hc]; simp)
  have n5 : md ≠ c := news_nec N h5 h1 (by simp)
  have n9 : md ≠ mx := news_nec N h5 h4 (by simp)
  have hxl := xsD_len D rows
  have hR1 : ∀ q ∈ wo [md, dd] news, q.1 ≠ md := wo_ne (by simp)
  have hR2 : ∀ q ∈ wo [md, dd] news, q.1 ≠ dd := wo_ne (by simp)
  have N1 := news_cons N h1 (news_cons N h2 (news_cons N h3 (news_cons N h4 (news_cons N h5 (news_mono (news' := wo [md, dd] news) N fun _ h => wo_sub h)))))
  have hback : ∀ q ∈ news, q.1 ≠ dd → q.1 ≠ md → q ∈ wo [md, dd] news := fun q hq e2 e1 => wo_mem hq (by simp [e1, e2])
  have htup : ∀ q ∈ news, q.2.cls = .type "tuple" → q ∈ wo [md, dd] news := fun q hq e => by
    have e1 : q.1 ≠ md := news_nec N hq h5 (by rw [e]; simp)
    have e2 : q.1 ≠ dd := news_nec N hq h3 (by rw [e, hc]; simp)
    exact hback q hq e2 e1
  have hrows' : RowsIn (wo [md, dd] news) rows := fun r hr => by
    obtain ⟨q1, q2⟩ := hrows r hr
    have e1 := news_nec N q2 h5 (by simp)
    have e2 := news_nec N q2 h3 (by rw [hc]; simp)
    exact ⟨htup _ q1 rfl, hback _ q2 e2 e1⟩
  have hks' : ∀ r ∈ rows, KeyN (wo [md, dd] news) r.key (D r.key) ∧ KeyN (wo [md, dd] news) r.key r.kv := fun r hr => ⟨(hks r hr).1.mono htup, (hks r hr).2.mono htup⟩
  have hkN' := hkN.mono htup
  have hbackR := hback
  generalize wo [md, dd] news = R at *
  clear N h1 h2 h3 h4 h5 hrows hks hkN htup hback
  have hkN1 := hkN'.mono (news' := (c, cacheObj cd dd mx n t (.int cap tc) .none thr) :: (cd, dictOf [] 0) :: (dd, od) :: (mx, lockObj md) :: (md, heldDict hs hk false) :: R) fun q hq _ => .tail _ (.tail _ (.tail _ (.tail _ (.tail _ hq))))
  k_steps
  (with_unfolding_all show wpAny _ _ (call (Value.builtin "sorted") [Value.ref _] [(Str.ofString "key", Value.ref _), (Str.ofString "reverse", Value.bool true)]) _ _ _)
  k_dflt (refine' sorted_rowsV (rowsK := rows) (D := D) ?k1 ?ku ?k2 ?k3 ?k4 ?k5 ?k6 ?k7 ?k8 ?k9 ?ka ?kb ?kc ?kd ?ke ?kf ?_)
  case k1 => (try simp only [depth_deeper]); omega
  case ku => (simp only [AA]; omega)
  case k2 => k_asm
  case k3 => k_asm
  case k4 => k_asm
  case k5 => k_asm
  case k6 => k_asm
  case k7 => k_mem
  case k8 => k_mem
  case k9 => k_asm
  case ka => exact fun r hr => ⟨by have := (hrows' r hr).1; simp [this], by have := (hrows' r hr).2; simp [this]⟩
  case kb => assumption
  case kc => assumption
  case kd => k_mem
  case ke => k_mem
  case kf => k_mem
  k_whole
  intro h' tk' DS eps srows F' N' l1 hperm hord
  k_lt l1
  have hsl := hperm.length_eq
  k_steps
  have hpick : (slicePick (List.map (fun r : Row Key => Value.ref r.tup) srows).toArray (some cap) none none).toList = (srows.drop cap.toNat).map fun r => Value.ref r.tup := by
    obtain ⟨k, hk0⟩ : ∃ k : Nat, cap = (k : Int) := ⟨cap.toNat, by omega⟩
    rw [hk0, slicePick_from _ k (by simp; omega)]
    simp
  rename_i hx lF lN I lI
  rw [hpick]
  have hall : ∀ q ∈ R, q.1 < I := by
    have z := lI
    repeat (first | exact allLt_mem z | replace z := z.2)
  have hprm : (srows.take cap.toNat ++ srows.drop cap.toNat).Perm rows := by rw [List.take_append_drop]; exact hperm
  refine listRest_rows (J := fun rs n' => ∃ gone od', srows.drop cap.toNat = gone ++ rs ∧ IsV w od' (xsD D (left rows gone)) ∧ (dd, od') ∈ n' ∧ (c, cacheObj cd dd mx n t (.int cap tc) .none thr) ∈ n' ∧ (cd, dictOf [] 0) ∈ n' ∧ (mx, lockObj md) ∈ n' ∧ (md, heldDict hs hk true) ∈ n' ∧ ∀ q ∈ R, q ∈ n') (by rfl) ?step ?done _ _ (by k_mem) ⟨[], od, rfl, by rw [left_nil]; exact hdi, by k_mem, by k_mem, by k_mem, by k_mem, by k_mem, fun q hq => by simp [hq]⟩
  case step =>
    intro a r n' hlp hj o it h tk2 hc F N
    obtain ⟨gone, od', e1, hd', m1, m2, m3, m4, m5, m6⟩ := hj
    have ha : a ∈ left rows gone := left_mem hkn (by rw [← e1]; exact hprm)
    have har : a ∈ rows := (List.mem_filter.mp ha).1
    have hin := xsD_in (D := D) ha
    have hR := hrows' a har
    have m7 : (a.tup, ({ cls := .type "tuple", data := .seq [a.kv, a.val, .ref a.lst].toArray } : Obj)) ∈ n' := m6 _ hR.1
    have q1 : a.tup ≠ dd := hR2 _ hR.1
    have q2 : I ≠ dd := by refine neN ?_; omega
    have q4 := news_nec N (.tail _ hlp) (.tail _ m1) (by rw [hd'.1.1]; simp)
    (try dsimp only at q4)
    have hz3 : (xsD D (left rows gone)).length ≤ 60 := by
      rw [xsD_len]
      have := (left_sub rows gone).length_le
      omega
    have N1 := news_cons N (.head _) (news_cons N (.tail _ hlp) (news_cons N (.tail _ m1) (news_cons N (.tail _ m2) (news_cons N (.tail _ m3) (news_cons N (.tail _ m4) (news_cons N (.tail _ m5) (news_cons N (.tail _ m7) (news_mono (news' := R) N fun q hq => .tail _ (m6 q hq)))))))))
    have hkA := keysN_at N1 (fun x hx => hkN' x (by
      obtain ⟨y, hy, rfl⟩ := List.mem_map.mp hx
      exact List.mem_map.mpr ⟨y, (List.mem_filter.mp hy).1, rfl⟩) : KeysN R (xsD D (left rows gone))) fun q hq => by simp [hq]
    have hkB := keyN_at N1 (hks' a har).2 fun q hq => by simp [hq]
    clear N hkN1
    k_steps
    with_reducible rename News _ _ _ _ => N9
    have i1 := lI.1
    (try dsimp only at i1)
    have i2 : dd ≠ I := Ne.symm q2
    have i3 : c ≠ I := by refine neN ?_; omega
    have i4 : cd ≠ I := by refine neN ?_; omega
    have i5 : mx ≠ I := by refine neN ?_; omega
    have i6 : md ≠ I := by refine neN ?_; omega
    refine unrEnd_wo (by assumption) N9 (by k_mem) ⟨wo_mem (by k_mem) (by simpa using Nat.ne_of_lt i1), rfl, gone ++ [a], _, by rw [e1, List.append_assoc]; rfl, by rw [← xsD_left]; assumption, wo_mem (by k_mem) (by simpa using i2), wo_mem (by k_mem) (by simpa using i3), wo_mem (by k_mem) (by simpa using i4), wo_mem (by k_mem) (by simpa using i5), wo_mem (by k_mem) (by simpa using i6), fun q hq => wo_mem (by simp [hq]) (by simpa using Nat.ne_of_lt (hall q hq))⟩
  case done =>
    intro o n' hj h tk2 F N
    obtain ⟨gone, od', e1, hd', m1, m2, m3, m4, m5, m6⟩ := hj
    have hpm := left_perm (kept := srows.take cap.toNat) (gone := gone) hkn (by rw [show gone = srows.drop cap.toNat by rw [e1]; simp]; exact hprm)
    have hlen9 : ((xsD D (left rows gone)).length : Int) ≤ cap := by
      have := hpm.length_eq
      rw [xsD_len, this, List.length_take]; omega
    have hg : gone = srows.drop cap.toNat := by rw [e1]; simp
    have N1 := news_cons N m1 (news_cons N m2 (news_cons N m3 (news_cons N m4 (news_cons N m5 (news_mono (news' := R) N m6)))))
    clear N e1 hkN1
    k_steps
    with_reducible rename News h₀ L _ _ => N9
    subst hg
    have hin : ∀ q ∈ R, q ∈ _ := fun q hq => (by simp [hq] : q ∈ (dd, od') :: (c, cacheObj cd dd mx n t (.int cap tc) .none thr) :: (cd, dictOf [] 0) :: (mx, lockObj md) :: (md, heldDict hs hk false) :: R)
    refine K _ _ _ srows (by assumption) (news_mono N9 fun q hq => by simp only [List.mem_cons] at hq ⊢; rcases hq with e | e | e | e | e | e <;> simp [e]) hperm hord ?_ (fun q hq e2 e1 => hin _ (hbackR q hq e2 e1))
    exact CV.left C hd' (.head _) (by k_mem) (by k_mem) (by k_mem) (by k_mem) (fun r hr => ⟨hin _ (hrows' r hr).1, hin _ (hrows' r hr).2⟩) fun r hr => ⟨(hks' r hr).1.mono fun q hq _ => hin q hq, (hks' r hr).2.mono fun q hq _ => hin q hq⟩
end Mine2
end
section
open PySem PySem.W PyProof.Rows
namespace Mine2
open MineS MineP MineV
set_option maxRecDepth 100000
set_option maxHeartbeats 8000000
local macro_rules | `(tactic| k_all) => `(tactic| first | assumption)
local macro_rules | `(tactic| k_ne) => `(tactic| (refine neN ?_; (try dsimp only); first | assumption | (apply Ne.symm; assumption)))
local macro_rules | `(tactic| k_room) => `(tactic| ((try simp only [depth_under_make, depth_under_kw, depth_in1, depth_deeper, depth_caller]); show _ < 1000; omega))
local macro_rules | `(tactic| walk_at "delItem ref") => `(tactic| (k_dflt (refine' delItem_own ?k1 ?k2 ?k3 ?k4 ?k5 ?k6 ?_; (case k1 => k_asm); (case k2 => k_asm); (case k3 => k_inst); (case k4 => k_is); (case k5 => k_is); (case k6 => k_is); k_whole)))
variable {w : World} {A₀ : Around} {d u : Nat} {gs : Option (List Code)} {nm : List (Str × NameKind)} {mo : List (Str × PySem.Const)} {gl : Addr} {cl : List (Str × Addr)} {ql : Str} {fn : Option Addr} {co : Value} {bi : Addr} {outer : List Env}
  {base h₀ : Heap} {L : Addr} {s : Shared} {m mg mb : Str → Option Value} {mean : ExcName → Option Value} {loose : List Str} {p : Program} {news : List (Addr × Obj)} {Q : Value → Shared → Prop} {E : Value → Shared → Prop} {keep : List Addr}
local macro_rules | `(tactic| walk_at "subscriptTail") => `(tactic| (k_dflt (refine v_item_missing (by (simp only [AA, Around.deeper, cLine]; omega)) (by k_asm) (by k_mem) (by k_asm) (by k_asm) (by k_asm) (by k_asm) (by rfl) (by assumption) ?_); intro h' e' x'))
local macro_rules | `(tactic| walk_at "subscriptTail") => `(tactic| (k_dflt (refine v_item (by (simp only [AA, Around.deeper, cLine]; omega)) (by k_asm) (by k_mem) (by k_asm) (by k_asm) (by k_asm) (by assumption) ?_)))
local macro_rules | `(tactic| walk_at "call builtin:dict.get") => `(tactic| (k_dflt (refine v_get1 (by (simp only [AA, Around.deeper, cLine]; omega)) (by k_asm) (by k_mem) (by k_asm) (by k_asm) (by k_asm) (by k_asm) _ (by assumption) ?_); (try dsimp only [Option.getD])))
local macro_rules | `(tactic| walk_at "getMethod ref") => `(tactic| (k_dflt (first | refine v_method PySem.F.slot_dict_get PySem.F.type_dict_get (by k_asm) (by k_mem) (by k_asm) ?_ | refine v_method PySem.F.slot_dict_values PySem.F.type_dict_values (by k_asm) (by k_mem) (by k_asm) ?_)))
local macro_rules | `(tactic| walk_at "delItem ref") => `(tactic| (k_dflt (refine v_del_missing (by (simp only [AA, Around.deeper, cLine]; omega)) (by k_asm) (by k_mem) (by k_asm) (by k_asm) (by k_asm) (by k_asm) (by rfl) (by omega) (by assumption) ?_); intro h' e' x'))
local macro_rules | `(tactic| walk_at "delItem ref") => `(tactic| (k_dflt (refine' v_del ?hu ?F ?N ?U ?d ?hs ?hk ?hz ?hi ?_; (case hu => (simp only [AA, Around.deeper, cLine]; omega)); (case F => k_asm); (case N => k_asm); (case U => k_updF); (case d => k_asm); (case hs => k_asm); (case hk => k_asm); (case hz => omega); (case hi => assumption)); intro h' o' F' N' hd'; (try dsimp only at N')))
local macro_rules | `(tactic| walk_at "setItem ref") => `(tactic| (k_dflt (refine' v_set ?hu ?F ?N ?U ?d ?hs ?hk ?hz ?_; (case hu => (simp only [AA, Around.deeper, cLine]; omega)); (case F => k_asm); (case N => k_asm); (case U => k_updF); (case d => k_asm); (case hs => k_asm); (case hk => k_asm); (case hz => omega)); intro h' o' F' N' hd'; (try dsimp only at N')))
local macro_rules | `(tactic| k_handed) => `(tactic| (exact ThrOK.hand (by assumption)))
local macro_rules | `(tactic| walk_at "binaryOp Mult int") => `(tactic| (k_dflt (refine ThrOK.mul (by assumption) ?_); intro y tky hy))
local macro_rules | `(tactic| walk_at "binaryOp Add int") => `(tactic| (k_dflt (refine ThrOK.add (by assumption) (by assumption) ?_); intro y tky hy))
local macro_rules | `(tactic| walk_at "compareOp Gt int") => `(tactic| (k_dflt (refine ThrOK.gt (by assumption) (by assumption) (by omega) (by omega) ?_)))
local macro_rules | `(tactic| walk_at "enterS") => `(tactic| (refine wpAny_call ?_; (refine' call_SK ?k1 ?k2 ?k3 ?k4 ?k5 ?XB ?TB ?D ?kA ?kf ?kK ?k6 ?k7 ?k8 ?k9 ?kB ?_ ?c2 ?c3 ?c4 ?c5; (case kA => exact rfl); (case kf => exact rfl); (case kK => exact rfl); (case k1 => k_asm); (case k2 => k_asm); (case k3 => k_asm); (case k4 => k_asm); (case k5 => k_asm); (case XB => assumption); (case TB => assumption); (case D => assumption); (case k6 => k_is); (case k7 => k_is); (case k8 => k_room); (case k9 => first | exact binds_K (by k_in) rfl (by k_is) rfl rfl rfl | exact BindsTo.of_eq rfl); (case kB => exact locs rfl); (case c2 => exact rfl); (case c3 => exact rfl); (case c4 => exact rfl); (case c5 => decide); intro g' L' h' F' N' B' X' T' D'; (try dsimp only); (try k_lift B'); (try k_fold))))
local macro_rules | `(tactic| walk_at "LeaveX") => `(tactic| (k_dflt (refine' leaveX_ ?F ?N ?T ?_; (case F => k_asm); (case N => k_asm); (case T => first | assumption | exact KtsTurn.refl); k_whole); intro h₀' b'; (try dsimp only)))
local macro_rules | `(tactic| walk_at "call ref") => `(tactic| (k_dflt (first
  | (refine' release_ ?k1 ?k2 ?k3 ?k4 ?k5 ?k6 ?k7 ?k8 ?_; (case k1 => (try simp only [depth_deeper]); omega); (case k2 => k_asm); (case k3 => k_asm); (case k4 => k_asm); (case k5 => k_asm); (case k6 => k_asm); (case k8 => k_mem); (case k7 => k_updF); k_whole; intro h' tk' F' N'; (try dsimp only at N'))
  | (refine' acquire_free ?k1 ?k2 ?k3 ?k4 ?k5 ?k6 ?k7 ?k8 ?_; (case k1 => (try simp only [depth_deeper]); omega); (case k2 => k_asm); (case k3 => k_asm); (case k4 => k_asm); (case k5 => k_asm); (case k6 => k_asm); (case k8 => k_mem); (case k7 => k_updF); k_whole; intro h' tk' F' N'; (try dsimp only at N'))); (try k_sweep)))
local macro_rules | `(tactic| walk_at "call builtin:len") => `(tactic| ((with_reducible show wpAny _ _ (call (Value.builtin "len") [Value.ref _]) _ _ _); k_dflt (refine v_len (by k_asm) (by k_mem) (by k_asm) (by k_asm) (by omega) ?_)))
local macro_rules | `(tactic| walk_at "call ref") => `(tactic| (k_dflt (refine' ig_new ?k1 ?k2 ?k3 ?k4 ?k5 ?k6 ?_; (case k1 => (try simp only [depth_deeper]); omega); (case k2 => k_asm); (case k3 => k_asm); (case k4 => k_asm); (case k5 => k_asm); (case k6 => k_asm); k_whole; intro h' tk' ig' igd' it' F' N' l1 l2 l3; (try k_lt l1); (try k_lt2 l2); (try k_lt2 l3)); (try k_sweep)))
local macro_rules | `(tactic| walk_at "call type:bool") => `(tactic| ((with_reducible rename News _ _ _ _ => N3); k_dflt (refine call_bool_fn (typeIs_at N3 (by k_mem) (by rfl)) ?_)))
local macro_rules | `(tactic| walk_at "call builtin:dict.values") => `(tactic| (k_dflt (refine v_values (by k_asm) (by k_asm) (by k_mem) (by k_asm) (by k_asm) ?_); intro Dv' hv' F' N' l1; (try k_lt l1)))
local macro_rules | `(tactic| walk_at "exec For") => `(tactic| (k_here; (rename Fr _ _ _ _ => lF'); (with_unfolding_all refine' For_invVF lF' ?k1 ?k2 ?_; (case k1 => exact rfl); (case k2 => exact rfl); k_whole)))
local macro_rules | `(tactic| walk_at "pyIter ref") => `(tactic| ((with_reducible show wpAny _ _ (pyIter (Value.ref _)) (fun it s₂ => LoopAtV _ _ _ _ _ _ _ _ _ it s₂) _ _); ((rename Fr _ _ _ _ => lF'); (rename News _ _ _ _ => lN'); (with_unfolding_all refine iter_listUnr (vs := (slicePick _ _ _ _).toList) (by rfl) lF' lN' (by k_mem) (by rfl) (by rfl) ?_); intro i' l1; (try k_lt l1))))
local macro_rules | `(tactic| walk_at "WhlIf") => `(tactic| first | (refine WhlIf.no (by simp; omega) ?_) | (refine WhlIf.yes (by simp; omega) ?_))
theorem method_slot {prog : Program} {A : Around} {K : Frag} {x C : Addr} {ox : Obj} {od : Option Obj} {name : Str} {pl : Sem Bool} {QM : Value × List Value → Shared → Prop} {pd : Addr} (F : Fr h₀ L s.heap m) (X₀ : K.In h₀) (I : InstAt s.heap x ox C od) (hga : findIn K (.ref C) "__getattribute__" = some (some (.builtin "object.__getattribute__"))) (hk : findIn K (.ref C) "__getattr__" = some none)
    (hf : findIn K (.ref C) name = some (some (.ref pd))) (ht : typeIn K (.ref pd) = some (.type "member_descriptor"))
    (h : wpAny (model prog w) A (getAttr (.ref x) name) (fun v => QM (v, [])) E s) : wpAny (model prog w) A (getMethod (.ref x) name pl) QM E s := method_usual (X₀.keeps F.keep) I hga hk hf (by rw [Option.all_some, ht]; decide +kernel) h
local macro_rules | `(tactic| walk_at "FnAt") => `(tactic| (k_dflt (exact FnAt.of (by k_asm) (by k_mem))))
local macro_rules | `(tactic| walk_at "callWith ref") => `(tactic| (k_dflt (refine' callWith_F ?k1 ?_; (case k1 => exact FnAt.of (by k_asm) (by k_mem)); k_whole)))
local macro_rules | `(tactic| walk_at "getMethod ref") => `(tactic| (k_dflt (refine' method_slot ?k1 ?k2 ?k3 ?k4 ?k5 ?k6 ?k7 ?_; (case k1 => k_asm); (case k2 => k_asm); (case k3 => k_inst); (case k4 => k_is); (case k5 => k_is); (case k6 => k_is); (case k7 => k_is); k_whole)))
variable {f c cd dd mx md hl : Addr} {n : Int} {cap dbl : Int} {thr : Value} {PM PA : Value → Prop} {D : Key → Value} {rows : List (Row Key)} {fd : FuncData} {fod : Option Addr} {fsl : Array (Option Value)} {XI : List (Addr × Obj)} {vs : List Value} {ep0 : Nat}

theorem manage_clear_vf (hal : AlertV w keep f c cd dd mx md hl cap thr XI) : d ≤ 350 → u ≤ 7000 → Below A₀ base outer h₀ → (hd.heap_39 w.params).In h₀ → Top p loose mean mg mb h₀ → Fr h₀ L s.heap m → News h₀ L s.heap news →
    CV w keep news c cd dd mx md n cap thr (.ref f) false D rows → rows.length ≤ 50 → (hl, W.listOf vs.toArray ep0) ∈ news → vs.length ≤ 90 → (∀ q ∈ XI, q ∈ news) → (∀ q ∈ XI, q.1 ≠ md ∧ q.1 ≠ dd ∧ q.1 ≠ hl) → hl ∈ keep → (f, (⟨.type "function", fod, .func fd, fsl⟩ : Obj)) ∈ news → ThrOK PySem.Challenge.rw_eu0033_02.row.prog w cap thr dbl PM PA → 0 ≤ cap → 2 * cap ≤ dbl → dbl < 2 * (rows.length : Int) →
    (∀ h' tk' news' (srows : List (Row Key)) (DL : Addr) (e1 e2 : Nat), Fr h₀ L h' m → News h₀ L h' news' → srows.Perm rows → srows.Pairwise (fun a b : Row Key => b.ctr < a.ctr) → CV w keep news' c cd dd mx md n cap thr (.ref f) false D (left rows (srows.drop cap.toNat)) → (DL, W.listOf (rows.map fun r => D r.key).toArray e1) ∈ news' → (hl, W.listOf (vs ++ [Value.ref DL]).toArray e2) ∈ news' → (∀ q ∈ news, q.1 < DL) →
      (∀ q ∈ news, q.1 ≠ dd → q.1 ≠ hl → q.1 ≠ md → q ∈ news') → Q .none { s with heap := h', toks := tk' }) →
    wpAny (model PySem.Challenge.rw_eu0033_02.row.prog w) (AA d u gs nm mo gl cl ql fn co bi L outer) (call (.ref 181) [.ref c]) Q E s := by
  k_fill
  intro hdp hu B X T F N C hl50 hh hvl hX hXo hlk hf hthr c0 c2 hle K
  obtain ⟨⟨t, tc, h1⟩, h2, ⟨od, h3, hdi⟩, h4, ⟨hs, hk, h5⟩, hrows, hks, hkn, hnd, hnl, hlen, n2, n7, n8, lo, hoff⟩ := id C
  have hkN := C.keysN
  have hc := hdi.1.1
  have n6 : dd ≠ c := news_nec N h3 h1 (by rw [hc]; simp)
  have n1 : cd ≠ c := news_nec N h2 h1 (by simp)
  have n3 : mx ≠ c := news_nec N h4 h1 (by simp)
  have n4 : mx ≠ dd := news_nec N h4 h3 (by rw [hc]; simp)
  have n5 : md ≠ c := news_nec N h5 h1 (by simp)
  have n9 : md ≠ mx := news_nec N h5 h4 (by simp)
  have hxl := xsD_len D rows
  have g1 : hl ≠ md := news_nec N hh h5 (by simp)
  have g2 : hl ≠ dd := news_nec N hh h3 (by rw [hc]; simp)
  have g3 : hl ≠ c := news_nec N hh h1 (by simp)
  have g4 : hl ≠ cd := news_nec N hh h2 (by simp)
  have g5 : hl ≠ mx := news_nec N hh h4 (by simp)
  have f1 : f ≠ md := news_nec N hf h5 (by simp)
  have f2 : f ≠ dd := news_nec N hf h3 (by rw [hc]; simp)
  have f3 : f ≠ hl := news_nec N hf hh (by simp)
  have hR1 : ∀ q ∈ wo [md, dd, hl] news, q.1 ≠ md := wo_ne (by simp)
  have hR2 : ∀ q ∈ wo [md, dd, hl] news, q.1 ≠ dd := wo_ne (by simp)
  have hR3 : ∀ q ∈ wo [md, dd, hl] news, q.1 ≠ hl := wo_ne (by simp)
  have N1 := news_cons N hf (news_cons N h1 (news_cons N h2 (news_cons N h3 (news_cons N h4 (news_cons N h5 (news_cons N hh (news_mono (news' := wo [md, dd, hl] news) N fun _ h => wo_sub h)))))))
  have hback : ∀ q ∈ news, q.1 ≠ hl → q.1 ≠ dd → q.1 ≠ md → q ∈ wo [md, dd, hl] news := fun q hq e3 e2 e1 => wo_mem hq (by simp [e3, e1, e2])
  have htup : ∀ q ∈ news, q.2.cls = .type "tuple" → q ∈ wo [md, dd, hl] news := fun q hq e => by
    have e1 : q.1 ≠ md := news_nec N hq h5 (by rw [e]; simp)
    have e2 : q.1 ≠ dd := news_nec N hq h3 (by rw [e, hc]; simp)
    have e3 : q.1 ≠ hl := news_nec N hq hh (by rw [e]; simp)
    exact hback q hq e3 e2 e1
  have hrows' : RowsIn (wo [md, dd, hl] news) rows := fun r hr => by
    obtain ⟨q1, q2⟩ := hrows r hr
    have e1 := news_nec N q2 h5 (by simp)
    have e2 := news_nec N q2 h3 (by rw [hc]; simp)
    exact ⟨htup _ q1 rfl, hback _ q2 (fun e => hoff r hr (by rw [show r.lst = hl from e]; exact hlk)) e2 e1⟩
  have hks' : ∀ r ∈ rows, KeyN (wo [md, dd, hl] news) r.key (D r.key) ∧ KeyN (wo [md, dd, hl] news) r.key r.kv := fun r hr => ⟨(hks r hr).1.mono htup, (hks r hr).2.mono htup⟩
  have hkN' := hkN.mono htup
  have hX' : ∀ q ∈ XI, q ∈ wo [md, dd, hl] news := fun q hq => hback q (hX q hq) (hXo q hq).2.2 (hXo q hq).2.1 (hXo q hq).1
  have hlt2 : ∀ DL : Addr, (∀ q ∈ (f, (⟨.type "function", fod, .func fd, fsl⟩ : Obj)) :: (c, cacheObj cd dd mx n t (.int cap tc) (.ref f) thr) :: (cd, dictOf [] 0) :: (dd, od) :: (mx, lockObj md) :: (md, heldDict hs hk true) :: (hl, W.listOf vs.toArray ep0) :: wo [md, dd, hl] news, q.1 < DL) → ∀ q ∈ news, q.1 < DL := fun DL z q hq => by
    by_cases e1 : q.1 = md
    · rw [e1]; exact z (md, _) (by k_mem)
    by_cases e2 : q.1 = dd
    · rw [e2]; exact z (dd, _) (by k_mem)
    by_cases e3 : q.1 = hl
    · rw [e3]; exact z (hl, _) (by k_mem)
    exact z q (.tail _ (.tail _ (.tail _ (.tail _ (.tail _ (.tail _ (.tail _ (wo_mem hq (by simp [e1, e2, e3])))))))))
  generalize wo [md, dd, hl] news = R at *
  clear N h1 h2 h3 h4 h5 hrows hks hkN htup hf hh
  have hkN1 := hkN'.mono (news' := (f, (⟨.type "function", fod, .func fd, fsl⟩ : Obj)) :: (c, cacheObj cd dd mx n t (.int cap tc) (.ref f) thr) :: (cd, dictOf [] 0) :: (dd, od) :: (mx, lockObj md) :: (md, heldDict hs hk false) :: (hl, W.listOf vs.toArray ep0) :: R) fun q hq _ => .tail _ (.tail _ (.tail _ (.tail _ (.tail _ (.tail _ (.tail _ hq))))))
  k_steps
  unfold AlertV at hal
  have C1 : CV w keep ((f, (⟨.type "function", fod, .func fd, fsl⟩ : Obj)) :: (c, cacheObj cd dd mx n t (.int cap tc) (.ref f) thr) :: (cd, dictOf [] 0) :: (dd, od) :: (mx, lockObj md) :: (md, heldDict hs hk true) :: (hl, W.listOf vs.toArray ep0) :: R) c cd dd mx md n cap thr (.ref f) true D rows :=
    { C with hc := ⟨_, _, by k_mem⟩, hcd := by k_mem, hdd := ⟨_, by k_mem, hdi⟩, hmx := by k_mem, hmd := ⟨_, _, by k_mem⟩, hrows := fun r hr => ⟨by have := (hrows' r hr).1; simp [this], by have := (hrows' r hr).2; simp [this]⟩, hks := fun r hr => ⟨(hks' r hr).1.mono fun q hq _ => by simp [hq], (hks' r hr).2.mono fun q hq _ => by simp [hq]⟩ }
  k_dflt (refine' hal (vs := vs) (ep := ep0) ?k1 ?ku ?k2 ?k3 ?k4 ?k5 ?k6 C1 hl50 ?kb ?kv ?kc ?_)
  case k1 => (try simp only [depth_deeper]); omega
  case ku => (simp only [AA]; omega)
  case k2 => k_asm
  case k3 => k_asm
  case k4 => k_asm
  case k5 => k_asm
  case k6 => k_asm
  case kb => k_mem
  case kv => omega
  case kc => exact fun q hq => by simp [hX' q hq]
  k_whole
  intro h2' tk2' DL e1a e2a F2 N2 hDL
  have hDLn := hlt2 DL hDL
  obtain ⟨R2, hR2e⟩ : ∃ R2, R2 = (hl, W.listOf (vs ++ [Value.ref DL]).toArray e2a) :: (DL, W.listOf (rows.map fun r => D r.key).toArray e1a) :: R := ⟨_, rfl⟩
  have hsub2 : ∀ q ∈ R, q ∈ R2 := fun q hq => by rw [hR2e]; simp [hq]
  have dl1 : DL ≠ md := Nat.ne_of_gt (hDL (md, _) (by k_mem))
  have dl2 : DL ≠ dd := Nat.ne_of_gt (hDL (dd, _) (by k_mem))
  have N3 := news_cons N2 (.tail _ (.tail _ (wo_mem (show (c, cacheObj cd dd mx n t (.int cap tc) (.ref f) thr) ∈ _ by k_mem) (by simp [Ne.symm g3])))) (news_cons N2 (.tail _ (.tail _ (wo_mem (show (cd, dictOf [] 0) ∈ _ by k_mem) (by simp [Ne.symm g4])))) (news_cons N2 (.tail _ (.tail _ (wo_mem (show (dd, od) ∈ _ by k_mem) (by simp [Ne.symm g2])))) (news_cons N2 (.tail _ (.tail _ (wo_mem (show (mx, lockObj md) ∈ _ by k_mem) (by simp [Ne.symm g5])))) (news_cons N2 (.tail _ (.tail _ (wo_mem (show (md, heldDict hs hk true) ∈ _ by k_mem) (by simp [Ne.symm g1])))) (news_mono (news' := R2) N2 fun q hq => by
    rw [hR2e] at hq
    rcases List.mem_cons.mp hq with rfl | hq
    · exact .tail _ (.head _)
    rcases List.mem_cons.mp hq with rfl | hq
    · exact .head _
    · exact .tail _ (.tail _ (wo_mem (by simp [hq]) (by simp [hR3 q hq]))))))))
  have hR1b : ∀ q ∈ R2, q.1 ≠ md := by rw [hR2e]; simp only [List.forall_mem_cons]; exact ⟨g1, dl1, hR1⟩
  have hR2b : ∀ q ∈ R2, q.1 ≠ dd := by rw [hR2e]; simp only [List.forall_mem_cons]; exact ⟨g2, dl2, hR2⟩
  have hDLm : (DL, W.listOf (rows.map fun r => D r.key).toArray e1a) ∈ R2 := by rw [hR2e]; simp
  have hHm : (hl, W.listOf (vs ++ [Value.ref DL]).toArray e2a) ∈ R2 := by rw [hR2e]; simp
  have hrowsA : RowsIn R2 rows := fun r hr => ⟨hsub2 _ (hrows' r hr).1, hsub2 _ (hrows' r hr).2⟩
  have hksA : ∀ r ∈ rows, KeyN R2 r.key (D r.key) ∧ KeyN R2 r.key r.kv := fun r hr => ⟨(hks' r hr).1.mono fun q hq _ => hsub2 q hq, (hks' r hr).2.mono fun q hq _ => hsub2 q hq⟩
  have hkNA := hkN'.mono (news' := R2) fun q hq _ => hsub2 q hq
  have hbackR : ∀ q ∈ news, q.1 ≠ hl → q.1 ≠ dd → q.1 ≠ md → q ∈ R2 := fun q hq e1 e2 e3 => hsub2 q (hback q hq e1 e2 e3)
  clear N2 N1 hkN1 hR2e hrows' hks' hkN' hR1 hR2 hR3 hX' hlt2 hDL hsub2 C1 hback
  have hrows' := hrowsA
  have hks' := hksA
  have hkN' := hkNA
  have hR1 := hR1b
  have hR2 := hR2b
  clear hrowsA hksA hkNA hR1b hR2b
  have hkN1 := keysN_at N3 hkN' fun q hq => by simp [hq]
  k_steps
  (with_unfolding_all show wpAny _ _ (call (Value.builtin "sorted") [Value.ref _] [(Str.ofString "key", Value.ref _), (Str.ofString "reverse", Value.bool true)]) _ _ _)
  k_dflt (refine' sorted_rowsV (rowsK := rows) (D := D) ?k1 ?ku ?k2 ?k3 ?k4 ?k5 ?k6 ?k7 ?k8 ?k9 ?ka ?kb ?kc ?kd ?ke ?kf ?_)
  case k1 => (try simp only [depth_deeper]); omega
  case ku => (simp only [AA]; omega)
  case k2 => k_asm
  case k3 => k_asm
  case k4 => k_asm
  case k5 => k_asm
  case k6 => k_asm
  case k7 => k_mem
  case k8 => k_mem
  case k9 => k_asm
  case ka => exact fun r hr => ⟨by have := (hrows' r hr).1; simp [this], by have := (hrows' r hr).2; simp [this]⟩
  case kb => assumption
  case kc => assumption
  case kd => k_mem
  case ke => k_mem
  case kf => k_mem
  k_whole
  intro h' tk' DS eps srows F' N' l1 hperm hord
  k_lt l1
  have hsl := hperm.length_eq
  k_steps
  have hpick : (slicePick (List.map (fun r : Row Key => Value.ref r.tup) srows).toArray (some cap) none none).toList = (srows.drop cap.toNat).map fun r => Value.ref r.tup := by
    obtain ⟨k, hk0⟩ : ∃ k : Nat, cap = (k : Int) := ⟨cap.toNat, by omega⟩
    rw [hk0, slicePick_from _ k (by simp; omega)]
    simp
  rename_i hx lF lN I lI
  rw [hpick]
  have hall : ∀ q ∈ R2, q.1 < I := by
    have z := lI
    repeat (first | exact allLt_mem z | replace z := z.2)
  have hprm : (srows.take cap.toNat ++ srows.drop cap.toNat).Perm rows := by rw [List.take_append_drop]; exact hperm
  refine listRest_rows (J := fun rs n' => ∃ gone od', srows.drop cap.toNat = gone ++ rs ∧ IsV w od' (xsD D (left rows gone)) ∧ (dd, od') ∈ n' ∧ (c, cacheObj cd dd mx n t (.int cap tc) (.ref f) thr) ∈ n' ∧ (cd, dictOf [] 0) ∈ n' ∧ (mx, lockObj md) ∈ n' ∧ (md, heldDict hs hk true) ∈ n' ∧ ∀ q ∈ R2, q ∈ n') (by rfl) ?step ?done _ _ (by k_mem) ⟨[], od, rfl, by rw [left_nil]; exact hdi, by k_mem, by k_mem, by k_mem, by k_mem, by k_mem, fun q hq => by simp [hq]⟩
  case step =>
    intro a r n' hlp hj o it h tk2 hc F N
    obtain ⟨gone, od', e1, hd', m1, m2, m3, m4, m5, m6⟩ := hj
    have ha : a ∈ left rows gone := left_mem hkn (by rw [← e1]; exact hprm)
    have har : a ∈ rows := (List.mem_filter.mp ha).1
    have hin := xsD_in (D := D) ha
    have hR := hrows' a har
    have m7 : (a.tup, ({ cls := .type "tuple", data := .seq [a.kv, a.val, .ref a.lst].toArray } : Obj)) ∈ n' := m6 _ hR.1
    have q1 : a.tup ≠ dd := hR2 _ hR.1
    have q2 : I ≠ dd := by refine neN ?_; omega
    have q4 := news_nec N (.tail _ hlp) (.tail _ m1) (by rw [hd'.1.1]; simp)
    (try dsimp only at q4)
    have hz3 : (xsD D (left rows gone)).length ≤ 60 := by
      rw [xsD_len]
      have := (left_sub rows gone).length_le
      omega
    have N1 := news_cons N (.head _) (news_cons N (.tail _ hlp) (news_cons N (.tail _ m1) (news_cons N (.tail _ m2) (news_cons N (.tail _ m3) (news_cons N (.tail _ m4) (news_cons N (.tail _ m5) (news_cons N (.tail _ m7) (news_mono (news' := R2) N fun q hq => .tail _ (m6 q hq)))))))))
    have hkA := keysN_at N1 (fun x hx => hkN' x (by
      obtain ⟨y, hy, rfl⟩ := List.mem_map.mp hx
      exact List.mem_map.mpr ⟨y, (List.mem_filter.mp hy).1, rfl⟩) : KeysN R2 (xsD D (left rows gone))) fun q hq => by simp [hq]
    have hkB := keyN_at N1 (hks' a har).2 fun q hq => by simp [hq]
    clear N hkN1
    k_steps
    with_reducible rename News _ _ _ _ => N9
    have i1 := lI.1
    (try dsimp only at i1)
    have i2 : dd ≠ I := Ne.symm q2
    have i3 : c ≠ I := by refine neN ?_; omega
    have i4 : cd ≠ I := by refine neN ?_; omega
    have i5 : mx ≠ I := by refine neN ?_; omega
    have i6 : md ≠ I := by refine neN ?_; omega
    refine unrEnd_wo (by assumption) N9 (by k_mem) ⟨wo_mem (by k_mem) (by simpa using Nat.ne_of_lt i1), rfl, gone ++ [a], _, by rw [e1, List.append_assoc]; rfl, by rw [← xsD_left]; assumption, wo_mem (by k_mem) (by simpa using i2), wo_mem (by k_mem) (by simpa using i3), wo_mem (by k_mem) (by simpa using i4), wo_mem (by k_mem) (by simpa using i5), wo_mem (by k_mem) (by simpa using i6), fun q hq => wo_mem (by simp [hq]) (by simpa using Nat.ne_of_lt (hall q hq))⟩
  case done =>
    intro o n' hj h tk2 F N
    obtain ⟨gone, od', e1, hd', m1, m2, m3, m4, m5, m6⟩ := hj
    have hpm := left_perm (kept := srows.take cap.toNat) (gone := gone) hkn (by rw [show gone = srows.drop cap.toNat by rw [e1]; simp]; exact hprm)
    have hlen9 : ((xsD D (left rows gone)).length : Int) ≤ cap := by
      have := hpm.length_eq
      rw [xsD_len, this, List.length_take]; omega
    have hg : gone = srows.drop cap.toNat := by rw [e1]; simp
    have N1 := news_cons N m1 (news_cons N m2 (news_cons N m3 (news_cons N m4 (news_cons N m5 (news_mono (news' := R2) N m6)))))
    clear N e1 hkN1
    k_steps
    with_reducible rename News h₀ L _ _ => N9
    subst hg
    have hin : ∀ q ∈ R2, q ∈ _ := fun q hq => (by simp [hq] : q ∈ (dd, od') :: (c, cacheObj cd dd mx n t (.int cap tc) (.ref f) thr) :: (cd, dictOf [] 0) :: (mx, lockObj md) :: (md, heldDict hs hk false) :: R2)
    refine K _ _ _ srows DL e1a e2a (by assumption) (news_mono N9 fun q hq => by simp only [List.mem_cons] at hq ⊢; rcases hq with e | e | e | e | e | e <;> simp [e]) hperm hord ?_ (hin _ hDLm) (hin _ hHm) hDLn (fun q hq e2 e3 e1 => hin _ (hbackR q hq e3 e2 e1))
    exact CV.left C hd' (.head _) (by k_mem) (by k_mem) (by k_mem) (by k_mem) (fun r hr => ⟨hin _ (hrows' r hr).1, hin _ (hrows' r hr).2⟩) fun r hr => ⟨(hks' r hr).1.mono fun q hq _ => hin q hq, (hks' r hr).2.mono fun q hq _ => hin q hq⟩
end Mine2
end
section
open PySem PySem.W PyProof.Rows
namespace Mine2
open MineS MineP MineV
/-! rows laid and touched -/
def putRow {α : Type} [DecidableEq α] (rows : List (Row α)) (r : Row α) : List (Row α) := if rows.any (fun x => x.key = r.key) then rows.map (fun x => if x.key = r.key then r else x) else rows ++ [r]
theorem put_mem {α : Type} [DecidableEq α] {rows : List (Row α)} {r x : Row α} (h : x ∈ putRow rows r) : x = r ∨ (x ∈ rows ∧ x.key ≠ r.key) := by
  unfold putRow at h
  split at h
  · obtain ⟨y, hy, rfl⟩ := List.mem_map.mp h
    split
    · exact .inl rfl
    · rename_i hne; exact .inr ⟨hy, hne⟩
  · rename_i hn
    rcases List.mem_append.mp h with h | h
    · refine .inr ⟨h, fun e => hn (List.any_eq_true.mpr ⟨x, h, by simpa using e⟩)⟩
    · exact .inl (List.mem_singleton.mp h)
theorem put_keys {α : Type} [DecidableEq α] {rows : List (Row α)} {r : Row α} (h : (rows.map (·.key)).Nodup) : ((putRow rows r).map (·.key)).Nodup := by
  unfold putRow
  split
  · have e : (rows.map (fun x => if x.key = r.key then r else x)).map (·.key) = rows.map (·.key) := by
      rw [List.map_map]
      refine List.map_congr_left fun x _ => ?_
      simp only [Function.comp]
      split <;> rename_i h
      · rw [h]
      · rfl
    rw [e]; exact h
  · rename_i hn
    rw [List.map_append, List.nodup_append]
    refine ⟨h, by simp, fun a ha b hb => ?_⟩
    obtain ⟨x, hx, rfl⟩ := List.mem_map.mp ha
    obtain ⟨y, hy, rfl⟩ := List.mem_map.mp hb
    rw [List.mem_singleton.mp hy]
    intro e
    exact hn (List.any_eq_true.mpr ⟨x, hx, by simpa using e⟩)
theorem put_ctrs {α : Type} [DecidableEq α] {rows : List (Row α)} {r : Row α} {n : Int} (hk : (rows.map (·.key)).Nodup) (h : (rows.map (·.ctr)).Nodup) (hle : ∀ x ∈ rows, x.ctr ≤ n) (hr : r.ctr = n + 1) : ((putRow rows r).map (·.ctr)).Nodup := by
  unfold putRow
  split
  · rename_i hy
    clear hy
    induction rows with
    | nil => exact .nil
    | cons x xs ih =>
      simp only [List.map_cons, List.nodup_cons] at hk h ⊢
      refine ⟨?_, ih hk.2 h.2 fun y hy => hle y (.tail _ hy)⟩
      intro hm
      obtain ⟨z, hz, e⟩ := List.mem_map.mp hm
      obtain ⟨y, hy, rfl⟩ := List.mem_map.mp hz
      have hyl := hle y (.tail _ hy)
      have hxl := hle x (.head _)
      by_cases e1 : x.key = r.key
      · by_cases e2 : y.key = r.key
        · exact hk.1 (List.mem_map.mpr ⟨y, hy, by rw [e1, e2]⟩)
        · simp only [e1, e2, if_true, if_false] at e; omega
      · by_cases e2 : y.key = r.key
        · simp only [e1, e2, if_true, if_false] at e; omega
        · simp only [e1, e2, if_false] at e
          exact h.1 (List.mem_map.mpr ⟨y, hy, e⟩)
  · rw [List.map_append, List.nodup_append]
    refine ⟨h, by simp, fun a ha b hb => ?_⟩
    obtain ⟨x, hx, rfl⟩ := List.mem_map.mp ha
    obtain ⟨y, hy, rfl⟩ := List.mem_map.mp hb
    rw [List.mem_singleton.mp hy]
    have := hle x hx
    omega
theorem put_len {α : Type} [DecidableEq α] (rows : List (Row α)) (r : Row α) : (putRow rows r).length ≤ rows.length + 1 := by
  unfold putRow
  split <;> simp
def touch {α : Type} [DecidableEq α] (rows : List (Row α)) (k : α) (n : Int) (t : Tok) : List (Row α) := rows.map fun x => if x.key = k then { x with ctr := n, ctok := t } else x
theorem touch_keys {α : Type} [DecidableEq α] (rows : List (Row α)) (k : α) (n : Int) (t : Tok) : (touch rows k n t).map (·.key) = rows.map (·.key) := by
  unfold touch
  rw [List.map_map]
  refine List.map_congr_left fun x _ => ?_
  simp only [Function.comp]
  split <;> rfl
theorem touch_ctrs {α : Type} [DecidableEq α] {rows : List (Row α)} {k : α} {n : Int} {t : Tok} (hk : (rows.map (·.key)).Nodup) (h : (rows.map (·.ctr)).Nodup) (hle : ∀ x ∈ rows, x.ctr ≤ n) : ((touch rows k (n + 1) t).map (·.ctr)).Nodup := by
  unfold touch
  induction rows with
  | nil => exact .nil
  | cons x xs ih =>
    simp only [List.map_cons, List.nodup_cons] at hk h ⊢
    refine ⟨?_, ih hk.2 h.2 fun y hy => hle y (.tail _ hy)⟩
    intro hm
    obtain ⟨z, hz, e⟩ := List.mem_map.mp hm
    obtain ⟨y, hy, rfl⟩ := List.mem_map.mp hz
    have hyl := hle y (.tail _ hy)
    have hxl := hle x (.head _)
    by_cases e1 : x.key = k
    · by_cases e2 : y.key = k
      · exact hk.1 (List.mem_map.mpr ⟨y, hy, by rw [e1, e2]⟩)
      · simp only [e1, e2, if_true, if_false] at e; omega
    · by_cases e2 : y.key = k
      · simp only [e1, e2, if_true, if_false] at e; omega
      · simp only [e1, e2, if_false] at e
        exact h.1 (List.mem_map.mpr ⟨y, hy, e⟩)
theorem key_inj {α : Type} {rows : List (Row α)} {x y : Row α} (hk : (rows.map (·.key)).Nodup) (hx : x ∈ rows) (hy : y ∈ rows) (e : x.key = y.key) : x = y := by
  induction rows with
  | nil => cases hx
  | cons z zs ih =>
    simp only [List.map_cons, List.nodup_cons] at hk
    rcases List.mem_cons.mp hx with h1 | hx <;> rcases List.mem_cons.mp hy with h2 | hy
    · rw [h1, h2]
    · exact absurd (List.mem_map.mpr ⟨y, hy, by rw [← e, h1]⟩) hk.1
    · exact absurd (List.mem_map.mpr ⟨x, hx, by rw [e, h2]⟩) hk.1
    · exact ih hk.2 hx hy
theorem ctr_inj {α : Type} {rows : List (Row α)} {x y : Row α} (hk : (rows.map (·.ctr)).Nodup) (hx : x ∈ rows) (hy : y ∈ rows) (e : x.ctr = y.ctr) : x = y := by
  induction rows with
  | nil => cases hx
  | cons z zs ih =>
    simp only [List.map_cons, List.nodup_cons] at hk
    rcases List.mem_cons.mp hx with h1 | hx <;> rcases List.mem_cons.mp hy with h2 | hy
    · rw [h1, h2]
    · exact absurd (List.mem_map.mpr ⟨y, hy, by rw [← e, h1]⟩) hk.1
    · exact absurd (List.mem_map.mpr ⟨x, hx, by rw [e, h2]⟩) hk.1
    · exact ih hk.2 hx hy
/-- the dict's own keys after a laying -/
def keyD (D : Key → Value) (rows : List (Row Key)) (k : Key) (kv : Value) : Key → Value := if rows.any (fun x => x.key = k) then D else fun x => if x = k then kv else D x
theorem xsD_put (D : Key → Value) (rows : List (Row Key)) (r : Row Key) (kv : Value) : putV (xsD D rows) r.key kv (.ref r.tup) = xsD (keyD D rows r.key kv) (putRow rows r) := by
  unfold putV putRow keyD
  have e : (xsD D rows).any (fun x => decide (x.1 = r.key)) = rows.any (fun x => decide (x.key = r.key)) := by
    unfold xsD; rw [List.any_map]; rfl
  rw [e]
  split
  · unfold xsD
    rw [List.map_map, List.map_map]
    refine List.map_congr_left fun x _ => ?_
    simp only [Function.comp]
    split <;> rename_i h
    · rw [h]
    · rfl
  · rename_i hn
    unfold xsD
    rw [List.map_append]
    simp only [List.map_cons, List.map_nil, if_true]
    congr 1
    refine List.map_congr_left fun x hx => ?_
    have hx' : x.key ≠ r.key := fun e => hn (List.any_eq_true.mpr ⟨x, hx, by simpa using e⟩)
    simp [hx']
theorem keyD_in {news : List (Addr × Obj)} {D : Key → Value} {rows : List (Row Key)} {r : Row Key} {kv : Value} (h : ∀ x ∈ rows, KeyN news x.key (D x.key)) (hk : KeyN news r.key kv) : ∀ x ∈ putRow rows r, KeyN news x.key (keyD D rows r.key kv x.key) := by
  intro x hx
  unfold keyD
  split
  · rename_i hy
    rcases put_mem hx with rfl | ⟨hx, _⟩
    · obtain ⟨y, hy1, hy2⟩ := List.any_eq_true.mp hy
      have e : y.key = x.key := by simpa using hy2
      rw [← e]; exact h y hy1
    · exact h x hx
  · rcases put_mem hx with rfl | ⟨hx, hne⟩
    · simpa using hk
    · simp only [hne, if_false]; exact h x hx
theorem xsD_touch (D : Key → Value) (rows : List (Row Key)) (k : Key) (n : Int) (t : Tok) : xsD D (touch rows k n t) = xsD D rows := by
  unfold xsD touch
  rw [List.map_map]
  refine List.map_congr_left fun x _ => ?_
  simp only [Function.comp]
  split <;> rfl
end Mine2
end
section
open PySem PySem.W PyProof.Rows
namespace Mine2
open MineS MineP MineV
set_option maxRecDepth 100000
set_option maxHeartbeats 8000000
local macro_rules | `(tactic| k_all) => `(tactic| first | assumption)
local macro_rules | `(tactic| k_ne) => `(tactic| (refine neN ?_; (try dsimp only); first | assumption | (apply Ne.symm; assumption)))
local macro_rules | `(tactic| k_room) => `(tactic| ((try simp only [depth_under_make, depth_under_kw, depth_in1, depth_deeper, depth_caller]); show _ < 1000; omega))
local macro_rules | `(tactic| walk_at "delItem ref") => `(tactic| (k_dflt (refine' delItem_own ?k1 ?k2 ?k3 ?k4 ?k5 ?k6 ?_; (case k1 => k_asm); (case k2 => k_asm); (case k3 => k_inst); (case k4 => k_is); (case k5 => k_is); (case k6 => k_is); k_whole)))
variable {w : World} {A₀ : Around} {d u : Nat} {gs : Option (List Code)} {nm : List (Str × NameKind)} {mo : List (Str × PySem.Const)} {gl : Addr} {cl : List (Str × Addr)} {ql : Str} {fn : Option Addr} {co : Value} {bi : Addr} {outer : List Env}
  {base h₀ : Heap} {L : Addr} {s : Shared} {m mg mb : Str → Option Value} {mean : ExcName → Option Value} {loose : List Str} {p : Program} {news : List (Addr × Obj)} {Q : Value → Shared → Prop} {E : Value → Shared → Prop} {keep : List Addr}
local macro_rules | `(tactic| walk_at "subscriptTail") => `(tactic| (k_dflt (refine v_item_missing (by (simp only [AA, Around.deeper, cLine]; omega)) (by k_asm) (by k_mem) (by k_asm) (by k_asm) (by k_asm) (by k_asm) (by rfl) (by assumption) ?_); intro h' e' x'))
local macro_rules | `(tactic| walk_at "subscriptTail") => `(tactic| (k_dflt (refine v_item (by (simp only [AA, Around.deeper, cLine]; omega)) (by k_asm) (by k_mem) (by k_asm) (by k_asm) (by k_asm) (by assumption) ?_)))
local macro_rules | `(tactic| walk_at "call builtin:dict.get") => `(tactic| (k_dflt (refine v_get1 (by (simp only [AA, Around.deeper, cLine]; omega)) (by k_asm) (by k_mem) (by k_asm) (by k_asm) (by k_asm) (by k_asm) _ (by assumption) ?_); (try dsimp only [Option.getD])))
local macro_rules | `(tactic| walk_at "getMethod ref") => `(tactic| (k_dflt (first | refine v_method PySem.F.slot_dict_get PySem.F.type_dict_get (by k_asm) (by k_mem) (by k_asm) ?_ | refine v_method PySem.F.slot_dict_values PySem.F.type_dict_values (by k_asm) (by k_mem) (by k_asm) ?_)))
local macro_rules | `(tactic| walk_at "delItem ref") => `(tactic| (k_dflt (refine v_del_missing (by (simp only [AA, Around.deeper, cLine]; omega)) (by k_asm) (by k_mem) (by k_asm) (by k_asm) (by k_asm) (by k_asm) (by rfl) (by omega) (by assumption) ?_); intro h' e' x'))
local macro_rules | `(tactic| walk_at "delItem ref") => `(tactic| (k_dflt (refine' v_del ?hu ?F ?N ?U ?d ?hs ?hk ?hz ?hi ?_; (case hu => (simp only [AA, Around.deeper, cLine]; omega)); (case F => k_asm); (case N => k_asm); (case U => k_updF); (case d => k_asm); (case hs => k_asm); (case hk => k_asm); (case hz => omega); (case hi => assumption)); intro h' o' F' N' hd'; (try dsimp only at N')))
local macro_rules | `(tactic| walk_at "setItem ref") => `(tactic| (k_dflt (refine' v_set ?hu ?F ?N ?U ?d ?hs ?hk ?hz ?_; (case hu => (simp only [AA, Around.deeper, cLine]; omega)); (case F => k_asm); (case N => k_asm); (case U => k_updF); (case d => k_asm); (case hs => k_asm); (case hk => k_asm); (case hz => omega)); intro h' o' F' N' hd'; (try dsimp only at N')))
local macro_rules | `(tactic| walk_at "enterS") => `(tactic| (refine wpAny_call ?_; (refine' call_SK ?k1 ?k2 ?k3 ?k4 ?k5 ?XB ?TB ?D ?kA ?kf ?kK ?k6 ?k7 ?k8 ?k9 ?kB ?_ ?c2 ?c3 ?c4 ?c5; (case kA => exact rfl); (case kf => exact rfl); (case kK => exact rfl); (case k1 => k_asm); (case k2 => k_asm); (case k3 => k_asm); (case k4 => k_asm); (case k5 => k_asm); (case XB => assumption); (case TB => assumption); (case D => assumption); (case k6 => k_is); (case k7 => k_is); (case k8 => k_room); (case k9 => first | exact binds_K (by k_in) rfl (by k_is) rfl rfl rfl | exact BindsTo.of_eq rfl); (case kB => exact locs rfl); (case c2 => exact rfl); (case c3 => exact rfl); (case c4 => exact rfl); (case c5 => decide); intro g' L' h' F' N' B' X' T' D'; (try dsimp only); (try k_lift B'); (try k_fold))))
local macro_rules | `(tactic| walk_at "LeaveX") => `(tactic| (k_dflt (refine' leaveX_ ?F ?N ?T ?_; (case F => k_asm); (case N => k_asm); (case T => first | assumption | exact KtsTurn.refl); k_whole); intro h₀' b'; (try dsimp only)))
local macro_rules | `(tactic| walk_at "call ref") => `(tactic| (k_dflt (first
  | (refine' inc_counter ?k1 ?k2 ?k3 ?k4 ?k5 ?k6 ?k7 ?k8 ?_; (case k1 => (try simp only [depth_deeper]); omega); (case k2 => k_asm); (case k3 => k_asm); (case k4 => k_asm); (case k5 => k_asm); (case k6 => k_asm); (case k7 => k_updF); (case k8 => k_mem); k_whole; intro h' tk' t' F' N'; (try dsimp only at N'))); (try k_sweep)))
def Stop (P : Prop) : Prop := P
theorem stop {P : Prop} (h : Stop P) : P := h
local macro_rules | `(tactic| walk_at "setItem ref") => `(tactic| ((with_reducible show wpAny _ _ (setItem (Value.ref _) _ (Value.ref _)) _ _ _); refine stop ?_))
local macro_rules | `(tactic| walk_at "call ref") => `(tactic| ((with_reducible show wpAny _ _ (call (Value.ref 181) _) _ _ _); refine stop ?_))
def MPV (dbl cap : Int) (al : Value) (f hl : Addr) (vs : List Value) (ep : Nat) (D : Key → Value) (rows rows' : List (Row Key)) (news news' : List (Addr × Obj)) : Prop :=
  (2 * (rows.length : Int) ≤ dbl ∧ rows' = rows ∧ (hl, W.listOf vs.toArray ep) ∈ news') ∨
  (dbl < 2 * (rows.length : Int) ∧ ∃ srows : List (Row Key), srows.Perm rows ∧ srows.Pairwise (fun a b : Row Key => b.ctr < a.ctr) ∧ rows' = left rows (srows.drop cap.toNat) ∧
    ((al = .none ∧ (hl, W.listOf vs.toArray ep) ∈ news') ∨ (al = .ref f ∧ ∃ (DL : Addr) (e1 e2 : Nat), (DL, W.listOf (rows.map fun r => D r.key).toArray e1) ∈ news' ∧ (hl, W.listOf (vs ++ [Value.ref DL]).toArray e2) ∈ news' ∧ ∀ q ∈ news, q.1 < DL)))
variable {f c cd dd mx md hl : Addr} {n : Int} {cap dbl : Int} {thr al : Value} {PM PA : Value → Prop} {D : Key → Value} {rows : List (Row Key)} {fd : FuncData} {fod : Option Addr} {fsl : Array (Option Value)} {XI : List (Addr × Obj)} {vs : List Value} {ep0 : Nat} {k : Key} {kw v : Value}
theorem manage_v (hal : al = .none ∨ al = .ref f ∧ AlertV w keep f c cd dd mx md hl cap thr XI) : d ≤ 350 → u ≤ 7000 → Below A₀ base outer h₀ → (hd.heap_39 w.params).In h₀ → Top p loose mean mg mb h₀ → Fr h₀ L s.heap m → News h₀ L s.heap news →
    CV w keep news c cd dd mx md n cap thr al false D rows → rows.length ≤ 50 → (hl, W.listOf vs.toArray ep0) ∈ news → vs.length ≤ 90 → (∀ q ∈ XI, q ∈ news) → (∀ q ∈ XI, q.1 ≠ md ∧ q.1 ≠ dd ∧ q.1 ≠ hl) → hl ∈ keep → (f, (⟨.type "function", fod, .func fd, fsl⟩ : Obj)) ∈ news →
    ThrOK PySem.Challenge.rw_eu0033_02.row.prog w cap thr dbl PM PA → 0 ≤ cap → 2 * cap ≤ dbl →
    (∀ h' tk' news' (rows' : List (Row Key)), Fr h₀ L h' m → News h₀ L h' news' → CV w keep news' c cd dd mx md n cap thr al false D rows' → MPV dbl cap al f hl vs ep0 D rows rows' news news' →
      (∀ q ∈ news, q.1 ≠ dd → q.1 ≠ hl → q.1 ≠ md → q ∈ news') → Q .none { s with heap := h', toks := tk' }) →
    wpAny (model PySem.Challenge.rw_eu0033_02.row.prog w) (AA d u gs nm mo gl cl ql fn co bi L outer) (call (.ref 181) [.ref c]) Q E s := by
  intro hdp hu B X T F N C hl50 hh hvl hX hXo hlk hf hthr c0 c2 K
  have C0 := C
  obtain ⟨⟨t, tc, h1⟩, h2, ⟨od, h3, hdi⟩, h4, ⟨hs, hk, h5⟩, hrows, hks, hkn, hnd, hnl, hlen, n2, n7, n8, lo, hoff⟩ := C
  have hxl := xsD_len D rows
  have hc := hdi.1.1
  have g1 : hl ≠ md := news_nec N hh h5 (by simp)
  have g2 : hl ≠ dd := news_nec N hh h3 (by rw [hc]; simp)
  by_cases hle : dbl < 2 * (rows.length : Int)
  · rcases hal with rfl | ⟨rfl, hal⟩
    · exact manage_clear_v (L := L) hdp hu B X T F N C0 hl50 hthr c0 c2 hle fun h' tk' news' srows F' N' hp ho C' hfr =>
        K h' tk' news' _ F' N' C' (.inr ⟨hle, srows, hp, ho, rfl, .inl ⟨rfl, hfr _ hh g2 g1⟩⟩) fun q hq e1 _ e3 => hfr q hq e1 e3
    · exact manage_clear_vf (L := L) hal hdp hu B X T F N C0 hl50 hh hvl hX hXo hlk hf hthr c0 c2 hle fun h' tk' news' srows DL e1 e2 F' N' hp ho C' m1 m2 m3 hfr =>
        K h' tk' news' _ F' N' C' (.inr ⟨hle, srows, hp, ho, rfl, .inr ⟨rfl, DL, e1, e2, m1, m2, m3⟩⟩) hfr
  · have hle' : 2 * (rows.length : Int) ≤ dbl := by omega
    rcases hal with rfl | ⟨rfl, hal⟩
    · exact manage_fit (L := L) rfl (by omega) B X T F N h1 h2 h3 n2 hdi (by omega) lo h4 h5 n7 n8 hthr (by omega) fun h' tk' F' N' =>
        K h' tk' news rows F' N' C0 (.inl ⟨hle', rfl, hh⟩) fun q hq _ _ _ => hq
    · exact manage_fit_f (L := L) rfl (by omega) B X T F N h1 h2 h3 n2 hdi (by omega) lo hf rfl h4 h5 n7 n8 hthr (by omega) fun h' tk' F' N' =>
        K h' tk' news rows F' N' C0 (.inl ⟨hle', rfl, hh⟩) fun q hq _ _ _ => hq
theorem cv_put {R : List (Addr × Obj)} {Dt l L2 : Addr} {t' tc hk : Tok} {hs : Int} {o : Obj} {g h : Heap} {b : Bool} (C : CV w keep news c cd dd mx md n cap thr al b D rows) (hr : RowsIn R rows) (hks : ∀ r ∈ rows, KeyN R r.key (D r.key) ∧ KeyN R r.key r.kv) (hk2 : KeyN R k kw)
    (hd : IsV w o (putV (xsD D rows) k kw (.ref Dt))) (hl : rows.length ≤ 50) (hnew : l ∉ keep)
    (_N : News g L2 h ((Dt, tupObj [kw, v, .ref l]) :: (l, W.listOf #[.int (n + 1) t'] 0) :: (c, cacheObj cd dd mx (n + 1) t' (.int cap tc) al thr) :: (cd, dictOf [] 0) :: (dd, o) :: (mx, lockObj md) :: (md, heldDict hs hk b) :: R)) :
    CV w keep ((Dt, tupObj [kw, v, .ref l]) :: (l, W.listOf #[.int (n + 1) t'] 0) :: (c, cacheObj cd dd mx (n + 1) t' (.int cap tc) al thr) :: (cd, dictOf [] 0) :: (dd, o) :: (mx, lockObj md) :: (md, heldDict hs hk b) :: R) c cd dd mx md (n + 1) cap thr al b (keyD D rows k kw) (putRow rows ⟨k, kw, v, n + 1, t', 0, Dt, l⟩) where
  hc := ⟨_, _, .tail _ (.tail _ (.head _))⟩
  hcd := .tail _ (.tail _ (.tail _ (.head _)))
  hdd := ⟨o, .tail _ (.tail _ (.tail _ (.tail _ (.head _)))), by rw [← xsD_put D rows ⟨k, kw, v, n + 1, t', 0, Dt, l⟩ kw]; exact hd⟩
  hmx := .tail _ (.tail _ (.tail _ (.tail _ (.tail _ (.head _)))))
  hmd := ⟨_, _, .tail _ (.tail _ (.tail _ (.tail _ (.tail _ (.tail _ (.head _))))))⟩
  hrows := fun x hx => by
    rcases put_mem hx with rfl | ⟨hx, -⟩
    · exact ⟨.head _, .tail _ (.head _)⟩
    · exact ⟨.tail _ (.tail _ (.tail _ (.tail _ (.tail _ (.tail _ (.tail _ (hr x hx).1)))))), .tail _ (.tail _ (.tail _ (.tail _ (.tail _ (.tail _ (.tail _ ((hr x hx).2)))))))⟩
  hks := fun x hx => by
    have up : ∀ q ∈ R, q ∈ (Dt, tupObj [kw, v, .ref l]) :: (l, W.listOf #[.int (n + 1) t'] 0) :: (c, cacheObj cd dd mx (n + 1) t' (.int cap tc) al thr) :: (cd, dictOf [] 0) :: (dd, o) :: (mx, lockObj md) :: (md, heldDict hs hk b) :: R := fun q hq => by simp [hq]
    refine ⟨(keyD_in (r := ⟨k, kw, v, n + 1, t', 0, Dt, l⟩) (fun y hy => (hks y hy).1) hk2 x hx).mono fun q hq _ => up q hq, ?_⟩
    rcases put_mem hx with rfl | ⟨hx, -⟩
    · exact hk2.mono fun q hq _ => up q hq
    · exact (hks x hx).2.mono fun q hq _ => up q hq
  hkn := put_keys C.hkn
  hnd := put_ctrs C.hkn C.hnd C.hle rfl
  hle := fun x hx => by
    rcases put_mem hx with rfl | ⟨hx, -⟩
    · exact Int.le_refl _
    · have := C.hle x hx; omega
  hlen := Nat.le_trans (put_len _ _) (by omega)
  n2 := C.n2
  n7 := C.n7
  n8 := C.n8
  lo := C.lo
  hoff := fun x hx => by
    rcases put_mem hx with rfl | ⟨hx, -⟩
    · exact hnew
    · exact C.hoff x hx
theorem setitem_v (hal : al = .none ∨ al = .ref f ∧ AlertV w keep f c cd dd mx md hl cap thr XI) : d ≤ 340 → u ≤ 6000 → Below A₀ base outer h₀ → (hd.heap_39 w.params).In h₀ → Top p loose mean mg mb h₀ → Fr h₀ L s.heap m → News h₀ L s.heap news →
    CV w keep news c cd dd mx md n cap thr al false D rows → rows.length ≤ 40 → KeyN news k kw → (hl, W.listOf vs.toArray ep0) ∈ news → vs.length ≤ 90 → (∀ q ∈ keep, ∃ o, (q, o) ∈ news) → (∀ q ∈ XI, q ∈ news) → (∀ q ∈ XI, q.1 ≠ md ∧ q.1 ≠ dd ∧ q.1 ≠ hl ∧ q.1 ≠ c) → hl ∈ keep → (f, (⟨.type "function", fod, .func fd, fsl⟩ : Obj)) ∈ news →
    ThrOK PySem.Challenge.rw_eu0033_02.row.prog w cap thr dbl PM PA → 0 ≤ cap → 2 * cap ≤ dbl →
    (∀ h' tk' news' news1 (rows' : List (Row Key)) (r : Row Key), Fr h₀ L h' m → News h₀ L h' news' → CV w keep news' c cd dd mx md (n + 1) cap thr al false (keyD D rows k kw) rows' → r.key = k → r.ctr = n + 1 → r.val = v → (∀ q ∈ news, q.1 ≠ c → q.1 ≠ dd → q ∈ news1) → MPV dbl cap al f hl vs ep0 (keyD D rows k kw) (putRow rows r) rows' news1 news' →
      (∀ q ∈ news, q.1 ≠ c → q.1 ≠ dd → q.1 ≠ hl → q.1 ≠ md → q ∈ news') → Q .none { s with heap := h', toks := tk' }) →
    wpAny (model PySem.Challenge.rw_eu0033_02.row.prog w) (AA d u gs nm mo gl cl ql fn co bi L outer) (call (.ref 159) [.ref c, kw, v]) Q E s := by
  k_fill
  intro hdp hu B X T F N C hl5 hkw hh hvl hkp hX hXm hlk hf hthr c0 c2 K
  obtain ⟨⟨t, tc, h1⟩, h2, ⟨od, h3, hdi⟩, h4, ⟨hs, hk, h5⟩, hrows, hks, hkn, hnd, hnl, hlen, n2, n7, n8, lo, hoff⟩ := id C
  have hkN := C.keysN
  have hc := hdi.1.1
  have hxl := xsD_len D rows
  have n6 : dd ≠ c := news_nec N h3 h1 (by rw [hc]; simp)
  have n1 : cd ≠ c := news_nec N h2 h1 (by simp)
  have n3 : mx ≠ c := news_nec N h4 h1 (by simp)
  have n4 : mx ≠ dd := news_nec N h4 h3 (by rw [hc]; simp)
  have n5 : md ≠ c := news_nec N h5 h1 (by simp)
  have g2 : hl ≠ dd := news_nec N hh h3 (by rw [hc]; simp)
  have g3 : hl ≠ c := news_nec N hh h1 (by simp)
  have nf1 : f ≠ c := news_nec N hf h1 (by simp)
  have nf2 : f ≠ dd := news_nec N hf h3 (by rw [hc]; simp)
  have hR1 : ∀ q ∈ wo [c, dd] news, q.1 ≠ dd := wo_ne (by simp)
  have hR2 : ∀ q ∈ wo [c, dd] news, q.1 ≠ c := wo_ne (by simp)
  have hfr : ∀ q ∈ news, q.1 ≠ c → q.1 ≠ dd → q ∈ wo [c, dd] news := fun q hq e1 e2 => wo_mem hq (by simp [e1, e2])
  have hf' := hfr _ hf nf1 nf2
  have hh' := hfr _ hh g3 g2
  have hX' : ∀ q ∈ XI, q ∈ wo [c, dd] news := fun q hq => hfr q (hX q hq) (hXm q hq).2.2.2 (hXm q hq).2.1
  have htup : ∀ q ∈ news, q.2.cls = .type "tuple" → q ∈ wo [c, dd] news := fun q hq e => hfr q hq (news_nec N hq h1 (by rw [e]; simp)) (news_nec N hq h3 (by rw [e, hc]; simp))
  have hrows' : RowsIn (wo [c, dd] news) rows := fun r hr => ⟨htup _ (hrows r hr).1 rfl, hfr _ (hrows r hr).2 (news_nec N (hrows r hr).2 h1 (by simp)) (news_nec N (hrows r hr).2 h3 (by rw [hc]; simp))⟩
  have hks' : ∀ r ∈ rows, KeyN (wo [c, dd] news) r.key (D r.key) ∧ KeyN (wo [c, dd] news) r.key r.kv := fun r hr => ⟨(hks r hr).1.mono htup, (hks r hr).2.mono htup⟩
  have hkN' := hkN.mono htup
  have hkw' := hkw.mono htup
  have N1 : News h₀ L s.heap ((c, cacheObj cd dd mx n t (.int cap tc) al thr) :: (cd, dictOf [] 0) :: (dd, od) :: (mx, lockObj md) :: (md, heldDict hs hk false) :: wo [c, dd] news) :=
    news_cons N h1 (news_cons N h2 (news_cons N h3 (news_cons N h4 (news_cons N h5 (news_mono N fun _ h => wo_sub h)))))
  have hkp' : ∀ q ∈ keep, q = c ∨ q = dd ∨ ∃ o, (q, o) ∈ wo [c, dd] news := fun q hq => by
    obtain ⟨o, ho⟩ := hkp q hq
    by_cases e : q = c
    · exact .inl e
    · by_cases e2 : q = dd
      · exact .inr (.inl e2)
      · exact .inr (.inr ⟨o, hfr _ ho e e2⟩)
  generalize wo [c, dd] news = R at *
  clear N h1 h2 h3 h4 h5 hkp hrows hks hkN hkw htup
  k_steps
  unfold Stop
  with_reducible rename News _ _ _ _ => N8
  with_reducible rename Fr _ _ _ _ => F8
  have hkA := keysN_at N8 hkN' fun q hq => by simp [hq]
  have hkB := keyN_at N8 hkw' fun q hq => by simp [hq]
  k_dflt (refine' v_set ?hu F8 N8 ?U hdi hkA hkB ?hz ?_)
  case hu => (simp only [AA, Around.deeper, cLine]; omega)
  case U => k_updF
  case hz => (show (xsD D rows).length ≤ _; rw [hxl]; omega)
  intro h9 o9 F9 N9 hd9
  (try dsimp only at N9)
  clear N8 F8 hkA hkB
  with_reducible rename _ ∧ _ => c1
  obtain ⟨q1, -⟩ := id c1
  clear c1
  with_reducible rename _ ∧ _ => c0'
  k_steps
  unfold Stop
  have C2 := cv_put C hrows' hks' hkw' hd9 (by omega) (by
    intro hm
    rcases hkp' _ hm with e | e | ⟨o, ho⟩
    · exact absurd c0'.1 (by rw [e]; exact Nat.lt_irrefl _)
    · exact absurd c0'.2.2.1 (by rw [e]; exact Nat.lt_irrefl _)
    · exact absurd (allLt_mem c0'.2.2.2.2.2 _ ho) (Nat.lt_irrefl _)) N9
  k_dflt (refine' manage_v (vs := vs) (ep0 := ep0) (fd := fd) (fod := fod) (fsl := fsl) hal ?k1 ?ku ?k2 ?k3 ?k4 ?k5 ?k6 C2 ?kl ?kb hvl ?kc ?kd hlk ?ke hthr c0 c2 ?_)
  case k1 => (try simp only [depth_deeper]); omega
  case ku => (simp only [AA]; omega)
  case k2 => k_asm
  case k3 => k_asm
  case k4 => k_asm
  case k5 => k_asm
  case k6 => k_asm
  case kl => exact Nat.le_trans (put_len _ _) (by omega)
  case kb => simp [hh']
  case kc => exact fun q hq => by simp [hX' q hq]
  case kd => exact fun q hq => ⟨(hXm q hq).1, (hXm q hq).2.1, (hXm q hq).2.2.1⟩
  case ke => simp [hf']
  k_whole
  intro h2' tk2' news2 rows2 F2 N2 C3 hp hfr2
  k_steps
  with_reducible rename Fr h₀ L _ _ => F9
  with_reducible rename News h₀ L _ _ => N9
  refine K _ _ _ _ rows2 _ F9 N9 C3 ?_ ?_ ?_ (fun q hq e1 e2 => ?_) hp fun q hq e1 e2 e3 e4 => hfr2 q (by simp [hfr q hq e1 e2]) e2 e3 e4
  · rfl
  · rfl
  · rfl
  · simp [hfr q hq e1 e2]
end Mine2
end
section
open PySem PySem.W PyProof.Rows
namespace Mine2
open MineS MineP MineV
set_option maxRecDepth 100000
set_option maxHeartbeats 8000000
local macro_rules | `(tactic| k_all) => `(tactic| first | assumption)
local macro_rules | `(tactic| k_ne) => `(tactic| (refine neN ?_; (try dsimp only); first | assumption | (apply Ne.symm; assumption)))
local macro_rules | `(tactic| k_room) => `(tactic| ((try simp only [depth_under_make, depth_under_kw, depth_in1, depth_deeper, depth_caller]); show _ < 1000; omega))
local macro_rules | `(tactic| walk_at "delItem ref") => `(tactic| (k_dflt (refine' delItem_own ?k1 ?k2 ?k3 ?k4 ?k5 ?k6 ?_; (case k1 => k_asm); (case k2 => k_asm); (case k3 => k_inst); (case k4 => k_is); (case k5 => k_is); (case k6 => k_is); k_whole)))
variable {w : World} {A₀ : Around} {d u : Nat} {gs : Option (List Code)} {nm : List (Str × NameKind)} {mo : List (Str × PySem.Const)} {gl : Addr} {cl : List (Str × Addr)} {ql : Str} {fn : Option Addr} {co : Value} {bi : Addr} {outer : List Env}
  {base h₀ : Heap} {L : Addr} {s : Shared} {m mg mb : Str → Option Value} {mean : ExcName → Option Value} {loose : List Str} {p : Program} {news : List (Addr × Obj)} {Q : Value → Shared → Prop} {E : Value → Shared → Prop} {keep : List Addr}
local macro_rules | `(tactic| walk_at "subscriptTail") => `(tactic| (k_dflt (refine v_item_missing (by (simp only [AA, Around.deeper, cLine]; omega)) (by k_asm) (by k_mem) (by k_asm) (by k_asm) (by k_asm) (by k_asm) (by rfl) (by assumption) ?_); intro h' e' x'))
local macro_rules | `(tactic| walk_at "subscriptTail") => `(tactic| (k_dflt (refine v_item (by (simp only [AA, Around.deeper, cLine]; omega)) (by k_asm) (by k_mem) (by k_asm) (by k_asm) (by k_asm) (by assumption) ?_)))
local macro_rules | `(tactic| walk_at "call builtin:dict.get") => `(tactic| (k_dflt (refine v_get1 (by (simp only [AA, Around.deeper, cLine]; omega)) (by k_asm) (by k_mem) (by k_asm) (by k_asm) (by k_asm) (by k_asm) _ (by assumption) ?_); (try dsimp only [Option.getD])))
local macro_rules | `(tactic| walk_at "getMethod ref") => `(tactic| (k_dflt (first | refine v_method PySem.F.slot_dict_get PySem.F.type_dict_get (by k_asm) (by k_mem) (by k_asm) ?_ | refine v_method PySem.F.slot_dict_values PySem.F.type_dict_values (by k_asm) (by k_mem) (by k_asm) ?_)))
local macro_rules | `(tactic| walk_at "delItem ref") => `(tactic| (k_dflt (refine v_del_missing (by (simp only [AA, Around.deeper, cLine]; omega)) (by k_asm) (by k_mem) (by k_asm) (by k_asm) (by k_asm) (by k_asm) (by rfl) (by omega) (by assumption) ?_); intro h' e' x'))
local macro_rules | `(tactic| walk_at "delItem ref") => `(tactic| (k_dflt (refine' v_del ?hu ?F ?N ?U ?d ?hs ?hk ?hz ?hi ?_; (case hu => (simp only [AA, Around.deeper, cLine]; omega)); (case F => k_asm); (case N => k_asm); (case U => k_updF); (case d => k_asm); (case hs => k_asm); (case hk => k_asm); (case hz => omega); (case hi => assumption)); intro h' o' F' N' hd'; (try dsimp only at N')))
local macro_rules | `(tactic| walk_at "setItem ref") => `(tactic| (k_dflt (refine' v_set ?hu ?F ?N ?U ?d ?hs ?hk ?hz ?_; (case hu => (simp only [AA, Around.deeper, cLine]; omega)); (case F => k_asm); (case N => k_asm); (case U => k_updF); (case d => k_asm); (case hs => k_asm); (case hk => k_asm); (case hz => omega)); intro h' o' F' N' hd'; (try dsimp only at N')))
local macro_rules | `(tactic| walk_at "call builtin:len") => `(tactic| ((with_reducible show wpAny _ _ (call (Value.builtin "len") [Value.ref _]) _ _ _); k_dflt (refine v_len (by k_asm) (by k_mem) (by k_asm) (by k_asm) (by omega) ?_)))
variable {c cd dd mx md : Addr} {n : Int} {thr al : Value} {cap : Int} {rows : List (Row Key)} {D : Key → Value} {b : Bool} {r : Row Key} {k : Key} {kw dflt : Value}
theorem cv_touch {t t' tc : Tok} {h : Heap} (N : News h₀ L h news) (C : CV w keep news c cd dd mx md n cap thr al b D rows) (h1 : (c, cacheObj cd dd mx n t (.int cap tc) al thr) ∈ news) (hr : r ∈ rows) :
    CV w keep ((c, cacheObj cd dd mx (n + 1) t' (.int cap tc) al thr) :: (r.lst, W.listOf #[.int (n + 1) t'] r.ep) :: wo [c, r.lst] news) c cd dd mx md (n + 1) cap thr al b D (touch rows r.key (n + 1) t') := by
  obtain ⟨-, h2, ⟨od, h3, hdi⟩, h4, ⟨hs, hk, h5⟩, hrows, hks, hkn, hnd, hnl, hlen, n2, n7, n8, lo, hoff⟩ := C
  obtain ⟨q1, q2⟩ := hrows r hr
  have hc := hdi.1.1
  have e1 : ∀ q ∈ news, q.1 ≠ c → q.1 ≠ r.lst → q ∈ (c, cacheObj cd dd mx (n + 1) t' (.int cap tc) al thr) :: (r.lst, W.listOf #[.int (n + 1) t'] r.ep) :: wo [c, r.lst] news := fun q hq a1 a2 => .tail _ (.tail _ (wo_mem hq (by simp [a1, a2])))
  refine { hc := ⟨_, _, .head _⟩, hcd := e1 _ h2 ?_ ?_, hdd := ⟨od, e1 _ h3 ?_ ?_, by rw [xsD_touch]; exact hdi⟩, hmx := e1 _ h4 ?_ ?_, hmd := ⟨_, _, e1 _ h5 ?_ ?_⟩, hrows := ?_, hks := ?_, hkn := by rw [touch_keys]; exact hkn, hnd := touch_ctrs hkn hnd hnl, hle := ?_, hlen := by simpa [touch] using hlen, n2 := n2, n7 := n7, n8 := n8, lo := lo, hoff := ?_ }
  · exact news_nec N h2 h1 (by simp)
  · exact news_nec N h2 q2 (by simp)
  · exact news_nec N h3 h1 (by rw [hc]; simp)
  · exact news_nec N h3 q2 (by rw [hc]; simp)
  · exact news_nec N h4 h1 (by simp)
  · exact news_nec N h4 q2 (by simp)
  · exact news_nec N h5 h1 (by simp)
  · exact news_nec N h5 q2 (by simp)
  · intro x hx
    obtain ⟨y, hy, rfl⟩ := List.mem_map.mp hx
    obtain ⟨p1, p2⟩ := hrows y hy
    by_cases e : y.key = r.key
    · have := key_inj hkn hy hr e
      subst this
      rw [if_pos rfl]
      exact ⟨e1 _ p1 (news_nec N p1 h1 (by simp)) (news_nec N p1 q2 (by simp)), .tail _ (.head _)⟩
    · rw [if_neg e]
      refine ⟨e1 _ p1 (news_nec N p1 h1 (by simp)) (news_nec N p1 q2 (by simp)), e1 _ p2 (news_nec N p2 h1 (by simp)) (news_ne N p2 q2 fun q => ?_)⟩
      have q' := congrArg Obj.data q
      simp only [W.listOf, Data.seq.injEq] at q'
      have q3 := congrArg Array.toList q'.1
      simp only [List.cons.injEq, Value.int.injEq] at q3
      exact e (congrArg Row.key (ctr_inj hnd hy hr q3.1.1))
  · intro x hx
    obtain ⟨y, hy, rfl⟩ := List.mem_map.mp hx
    have up : ∀ q ∈ news, q.2.cls = .type "tuple" → q ∈ (c, cacheObj cd dd mx (n + 1) t' (.int cap tc) al thr) :: (r.lst, W.listOf #[.int (n + 1) t'] r.ep) :: wo [c, r.lst] news := fun q hq e => e1 q hq (news_nec N hq h1 (by rw [e]; simp)) (news_nec N hq q2 (by rw [e]; simp))
    obtain ⟨k1, k2⟩ := hks y hy
    have k3 := And.intro (k1.mono up) (k2.mono up)
    split <;> exact k3
  · intro x hx
    obtain ⟨y, hy, rfl⟩ := List.mem_map.mp hx
    have := hnl y hy
    split <;> (try dsimp only) <;> omega
  · intro x hx
    obtain ⟨y, hy, rfl⟩ := List.mem_map.mp hx
    have := hoff y hy
    split <;> exact this
/-- box.get(key, dflt), the key there -/
theorem getf_v {big : List (Addr × Obj)} : d ≤ 390 → u ≤ 8000 → Below A₀ base outer h₀ → (hd.heap_39 w.params).In h₀ → Top p loose mean mg mb h₀ → Fr h₀ L s.heap m → News h₀ L s.heap big → (∀ q ∈ news, q ∈ big) →
    CV w keep news c cd dd mx md n cap thr al b D rows → r ∈ rows → KeyN big r.key kw →
    (∀ h' tk' t' news', Fr h₀ L h' m → News h₀ L h' news' → News h₀ L h' (wo [c, r.lst] big) → CV w keep news' c cd dd mx md (n + 1) cap thr al b D (touch rows r.key (n + 1) t') →
      (∀ q ∈ news, q.1 ≠ c → q.1 ≠ r.lst → q ∈ news') → (∀ q ∈ news', ∃ o, (q.1, o) ∈ news) → Q r.val { s with heap := h', toks := tk' }) →
    wpAny (model PySem.Challenge.rw_eu0033_02.row.prog w) (AA d u gs nm mo gl cl ql fn co bi L outer) (call (.ref 131) [.ref c, kw, dflt]) Q E s := by
  intro hdp hu B X T F N sub C hr hkw K
  have C0 := C
  obtain ⟨⟨t, tc, h1⟩, h2, ⟨od, h3, hdi⟩, h4, ⟨hs, hk, h5⟩, hrows, hks, hkn, hnd, hnl, hlen, n2, n7, n8, lo, hoff⟩ := C
  obtain ⟨q1, q2⟩ := hrows r hr
  have Nn := news_mono N sub
  refine get_found (L := L) (by omega) (by omega) B X T F N (sub _ h1) (sub _ h2) (sub _ h3) hdi lo (C0.keysN.mono fun q hq _ => sub q hq) hkw (xsD_at hkn hr) (sub _ q1) (sub _ q2) fun h' tk' t' F' N' => ?_
  refine K h' tk' t' ((c, cacheObj cd dd mx (n + 1) t' (.int cap tc) al thr) :: (r.lst, W.listOf #[.int (n + 1) t'] r.ep) :: wo [c, r.lst] news) F' (news_mono N' fun q hq => ?_) (news_mono N' fun q hq => .tail _ (.tail _ hq)) (cv_touch Nn C0 h1 hr)
    (fun q hq a1 a2 => .tail _ (.tail _ (wo_mem hq (by simp [a1, a2])))) (fun q hq => ?_)
  · rcases List.mem_cons.mp hq with rfl | hq
    · exact .head _
    rcases List.mem_cons.mp hq with rfl | hq
    · exact .tail _ (.head _)
    · exact .tail _ (.tail _ (wo_mem (sub _ (wo_sub hq)) (wo_not hq)))
  · rcases List.mem_cons.mp hq with rfl | hq
    · exact ⟨_, h1⟩
    rcases List.mem_cons.mp hq with rfl | hq
    · exact ⟨_, q2⟩
    · exact ⟨_, wo_sub hq⟩
/-- box[key], the key there -/
theorem geti_v {big : List (Addr × Obj)} : d ≤ 390 → u ≤ 8000 → Below A₀ base outer h₀ → (hd.heap_39 w.params).In h₀ → Top p loose mean mg mb h₀ → Fr h₀ L s.heap m → News h₀ L s.heap big → (∀ q ∈ news, q ∈ big) →
    CV w keep news c cd dd mx md n cap thr al b D rows → r ∈ rows → KeyN big r.key kw →
    (∀ h' tk' t' news', Fr h₀ L h' m → News h₀ L h' news' → News h₀ L h' (wo [c, r.lst] big) → CV w keep news' c cd dd mx md (n + 1) cap thr al b D (touch rows r.key (n + 1) t') →
      (∀ q ∈ news, q.1 ≠ c → q.1 ≠ r.lst → q ∈ news') → (∀ q ∈ news', ∃ o, (q.1, o) ∈ news) → Q r.val { s with heap := h', toks := tk' }) →
    wpAny (model PySem.Challenge.rw_eu0033_02.row.prog w) (AA d u gs nm mo gl cl ql fn co bi L outer) (call (.ref 138) [.ref c, kw]) Q E s := by
  intro hdp hu B X T F N sub C hr hkw K
  have C0 := C
  obtain ⟨⟨t, tc, h1⟩, h2, ⟨od, h3, hdi⟩, h4, ⟨hs, hk, h5⟩, hrows, hks, hkn, hnd, hnl, hlen, n2, n7, n8, lo, hoff⟩ := C
  obtain ⟨q1, q2⟩ := hrows r hr
  have Nn := news_mono N sub
  refine getitem_found (L := L) (by omega) (by omega) B X T F N (sub _ h1) (sub _ h2) (sub _ h3) hdi lo (C0.keysN.mono fun q hq _ => sub q hq) hkw (xsD_at hkn hr) (sub _ q1) (sub _ q2) fun h' tk' t' F' N' => ?_
  refine K h' tk' t' ((c, cacheObj cd dd mx (n + 1) t' (.int cap tc) al thr) :: (r.lst, W.listOf #[.int (n + 1) t'] r.ep) :: wo [c, r.lst] news) F' (news_mono N' fun q hq => ?_) (news_mono N' fun q hq => .tail _ (.tail _ hq)) (cv_touch Nn C0 h1 hr)
    (fun q hq a1 a2 => .tail _ (.tail _ (wo_mem hq (by simp [a1, a2])))) (fun q hq => ?_)
  · rcases List.mem_cons.mp hq with rfl | hq
    · exact .head _
    rcases List.mem_cons.mp hq with rfl | hq
    · exact .tail _ (.head _)
    · exact .tail _ (.tail _ (wo_mem (sub _ (wo_sub hq)) (wo_not hq)))
  · rcases List.mem_cons.mp hq with rfl | hq
    · exact ⟨_, h1⟩
    rcases List.mem_cons.mp hq with rfl | hq
    · exact ⟨_, q2⟩
    · exact ⟨_, wo_sub hq⟩
/-- box.get(key, dflt), no such key -/
theorem getn_v : d ≤ 390 → u ≤ 8000 → Below A₀ base outer h₀ → (hd.heap_39 w.params).In h₀ → Top p loose mean mg mb h₀ → Fr h₀ L s.heap m → News h₀ L s.heap news →
    CV w keep news c cd dd mx md n cap thr al b D rows → (∀ r ∈ rows, r.key ≠ k) → KeyN news k kw → (∀ h' tk', Fr h₀ L h' m → News h₀ L h' news → Q dflt { s with heap := h', toks := tk' }) →
    wpAny (model PySem.Challenge.rw_eu0033_02.row.prog w) (AA d u gs nm mo gl cl ql fn co bi L outer) (call (.ref 131) [.ref c, kw, dflt]) Q E s := by
  intro hdp hu B X T F N C hno hkw K
  have C0 := C
  obtain ⟨⟨t, tc, h1⟩, h2, ⟨od, h3, hdi⟩, h4, ⟨hs, hk, h5⟩, hrows, hks, hkn, hnd, hnl, hlen, n2, n7, n8, lo, hoff⟩ := C
  exact get_none (L := L) (by omega) (by omega) B X T F N h1 h2 h3 hdi lo C0.keysN hkw (xsD_none hno) K
theorem CV.sub {rows' : List (Row Key)} {news' : List (Addr × Obj)} {od' : Obj} {hs : Int} {hk : Tok} (C : CV w keep news c cd dd mx md n cap thr al b D rows) (hsub : rows'.Sublist rows) (hd' : IsV w od' (xsD D rows'))
    (h1 : (dd, od') ∈ news') (h2 : (md, heldDict hs hk b) ∈ news') (h3 : (cd, dictOf [] 0) ∈ news') (h4 : (mx, lockObj md) ∈ news') {t tc : Tok} (h5 : (c, cacheObj cd dd mx n t (.int cap tc) al thr) ∈ news')
    (h6 : RowsIn news' rows') (h7 : ∀ r ∈ rows', KeyN news' r.key (D r.key) ∧ KeyN news' r.key r.kv) : CV w keep news' c cd dd mx md n cap thr al b D rows' where
  hc := ⟨t, tc, h5⟩
  hcd := h3
  hdd := ⟨od', h1, hd'⟩
  hmx := h4
  hmd := ⟨hs, hk, h2⟩
  hrows := h6
  hks := h7
  hkn := C.hkn.sublist (hsub.map _)
  hnd := C.hnd.sublist (hsub.map _)
  hle := fun r hr => C.hle r (hsub.subset hr)
  hlen := Nat.le_trans hsub.length_le C.hlen
  n2 := C.n2
  n7 := C.n7
  n8 := C.n8
  lo := C.lo
  hoff := fun r hr => C.hoff r (hsub.subset hr)
/-- del box[key], the key there -/
theorem deli_v : d ≤ 390 → u ≤ 8000 → Below A₀ base outer h₀ → (hd.heap_39 w.params).In h₀ → Top p loose mean mg mb h₀ → Fr h₀ L s.heap m → News h₀ L s.heap news →
    CV w keep news c cd dd mx md n cap thr al b D rows → r ∈ rows → KeyN news r.key kw →
    (∀ h' tk' news', Fr h₀ L h' m → News h₀ L h' news' → CV w keep news' c cd dd mx md n cap thr al b D (rows.filter fun x => decide (x.key ≠ r.key)) → (∀ q ∈ news, q.1 ≠ dd → q ∈ news') → Q .none { s with heap := h', toks := tk' }) →
    wpAny (model PySem.Challenge.rw_eu0033_02.row.prog w) (AA d u gs nm mo gl cl ql fn co bi L outer) (call (.ref 166) [.ref c, kw]) Q E s := by
  intro hdp hu B X T F N C hr hkw K
  have C0 := C
  obtain ⟨⟨t, tc, h1⟩, h2, ⟨od, h3, hdi⟩, h4, ⟨hs, hk, h5⟩, hrows, hks, hkn, hnd, hnl, hlen, n2, n7, n8, lo, hoff⟩ := C
  have hxl := xsD_len D rows
  refine delitem_found (L := L) (by omega) (by omega) B X T F N h1 h2 h3 n2 hdi C0.keysN hkw (xsD_in hr) (by omega) fun h' tk' od' F' hd' N' => ?_
  have hc := hdi.1.1
  have e1 : ∀ q ∈ news, q.1 ≠ dd → q ∈ (dd, od') :: wo [dd] news := fun q hq a1 => .tail _ (wo_mem hq (by simp [a1]))
  have up : ∀ q ∈ news, q.2.cls = .type "tuple" → q ∈ (dd, od') :: wo [dd] news := fun q hq e => e1 q hq (news_nec N hq h3 (by rw [e, hc]; simp))
  rw [xsD_wo] at hd'
  refine K h' tk' _ F' N' (CV.sub C0 List.filter_sublist hd' (.head _) (e1 _ h5 n7) (e1 _ h2 n2) (e1 _ h4 ?_) (e1 _ h1 ?_) (fun x hx => ⟨up _ (hrows x (List.mem_filter.mp hx).1).1 rfl, e1 _ (hrows x (List.mem_filter.mp hx).1).2 ?_⟩) fun x hx => ⟨(hks x (List.mem_filter.mp hx).1).1.mono up, (hks x (List.mem_filter.mp hx).1).2.mono up⟩) e1
  · exact news_nec N h4 h3 (by rw [hc]; simp)
  · exact news_nec N h1 h3 (by rw [hc]; simp)
  · exact news_nec N (hrows x (List.mem_filter.mp hx).1).2 h3 (by rw [hc]; simp)
end Mine2
end
section
open PySem PySem.W PyProof.Rows
namespace Mine2
open MineS MineP MineV
set_option maxRecDepth 100000
set_option maxHeartbeats 8000000
local macro_rules | `(tactic| k_all) => `(tactic| first | assumption)
local macro_rules | `(tactic| k_ne) => `(tactic| (refine neN ?_; (try dsimp only); first | assumption | (apply Ne.symm; assumption)))
local macro_rules | `(tactic| k_room) => `(tactic| ((try simp only [depth_under_make, depth_under_kw, depth_in1, depth_deeper, depth_caller]); show _ < 1000; omega))
local macro_rules | `(tactic| walk_at "delItem ref") => `(tactic| (k_dflt (refine' delItem_own ?k1 ?k2 ?k3 ?k4 ?k5 ?k6 ?_; (case k1 => k_asm); (case k2 => k_asm); (case k3 => k_inst); (case k4 => k_is); (case k5 => k_is); (case k6 => k_is); k_whole)))
variable {w : World} {A₀ : Around} {d u : Nat} {gs : Option (List Code)} {nm : List (Str × NameKind)} {mo : List (Str × PySem.Const)} {gl : Addr} {cl : List (Str × Addr)} {ql : Str} {fn : Option Addr} {co : Value} {bi : Addr} {outer : List Env}
  {base h₀ : Heap} {L : Addr} {s : Shared} {m mg mb : Str → Option Value} {mean : ExcName → Option Value} {loose : List Str} {p : Program} {news : List (Addr × Obj)} {Q : Value → Shared → Prop} {E : Value → Shared → Prop} {keep : List Addr}
local macro_rules | `(tactic| walk_at "subscriptTail") => `(tactic| (k_dflt (refine v_item_missing (by (simp only [AA, Around.deeper, cLine]; omega)) (by k_asm) (by k_mem) (by k_asm) (by k_asm) (by k_asm) (by k_asm) (by rfl) (by assumption) ?_); intro h' e' x'))
local macro_rules | `(tactic| walk_at "subscriptTail") => `(tactic| (k_dflt (refine v_item (by (simp only [AA, Around.deeper, cLine]; omega)) (by k_asm) (by k_mem) (by k_asm) (by k_asm) (by k_asm) (by assumption) ?_)))
local macro_rules | `(tactic| walk_at "call builtin:dict.get") => `(tactic| (k_dflt (refine v_get1 (by (simp only [AA, Around.deeper, cLine]; omega)) (by k_asm) (by k_mem) (by k_asm) (by k_asm) (by k_asm) (by k_asm) _ (by assumption) ?_); (try dsimp only [Option.getD])))
local macro_rules | `(tactic| walk_at "getMethod ref") => `(tactic| (k_dflt (first | refine v_method PySem.F.slot_dict_get PySem.F.type_dict_get (by k_asm) (by k_mem) (by k_asm) ?_ | refine v_method PySem.F.slot_dict_values PySem.F.type_dict_values (by k_asm) (by k_mem) (by k_asm) ?_)))
local macro_rules | `(tactic| walk_at "delItem ref") => `(tactic| (k_dflt (refine v_del_missing (by (simp only [AA, Around.deeper, cLine]; omega)) (by k_asm) (by k_mem) (by k_asm) (by k_asm) (by k_asm) (by k_asm) (by rfl) (by omega) (by assumption) ?_); intro h' e' x'))
local macro_rules | `(tactic| walk_at "delItem ref") => `(tactic| (k_dflt (refine' v_del ?hu ?F ?N ?U ?d ?hs ?hk ?hz ?hi ?_; (case hu => (simp only [AA, Around.deeper, cLine]; omega)); (case F => k_asm); (case N => k_asm); (case U => k_updF); (case d => k_asm); (case hs => k_asm); (case hk => k_asm); (case hz => omega); (case hi => assumption)); intro h' o' F' N' hd'; (try dsimp only at N')))
local macro_rules | `(tactic| walk_at "setItem ref") => `(tactic| (k_dflt (refine' v_set ?hu ?F ?N ?U ?d ?hs ?hk ?hz ?_; (case hu => (simp only [AA, Around.deeper, cLine]; omega)); (case F => k_asm); (case N => k_asm); (case U => k_updF); (case d => k_asm); (case hs => k_asm); (case hk => k_asm); (case hz => omega)); intro h' o' F' N' hd'; (try dsimp only at N')))
local macro_rules | `(tactic| walk_at "call builtin:len") => `(tactic| ((with_reducible show wpAny _ _ (call (Value.builtin "len") [Value.ref _]) _ _ _); k_dflt (refine v_len (by k_asm) (by k_mem) (by k_asm) (by k_asm) (by omega) ?_)))
theorem v_iter2 {prog : Program} {A : Around} {d : Addr} {od : Obj} {es : Array DictEntry} {ep : Nat} {Q : Value → Shared → Prop} (F : Fr h₀ L s.heap m) (N : News h₀ L s.heap news) (hp : (d, od) ∈ news) (hod : od.ExactDict ∧ od.data = .dict es ep) (lo : (d == sysModules) = false)
    (h : ∀ I h' oI, Fr h₀ L h' m → News h₀ L h' ((I, oI) :: news) → (∀ q ∈ news, q.1 < I) → KdkIter oI d 0 es.size ep → Q (.ref I) { s with heap := h' }) :
    wpAny (model prog w) A (call (.builtin "iter") [.ref d]) Q E s := by
  refine Calls.call_function_entry (by decide +kernel) (by decide +kernel) kdk_entry_iter (kdk_args_iter _) ?_
  unfold Builtin.«iter»
  refine wpAny_bind (m := someArgs "iter" 1 2 _) (wpAny_of_eq (a := [Value.ref d]) (by first | rfl | kernel_rfl!) ?_)
  show wpAny _ _ (pyIter (.ref d) >>= _) _ _ _
  refine wpAny_bind (e_iter lo ⟨od, (N _ hp).1, hod.1, hod.2⟩ ?_)
  exact wpAny_pure ⟨_, rfl, h _ _ _ (F.push _) (News.push F N _ rfl) (fun q hq => Heap.lt_size (N q hq).1) ⟨rfl, rfl⟩⟩
local macro_rules | `(tactic| walk_at "call builtin:iter") => `(tactic| (k_dflt (refine v_iter2 (by k_asm) (by k_asm) (by k_mem) (by k_asm) (by k_asm) ?_); intro I' h' oI' F' N' l1 hi'; (try k_lt l1)))
variable {c cd dd mx md : Addr} {n : Int} {t : Tok} {cap al thr : Value} {od : Obj} {es : Array DictEntry} {ep : Nat} {xs : List Ent}
theorem iter_own : d ≤ 500 → Below A₀ base outer h₀ → (hd.heap_39 w.params).In h₀ → Top p loose mean mg mb h₀ → Fr h₀ L s.heap m → News h₀ L s.heap news →
    (c, cacheObj cd dd mx n t cap al thr) ∈ news → (cd, dictOf [] 0) ∈ news → (dd, od) ∈ news → (od.ExactDict ∧ od.data = .dict es ep) → (dd == sysModules) = false →
    (∀ h' tk' I o, Fr h₀ L h' m → News h₀ L h' ((I, o) :: news) → (∀ q ∈ news, q.1 < I) → KdkIter o dd 0 es.size ep → Q (.ref I) { s with heap := h', toks := tk' }) →
    wpAny (model PySem.Challenge.rw_eu0033_02.row.prog w) (AA d u gs nm mo gl cl ql fn co bi L outer) (call (.ref 145) [.ref c]) Q E s := by
  k_fill
  intro hdp B X T F N h1 h2 h3 hdi lo K
  have hc := hdi.1.1
  have n6 : dd ≠ c := news_nec N h3 h1 (by rw [hc]; simp)
  have n1 : cd ≠ c := news_nec N h2 h1 (by simp)
  have N1 : News h₀ L s.heap ((c, cacheObj cd dd mx n t cap al thr) :: (cd, dictOf [] 0) :: (dd, od) :: news) := news_cons N h1 (news_cons N h2 (news_cons N h3 N))
  clear N h1 h2 h3
  k_steps
  with_reducible rename KdkIter _ _ _ _ _ => hi
  with_reducible rename News h₀ L _ _ => N9
  with_reducible rename _ ∧ _ => hl
  exact K _ _ _ _ (by assumption) (news_cons N9 (.head _) (news_mono N9 fun q hq => by simp [hq])) (by
    have z := hl
    repeat (first | exact allLt_mem z | replace z := z.2)) hi
theorem len_own : d ≤ 500 → Below A₀ base outer h₀ → (hd.heap_39 w.params).In h₀ → Top p loose mean mg mb h₀ → Fr h₀ L s.heap m → News h₀ L s.heap news →
    (c, cacheObj cd dd mx n t cap al thr) ∈ news → (cd, dictOf [] 0) ∈ news → (dd, od) ∈ news → IsV w od xs → (dd == sysModules) = false → xs.length ≤ 60 →
    (∀ h' tk' t', Fr h₀ L h' m → News h₀ L h' news → Q (.int xs.length t') { s with heap := h', toks := tk' }) →
    wpAny (model PySem.Challenge.rw_eu0033_02.row.prog w) (AA d u gs nm mo gl cl ql fn co bi L outer) (call (.builtin "len") [.ref c]) Q E s := by
  k_fill
  intro hdp B X T F N h1 h2 h3 hdi lo hn K
  have N1 : News h₀ L s.heap ((c, cacheObj cd dd mx n t cap al thr) :: (cd, dictOf [] 0) :: (dd, od) :: news) := news_cons N h1 (news_cons N h2 (news_cons N h3 N))
  clear N h1 h2 h3
  k_steps
  with_reducible rename News h₀ L _ _ => N9
  exact K _ _ _ (by assumption) (news_mono N9 fun q hq => by simp [hq])
theorem len_v {rows : List (Row Key)} {D : Key → Value} {n cap : Int} {thr al : Value} {b : Bool} : d ≤ 390 → Below A₀ base outer h₀ → (hd.heap_39 w.params).In h₀ → Top p loose mean mg mb h₀ → Fr h₀ L s.heap m → News h₀ L s.heap news →
    CV w keep news c cd dd mx md n cap thr al b D rows →
    (∀ h' tk' t', Fr h₀ L h' m → News h₀ L h' news → Q (.int rows.length t') { s with heap := h', toks := tk' }) →
    wpAny (model PySem.Challenge.rw_eu0033_02.row.prog w) (AA d u gs nm mo gl cl ql fn co bi L outer) (call (.builtin "len") [.ref c]) Q E s := by
  intro hdp B X T F N C K
  obtain ⟨⟨t, tc, h1⟩, h2, ⟨od, h3, hdi⟩, h4, ⟨hs, hk, h5⟩, hrows, hks, hkn, hnd, hnl, hlen, n2, n7, n8, lo, hoff⟩ := C
  have hxl := xsD_len D rows
  rw [← hxl] at K
  exact len_own (by omega) B X T F N h1 h2 h3 hdi lo (by omega) K
theorem list_v {rows : List (Row Key)} {D : Key → Value} {n cap : Int} {thr al : Value} {b : Bool} : d ≤ 390 → Below A₀ base outer h₀ → (hd.heap_39 w.params).In h₀ → Top p loose mean mg mb h₀ → Fr h₀ L s.heap m → News h₀ L s.heap news →
    CV w keep news c cd dd mx md n cap thr al b D rows →
    (∀ DL h' tk' e, Fr h₀ L h' m → News h₀ L h' ((DL, W.listOf (rows.map fun r => D r.key).toArray e) :: news) → (∀ q ∈ news, q.1 < DL) → Q (.ref DL) { s with heap := h', toks := tk' }) →
    wpAny (model PySem.Challenge.rw_eu0033_02.row.prog w) (AA d u gs nm mo gl cl ql fn co bi L outer) (call (.type "list") [.ref c]) Q E s := by
  k_fill
  intro hdp B X T F N C K
  obtain ⟨⟨t, tc, h1⟩, h2, ⟨od, h3, hdi⟩, h4, ⟨hs, hk, h5⟩, hrows, hks, hkn, hnd, hnl, hlen, n2, n7, n8, lo, hoff⟩ := C
  have hxl := xsD_len D rows
  obtain ⟨hx, es, ep, hdd, he, hn⟩ := id hdi
  have hsz := ent_size he
  have hkeys : es.toList.map (·.key) = rows.map fun r => D r.key := by
    rw [he, List.map_map]; unfold xsD; rw [List.map_map]; rfl
  refine own_list (es := es) (ep := ep) (fi := 145) (fl := 152) rfl F N X (fun h N' => InstAt.of_news N' h1 h2) h3 ⟨hx, hdd⟩ (by k_is) (by k_is) (by k_is) ⟨_, h1⟩ (by omega) ?ci ?cl fun DL h' tk' e F' N' hD => by rw [hkeys] at N'; exact K DL h' tk' e F' N' hD
  case ci =>
    intro s1 news1 Q' E' hsub F1 N1 K1
    exact iter_own (d := d) (u := u + 1 + 1) (by omega) B X T F1 N1 (hsub _ h1) (hsub _ h2) (hsub _ h3) ⟨hx, hdd⟩ lo K1
  case cl =>
    intro s1 news1 Q' E' hsub F1 N1 K1
    refine len_own (d := d) (u := u + 1 + 1) (xs := xsD D rows) (by omega) B X T F1 N1 (hsub _ h1) (hsub _ h2) (hsub _ h3) hdi lo (by omega) fun h' tk' t' F' N' => ?_
    rw [← hsz]
    exact K1 h' tk' t' F' N'
end Mine2
end
section
open PySem PySem.W PyProof.Rows
namespace Mine2
set_option maxRecDepth 100000
theorem thr_int {prog : Program} {w : World} {cap k : Int} {tk : Tok} (c1 : 1 ≤ cap) (c4 : cap ≤ 4) (k0 : 0 ≤ k) (k1 : k ≤ 1) : ThrOK prog w cap (.int k tk) (2 * (cap + cap * k)) (fun y => ∃ t, y = .int (cap * k) t) (fun x => ∃ t, x = .int (cap + cap * k) t) where
  hand := rfl
  mul := fun {A E s tc Q} h => mul_int (h _ _ ⟨_, rfl⟩)
  add := fun {A E s tc y Q} hy h => by
    obtain ⟨t, rfl⟩ := hy
    exact add_int (h _ _ ⟨_, rfl⟩)
  gt := fun {A E s n t x Q} hx n0 n64 h => by
    obtain ⟨t, rfl⟩ := hx
    refine gt_int ?_
    have e : decide (2 * (cap + cap * k) < 2 * n) = decide (n > cap + cap * k) := by
      apply decide_eq_decide.mpr; omega
    rw [e] at h; exact h
theorem thr_0 {prog : Program} {w : World} {cap : Int} {tk : Tok} (c1 : 1 ≤ cap) (c4 : cap ≤ 4) : ThrOK prog w cap (.int 0 tk) (2 * cap) (fun y => ∃ t, y = .int (cap * 0) t) (fun x => ∃ t, x = .int (cap + cap * 0) t) := by
  have h := thr_int (prog := prog) (w := w) (tk := tk) (k := 0) c1 c4 (by decide) (by decide)
  have e : 2 * (cap + cap * 0) = 2 * cap := by omega
  rw [e] at h; exact h
theorem thr_1 {prog : Program} {w : World} {cap : Int} {tk : Tok} (c1 : 1 ≤ cap) (c4 : cap ≤ 4) : ThrOK prog w cap (.int 1 tk) (4 * cap) (fun y => ∃ t, y = .int (cap * 1) t) (fun x => ∃ t, x = .int (cap + cap * 1) t) := by
  have h := thr_int (prog := prog) (w := w) (tk := tk) (k := 1) c1 c4 (by decide) (by decide)
  have e : 2 * (cap + cap * 1) = 4 * cap := by omega
  rw [e] at h; exact h
abbrev half : UInt64 := 4602678819172646912
theorem half_gt : ∀ (c : Fin 5) (n : Fin 65), (Float64.cmpInt (Float64.add (Float64.ofInt (c.val : Int)) (Float64.mul (Float64.ofInt (c.val : Int)) half)) (n.val : Int) == some Ordering.lt) = decide (3 * (c.val : Int) < 2 * (n.val : Int)) := by decide +kernel
theorem thr_half {prog : Program} {w : World} {cap : Int} {tk : Tok} (c1 : 1 ≤ cap) (c4 : cap ≤ 4) : ThrOK prog w cap (.float half tk) (3 * cap) (fun y => ∃ t, y = .float (Float64.mul (Float64.ofInt cap) half) t) (fun x => ∃ t, x = .float (Float64.add (Float64.ofInt cap) (Float64.mul (Float64.ofInt cap) half)) t) where
  hand := rfl
  mul := fun {A E s tc Q} h => mul_if_fits (by have : cap.natAbs ≤ 4 := by omega
                                               exact Nat.lt_of_le_of_lt this (by decide +kernel)) (h _ _ ⟨_, rfl⟩)
  add := fun {A E s tc y Q} hy h => by
    obtain ⟨t, rfl⟩ := hy
    exact add_if_fits (by have : cap.natAbs ≤ 4 := by omega
                          exact Nat.lt_of_le_of_lt this (by decide +kernel)) (h _ _ ⟨_, rfl⟩)
  gt := fun {A E s n t x Q} hx n0 n64 h => by
    obtain ⟨t, rfl⟩ := hx
    refine gt_if ?_
    obtain ⟨c, rfl⟩ : ∃ c : Nat, cap = (c : Int) := ⟨cap.toNat, by omega⟩
    obtain ⟨m, rfl⟩ : ∃ m : Nat, n = (m : Int) := ⟨n.toNat, by omega⟩
    have := half_gt ⟨c, by omega⟩ ⟨m, by omega⟩
    dsimp only at this
    rw [this]; exact h
end Mine2
end
section
namespace Mine2
/-! marks of the walk's phases: a Stop looks for them among the hypotheses -/
def PassIf : Prop := True
def PassLC : Prop := True
def PassTail : Prop := True
def PassCall : Prop := True
def PassSub : Prop := True
end Mine2
end
section
open PySem PySem.W PyProof.Rows
namespace Mine2
open MineS MineP MineV
/-! the plain rows: by entry, by last touch, what was laid -/
section
variable {α : Type} [DecidableEq α]
theorem touch_permG {rows : List (Row α)} {r : Row α} {m : Int} {t : Tok} (hk : (rows.map (·.key)).Nodup) (hr : r ∈ rows) : (touch rows r.key m t).Perm ((rows.filter fun x => decide (x.key ≠ r.key)) ++ [{ r with ctr := m, ctok := t }]) := by
  induction rows with
  | nil => cases hr
  | cons x xs ih =>
    simp only [List.map_cons, List.nodup_cons] at hk
    unfold touch at ih ⊢
    rw [List.map_cons, List.filter_cons]
    rcases List.mem_cons.mp hr with rfl | hr
    · have e : xs.map (fun x => if x.key = r.key then { x with ctr := m, ctok := t } else x) = xs.filter fun x => decide (x.key ≠ r.key) := by
        rw [List.filter_eq_self.mpr fun y hy => by simpa using fun e => hk.1 (List.mem_map.mpr ⟨y, hy, e⟩)]
        conv => rhs; rw [← List.map_id xs]
        refine List.map_congr_left fun y hy => ?_
        rw [if_neg fun e => hk.1 (List.mem_map.mpr ⟨y, hy, e⟩)]; rfl
      rw [e]
      simp only [if_true, ne_eq, not_true_eq_false, decide_false, Bool.false_eq_true, if_false]
      exact List.perm_append_comm (l₁ := [_])
    · have hne : x.key ≠ r.key := fun e => hk.1 (List.mem_map.mpr ⟨r, hr, e.symm⟩)
      rw [if_neg hne, if_pos (by simpa using hne), List.cons_append]
      exact (ih hk.2 hr).cons x
theorem put_permG {rows : List (Row α)} {r : Row α} (hk : (rows.map (·.key)).Nodup) : (putRow rows r).Perm ((rows.filter fun x => decide (x.key ≠ r.key)) ++ [r]) := by
  unfold putRow
  split
  · rename_i hy
    induction rows with
    | nil => simp at hy
    | cons x xs ih =>
      simp only [List.map_cons, List.nodup_cons] at hk
      rw [List.map_cons, List.filter_cons]
      by_cases e : x.key = r.key
      · have e2 : xs.map (fun x => if x.key = r.key then r else x) = xs.filter fun x => decide (x.key ≠ r.key) := by
          have hno : ∀ y ∈ xs, y.key ≠ r.key := fun y hy e' => hk.1 (List.mem_map.mpr ⟨y, hy, e'.trans e.symm⟩)
          rw [List.filter_eq_self.mpr fun y hy => by simpa using hno y hy]
          conv => rhs; rw [← List.map_id xs]
          refine List.map_congr_left fun y hy => ?_
          rw [if_neg (hno y hy)]; rfl
        rw [e2, if_pos e]
        simp only [e, ne_eq, not_true_eq_false, decide_false, Bool.false_eq_true, if_false]
        exact List.perm_append_comm (l₁ := [_])
      · rw [if_neg e, if_pos (by simpa using e), List.cons_append]
        refine (ih hk.2 ?_).cons x
        simpa [e] using hy
  · rename_i hn
    rw [List.filter_eq_self.mpr fun y hy => ?_]
    simp only [List.any_eq_true, decide_eq_true_eq, not_exists, not_and] at hn
    simpa using hn y hy
theorem sorted_uniqG {l1 l2 : List (Row α)} (hp : l1.Perm l2) (h1 : l1.Pairwise (fun a b => a.ctr < b.ctr)) (h2 : l2.Pairwise (fun a b => a.ctr < b.ctr)) : l1 = l2 := by
  induction l1 generalizing l2 with
  | nil => exact hp.nil_eq
  | cons a r ih =>
    cases l2 with
    | nil => exact absurd hp.symm.nil_eq (by simp)
    | cons b s =>
      have hab : a = b := by
        rcases List.mem_cons.mp (hp.mem_iff.mp (List.mem_cons_self ..)) with e | e
        · exact e
        · rcases List.mem_cons.mp (hp.symm.mem_iff.mp (List.mem_cons_self (a := b) (l := s))) with e' | e'
          · exact e'.symm
          · have q1 := (List.pairwise_cons.mp h2).1 a e
            have q2 := (List.pairwise_cons.mp h1).1 b e'
            omega
      subst hab
      rw [ih hp.cons_inv (List.pairwise_cons.mp h1).2 (List.pairwise_cons.mp h2).2]
theorem left_takeG {rows sr : List (Row α)} {k : Nat} (hk : (rows.map (·.key)).Nodup) (hp : sr.Perm rows) : (left rows (sr.drop k)).Perm (sr.take k) :=
  left_perm hk (by rw [List.take_append_drop]; exact hp)
theorem put_any (rows : List (Row α)) (r : Row α) : (putRow rows r).map (·.key) = if rows.any (fun x => decide (x.key = r.key)) then rows.map (·.key) else rows.map (·.key) ++ [r.key] := by
  unfold putRow
  split
  · rw [List.map_map]
    refine List.map_congr_left fun x _ => ?_
    simp only [Function.comp]
    split <;> rename_i h
    · rw [h]
    · rfl
  · rw [List.map_append, List.map_singleton]
theorem filter_keys {rows : List (Row α)} (hk : (rows.map (·.key)).Nodup) {p : Row α → Bool} {ks : List α} (h : ∀ k, k ∈ ks ↔ k ∈ (rows.filter p).map (·.key)) : (rows.map (·.key)).filter (fun k => decide (k ∈ ks)) = (rows.filter p).map (·.key) := by
  rw [List.filter_map]
  congr 1
  refine List.filter_congr fun r hr => ?_
  simp only [Function.comp]
  rw [Bool.eq_iff_iff, decide_eq_true_iff, h]
  constructor
  · intro hm
    obtain ⟨x, hx, e⟩ := List.mem_map.mp hm
    obtain ⟨hx1, hx2⟩ := List.mem_filter.mp hx
    rwa [← key_inj hk hx1 hr e]
  · exact fun hp => List.mem_map.mpr ⟨r, List.mem_filter.mpr ⟨hr, hp⟩, rfl⟩
end
def woK (xs : KL) (k : Key) : KL := xs.filter fun p => decide (p.1 ≠ k)
theorem hasK_iff {xs : KL} {k : Key} : hasK xs k = true ↔ k ∈ kkeys xs := by
  unfold hasK
  simp only [List.any_eq_true, decide_eq_true_eq, List.mem_map]
theorem hasK_rows {rows : List (Row Key)} {ls : KL} (h : kkeys ls = rows.map (·.key)) (k : Key) : hasK ls k = rows.any fun x => decide (x.key = k) := by
  rw [Bool.eq_iff_iff, hasK_iff, h]
  simp only [List.any_eq_true, decide_eq_true_eq, List.mem_map]
theorem woK_keys (xs : KL) (k : Key) : kkeys (woK xs k) = (kkeys xs).filter fun x => decide (x ≠ k) := by
  unfold woK; rw [List.filter_map]; rfl
theorem rows_wo (rows : List (Row Key)) (k : Key) : (rows.filter fun r => decide (r.key ≠ k)).map (·.key) = (rows.map (·.key)).filter fun x => decide (x ≠ k) := by
  rw [List.filter_map]; rfl
def RelW (rows : List (Row Key)) (ws : KL) : Prop := ∃ srt : List (Row Key), srt.Perm rows ∧ srt.Pairwise (fun a b => a.ctr < b.ctr) ∧ kkeys ws = srt.map (·.key)
section
variable {rows rows' : List (Row Key)} {ws ls : KL} {hs : List Ent} {k : Key} {r : Row Key} {n : Int} {t : Tok} {kv v : Value}
theorem relW_nil : RelW [] [] := ⟨[], .refl _, .nil, rfl⟩
theorem relW_len (h : RelW rows ws) : ws.length = rows.length := by
  obtain ⟨srt, p, -, e⟩ := h
  have := congrArg List.length e
  simp only [List.length_map] at this
  rw [this, p.length_eq]
theorem relW_mem (h : RelW rows ws) (k : Key) : k ∈ kkeys ws ↔ k ∈ rows.map (·.key) := by
  obtain ⟨srt, p, -, e⟩ := h
  rw [e]; exact (p.map _).mem_iff
theorem relW_del (h : RelW rows ws) (k : Key) : RelW (rows.filter fun r => decide (r.key ≠ k)) (woK ws k) := by
  obtain ⟨srt, p, o, e⟩ := h
  exact ⟨srt.filter fun r => decide (r.key ≠ k), p.filter _, o.filter _, by rw [woK_keys, rows_wo, e]⟩
theorem relW_last (h : RelW rows ws) (hk : r.key = k) (hlt : ∀ x ∈ rows, x.ctr < r.ctr) (hp : rows'.Perm ((rows.filter fun x => decide (x.key ≠ k)) ++ [r])) : RelW rows' (woK ws k ++ [(k, kv)]) := by
  obtain ⟨srt, p, o, e⟩ := h
  refine ⟨(srt.filter fun x => decide (x.key ≠ k)) ++ [r], ((p.filter _).append_right _).trans hp.symm, ?_, ?_⟩
  · rw [List.pairwise_append]
    refine ⟨o.filter _, List.pairwise_singleton _ _, fun a ha b hb => ?_⟩
    rw [List.mem_singleton.mp hb]
    exact hlt a (p.mem_iff.mp (List.mem_filter.mp ha).1)
  · show (woK ws k ++ [(k, kv)]).map (·.1) = _
    rw [List.map_append, List.map_append, rows_wo, ← e, ← woK_keys, List.map_singleton, List.map_singleton, hk]
theorem relW_touch (h : RelW rows ws) (hk : (rows.map (·.key)).Nodup) (hle : ∀ x ∈ rows, x.ctr ≤ n) (hr : r ∈ rows) : RelW (touch rows r.key (n + 1) t) (woK ws r.key ++ [(r.key, kv)]) :=
  relW_last (r := { r with ctr := n + 1, ctok := t }) h rfl (fun x hx => Int.lt_add_one_of_le (hle x hx)) (touch_permG hk hr)
theorem relW_put (h : RelW rows ws) (hk : (rows.map (·.key)).Nodup) (hle : ∀ x ∈ rows, x.ctr ≤ n) (hr : r.ctr = n + 1) : RelW (putRow rows r) (woK ws r.key ++ [(r.key, kv)]) :=
  relW_last h rfl (fun x hx => by rw [hr]; exact Int.lt_add_one_of_le (hle x hx)) (put_permG hk)
theorem relW_left {sr : List (Row Key)} (h : RelW rows ws) {k : Nat} (hk : (rows.map (·.key)).Nodup) (hp : sr.Perm rows) (ho : sr.Pairwise fun a b => b.ctr < a.ctr) : RelW (left rows (sr.drop k)) (ws.drop (ws.length - k)) := by
  have hlen := relW_len h
  obtain ⟨srt, p, o, e⟩ := h
  have e' : srt = sr.reverse := sorted_uniqG (p.trans (hp.symm.trans (List.reverse_perm _).symm)) o (List.pairwise_reverse.mpr ho)
  subst e'
  refine ⟨(sr.take k).reverse, (List.reverse_perm _).trans (left_takeG hk hp).symm, List.pairwise_reverse.mpr (ho.sublist (List.take_sublist _ _)), ?_⟩
  show (ws.drop (ws.length - k)).map (·.1) = _
  rw [List.map_drop]
  have e2 : ws.map (·.1) = sr.reverse.map (·.key) := e
  rw [e2, hlen, ← hp.length_eq, List.reverse_take, List.map_drop]
/-- the list by entry -/
def laidK (ls : KL) (k : Key) (kv : Value) : KL := if hasK ls k then ls else ls ++ [(k, kv)]
theorem laid_put (h : kkeys ls = rows.map (·.key)) : kkeys (laidK ls r.key kv) = (putRow rows r).map (·.key) := by
  rw [put_any, ← hasK_rows h]
  unfold laidK
  split
  · exact h
  · show (ls ++ [(r.key, kv)]).map (·.1) = _
    rw [List.map_append, ← h, List.map_singleton]
theorem laid_del (h : kkeys ls = rows.map (·.key)) (k : Key) : kkeys (woK ls k) = (rows.filter fun r => decide (r.key ≠ k)).map (·.key) := by rw [woK_keys, rows_wo, h]
theorem laid_left {gone : List (Row Key)} (h : kkeys ls = rows.map (·.key)) (hk : (rows.map (·.key)).Nodup) (hw : RelW (left rows gone) ws) : kkeys (ls.filter fun p => hasK ws p.1) = (left rows gone).map (·.key) := by
  unfold left at hw ⊢
  have e := filter_keys hk (ks := kkeys ws) (relW_mem hw)
  rw [← e, ← h, List.filter_map]
  congr 1
  refine List.filter_congr fun p _ => ?_
  rw [Bool.eq_iff_iff, hasK_iff]
  simp
/-- what was laid -/
def RelH (rows : List (Row Key)) (hs : List Ent) : Prop := ∀ r ∈ rows, atV hs r.key = some r.val
theorem atV_put (hs : List Ent) (k : Key) (kv v : Value) (k' : Key) : atV (putV hs k kv v) k' = if k' = k then some v else atV hs k' := by
  unfold putV atV
  split
  · rename_i hy
    induction hs with
    | nil => simp at hy
    | cons x xs ih =>
      rw [List.map_cons, List.find?_cons, List.find?_cons]
      by_cases e : x.1 = k
      · rw [if_pos e]
        by_cases e2 : k' = k
        · subst e2; simp [e]
        · have e3 : ¬ x.1 = k' := fun q => e2 (q.symm.trans e)
          simp only [e3, decide_false]
          rw [if_neg e2]
          congr 1
          clear ih hy
          induction xs with
          | nil => rfl
          | cons y ys ih2 =>
            rw [List.map_cons, List.find?_cons, List.find?_cons]
            by_cases e4 : y.1 = k
            · have e5 : ¬ y.1 = k' := fun q => e2 (q.symm.trans e4)
              rw [if_pos e4]; simp only [e5, decide_false]; exact ih2
            · rw [if_neg e4]
              by_cases e6 : y.1 = k'
              · simp [e6]
              · simp only [e6, decide_false]; exact ih2
      · rw [if_neg e]
        by_cases e2 : x.1 = k'
        · have e3 : ¬ k' = k := fun q => e (e2.trans q)
          simp [e2, e3]
        · simp only [e2, decide_false]
          refine ih ?_
          simpa [e] using hy
  · rename_i hn
    rw [List.find?_append]
    by_cases e : k' = k
    · subst e
      have : hs.find? (fun x => decide (x.1 = k')) = none := by
        rw [List.find?_eq_none]
        intro x hx q
        exact hn (List.any_eq_true.mpr ⟨x, hx, q⟩)
      rw [this]; simp
    · have e3 : ¬ k = k' := fun q => e q.symm
      rw [if_neg e]
      simp [e3]
theorem relH_put (h : RelH rows hs) : RelH (putRow rows r) (putV hs r.key kv r.val) := fun x hx => by
  rw [atV_put]
  rcases put_mem hx with rfl | ⟨hx, hne⟩
  · simp
  · rw [if_neg hne]; exact h x hx
theorem relH_touch (h : RelH rows hs) : RelH (touch rows k n t) hs := fun x hx => by
  obtain ⟨y, hy, rfl⟩ := List.mem_map.mp hx
  split <;> exact h y hy
theorem relH_sub (h : RelH rows hs) (hsub : ∀ r ∈ rows', r ∈ rows) : RelH rows' hs := fun x hx => h x (hsub x hx)
theorem putV_len (hs : List Ent) (k : Key) (kv v : Value) : (putV hs k kv v).length ≤ hs.length + 1 := by
  unfold putV; split <;> simp
theorem keysN_put {news : List (Addr × Obj)} (h : KeysN news hs) (hk : KeyN news k kv) : KeysN news (putV hs k kv v) := by
  unfold putV
  split
  · intro x hx
    obtain ⟨y, hy, rfl⟩ := List.mem_map.mp hx
    split <;> exact h y hy
  · intro x hx
    rcases List.mem_append.mp hx with hx | hx
    · exact h x hx
    · rw [List.mem_singleton.mp hx]; exact hk
theorem row_of (h : kkeys ls = rows.map (·.key)) (hk : hasK ls k = true) : ∃ r ∈ rows, r.key = k := by
  rw [hasK_rows h] at hk
  obtain ⟨r, hr, e⟩ := List.any_eq_true.mp hk
  exact ⟨r, hr, by simpa using e⟩
theorem row_no (h : kkeys ls = rows.map (·.key)) (hk : hasK ls k = false) : ∀ r ∈ rows, r.key ≠ k := fun r hr e => by
  rw [hasK_rows h] at hk
  have := List.any_eq_true (p := fun x : Row Key => decide (x.key = k)).mpr ⟨r, hr, decide_eq_true e⟩
  rw [hk] at this; cases this
end
end Mine2
end
section
open PySem PySem.W PyProof.Rows
namespace Mine2
open MineS MineP MineV
set_option maxRecDepth 100000
set_option maxHeartbeats 8000000
local macro_rules | `(tactic| k_all) => `(tactic| first | assumption)
local macro_rules | `(tactic| k_ne) => `(tactic| (refine neN ?_; (try dsimp only); first | assumption | (apply Ne.symm; assumption)))
local macro_rules | `(tactic| k_room) => `(tactic| ((try simp only [depth_under_make, depth_under_kw, depth_in1, depth_deeper, depth_caller]); show _ < 1000; omega))
local macro_rules | `(tactic| walk_at "delItem ref") => `(tactic| (k_dflt (refine' delItem_own ?k1 ?k2 ?k3 ?k4 ?k5 ?k6 ?_; (case k1 => k_asm); (case k2 => k_asm); (case k3 => k_inst); (case k4 => k_is); (case k5 => k_is); (case k6 => k_is); k_whole)))
variable {w : World} {A₀ : Around} {d u : Nat} {gs : Option (List Code)} {nm : List (Str × NameKind)} {mo : List (Str × PySem.Const)} {gl : Addr} {cl : List (Str × Addr)} {ql : Str} {fn : Option Addr} {co : Value} {bi : Addr} {outer : List Env}
  {base h₀ : Heap} {L : Addr} {s : Shared} {m mg mb : Str → Option Value} {mean : ExcName → Option Value} {loose : List Str} {p : Program} {news : List (Addr × Obj)} {Q : Value → Shared → Prop} {E : Value → Shared → Prop} {keep : List Addr}
def lawK : List Key := [.inl (Str.ofString "a"), .inr (.inl 0), .inr (.inl (-1)), .inl (Str.ofString "b"), .inr (.inr [0, 1]), .inr (.inl 12), .inl (Str.ofString ""), .inr (.inr [0]), .inr (.inl 7)]
/-- _law_keys() -/
theorem law_keys : d ≤ 500 → Below A₀ base outer h₀ → (hd.heap_39 w.params).In h₀ → Top p loose mean mg mb h₀ → Fr h₀ L s.heap m → News h₀ L s.heap news →
    (∀ h' tk' (D : Addr) (ta tb : Addr × Obj) (xs : KL) e, Fr h₀ L h' m → News h₀ L h' ((D, W.listOf (kvals xs).toArray e) :: ta :: tb :: news) → (∀ q ∈ news, q.1 < D ∧ q.1 < ta.1 ∧ q.1 < tb.1) → ta.2.cls = .type "tuple" → tb.2.cls = .type "tuple" → kkeys xs = lawK → KLN [ta, tb] xs → Q (.ref D) { s with heap := h', toks := tk' }) →
    wpAny (model PySem.Challenge.rw_eu0033_02.row.prog w) (AA d u gs nm mo gl cl ql fn co bi L outer) (call (.ref 200) []) Q E s := by
  k_fill
  intro hdp B X T F N K
  k_steps
  with_reducible rename Fr h₀ L _ _ => F9
  with_reducible rename News h₀ L _ _ => N9
  with_reducible rename _ ∧ _ => l9
  refine K _ _ _ (_, _) (_, _) [(.inl (Str.ofString "a"), _), (.inr (.inl 0), _), (.inr (.inl (-1)), _), (.inl (Str.ofString "b"), _), (.inr (.inr [0, 1]), _), (.inr (.inl 12), _), (.inl (Str.ofString ""), _), (.inr (.inr [0]), _), (.inr (.inl 7), _)] _ F9 N9 ?_ rfl rfl rfl ?_
  · intro q hq
    refine ⟨allLt_mem l9.2.2 _ hq, ?_, ?_⟩
    · with_reducible rename _ ∧ AllLt _ _ => l8
      first | exact allLt_mem l8.2 _ hq | (with_reducible rename _ ∧ AllLt _ _ => l7; exact allLt_mem l7.2 _ hq)
    · with_reducible rename ∀ p ∈ news, _ => l7
      exact l7 q hq
  · simp only [KLN, List.forall_mem_cons]
    refine ⟨⟨_, rfl⟩, ⟨_, rfl⟩, ⟨_, rfl⟩, ⟨_, rfl⟩, ⟨_, _, _, _, rfl, .tail _ (.head _), rfl, rfl, .cons _ _ (.cons _ _ .nil)⟩, ⟨_, rfl⟩, ⟨_, rfl⟩, ⟨_, _, _, _, rfl, .head _, rfl, rfl, .cons _ _ .nil⟩, ⟨_, rfl⟩, fun _ h => nomatch h⟩
end Mine2
end
section
open PySem PySem.W PyProof.Rows PyProof.Rows.LCg PyProof.Rows.LCt PyProof.Rows.LCp
namespace Mine2
open MineV
set_option maxRecDepth 100000
set_option maxHeartbeats 8000000
local macro_rules | `(tactic| k_all) => `(tactic| first | assumption)
local macro_rules | `(tactic| k_ne) => `(tactic| (refine neN ?_; (try dsimp only); first | assumption | (apply Ne.symm; assumption)))
local macro_rules | `(tactic| k_room) => `(tactic| ((try simp only [depth_under_make, depth_under_kw, depth_in1, depth_deeper, depth_caller]); show _ < 1000; omega))
local macro_rules | `(tactic| walk_at "delItem ref") => `(tactic| (k_dflt (refine' delItem_own ?k1 ?k2 ?k3 ?k4 ?k5 ?k6 ?_; (case k1 => k_asm); (case k2 => k_asm); (case k3 => k_inst); (case k4 => k_is); (case k5 => k_is); (case k6 => k_is); k_whole)))
variable {w : World} {A₀ : Around} {d u : Nat} {gs : Option (List Code)} {nm : List (Str × NameKind)} {mo : List (Str × PySem.Const)} {gl : Addr} {cl : List (Str × Addr)} {ql : Str} {fn : Option Addr} {co : Value} {bi : Addr} {outer : List Env}
  {base h₀ : Heap} {L : Addr} {s : Shared} {m mg mb : Str → Option Value} {mean : ExcName → Option Value} {loose : List Str} {p : Program} {news : List (Addr × Obj)} {Q : Value → Shared → Prop} {E : Value → Shared → Prop} {keep : List Addr}
section
variable {prog : Program} {A : Around} {env : Env} {xs : KL} {kp : Key × Value → Bool}
theorem item_kvals {xs : KL} {i : Nat} {v : Value} (h : (kvals xs).toArray[i]? = some v) : ∃ p, xs[i]? = some p ∧ v = p.2 := by
  have e : (List.map (fun p : Key × Value => p.2) xs)[i]? = some v := by simpa using h
  rw [List.getElem?_map] at e
  rcases hu : xs[i]? with _ | u
  · rw [hu] at e; cases e
  · rw [hu] at e; exact ⟨u, rfl, (Option.some.inj e).symm⟩
/-- [k for k in xs if TEST]: the test reads alone -/
theorem kf_rest {ct : PySem.Expr} {x : Str} {px : Pos} {scope : Scope} {cl : List (Str × Addr)} {S : List (Addr × Obj) → Prop} {Fin : List Value → List (Addr × Obj) → Prop} (hS : S news)
    (ev : ∀ u ∈ xs, ∀ I oI C oC D ys m₂ h tk (E' : Value → Shared → Prop), NsObj oC m₂ → m₂ x = some u.2 → Fr h₀ L h m → News h₀ L h ((I, oI) :: (C, oC) :: (D, lst ys) :: news) →
      wpAny (model prog w) A (isTrue ct (compEnvC scope cl C env) (eval ct (compEnvC scope cl C env))) (fun ok s' => ok = kp u ∧ ∃ tk', s' = { s with heap := h, toks := tk' }) E' { s with heap := h, toks := tk })
    (hk : ∀ C, (compEnvC scope cl C env).scope.kind = .function) (hl : ∀ C, (compEnvC scope cl C env).kindOf x = some .local) (hd : (x == ("__debug__" : Str)) = false)
    (fin : Fin (kvals (xs.filter kp)) news) : CompRestT prog w A h₀ L m env ct (.Name x px) x scope cl s S (fun i v => (kvals xs).toArray[i]? = some v) Fin (kvals xs).toArray.size 0 [] news := by
  refine compRestT_inv (NN := (kvals xs).toArray.size) (J := fun i ys n => n = news ∧ ys = kvals ((xs.take i).filter kp)) ?_ ?_ _ 0 [] news (by simp) ⟨rfl, by simp [kvals]⟩
  · rintro i ys n hi ⟨rfl, rfl⟩ v I oI C oC D m₂ h tk E' hv hC hx F N off q
    obtain ⟨u, hu, rfl⟩ := item_kvals hv
    have hum : u ∈ xs := List.mem_of_getElem? hu
    have htake : xs.take (i + 1) = xs.take i ++ [u] := by rw [List.take_add_one, hu]; rfl
    refine wpAny_mono (ev u hum I oI C oC D _ m₂ h tk E' hC hx F N) (fun ok s' hk' => ?_) fun _ _ e => e
    obtain ⟨rfl, tk', rfl⟩ := hk'
    split
    · rename_i ht
      refine LCgL.ld_own (s := { s with heap := h, toks := tk' }) N (List.mem_cons_of_mem _ (List.mem_cons_self ..)) hC hx ?_ (hk C) (hl C) hd
      exact ⟨h, tk', n, rfl, F, N, off, hS, rfl, by rw [htake, List.filter_append]; simp [ht, kvals]⟩
    · rename_i ht
      exact ⟨h, tk', n, rfl, F, N, off, hS, rfl, by rw [htake, List.filter_append]; simp [ht, kvals]⟩
  · rintro ys n ⟨rfl, rfl⟩
    rw [List.size_toArray, List.length_map, List.take_length]
    exact fin
/-- [k for k in xs if k != key] -/
theorem kf_ne {k : Key} {kv : Value} {x : Str} {px px2 p2 : Pos} {rhs : PySem.Expr} {scope : Scope} {cl : List (Str × Addr)} {S : List (Addr × Obj) → Prop} {Fin : List Value → List (Addr × Obj) → Prop} (hu : A.units < cLine) (hS : S news) (hxs : KLN news xs) (hkv : KeyN news k kv)
    (hk : ∀ C, (compEnvC scope cl C env).scope.kind = .function) (hl : ∀ C, (compEnvC scope cl C env).kindOf x = some .local) (hd : (x == ("__debug__" : Str)) = false) (hm : behindInMarks .NotEq rhs = false)
    (hr : ∀ (C : Addr) (s' : Shared) (E' : Value → Shared → Prop) (Q' : Value → Shared → Prop), News h₀ L s'.heap news → Q' kv s' → wpAny (model prog w) A (eval rhs (compEnvC scope cl C env)) Q' E' s')
    (fin : Fin (kvals (xs.filter fun p => decide (p.1 ≠ k))) news) : CompRestT prog w A h₀ L m env (.Compare (.Name x px) [.NotEq] [rhs] p2) (.Name x px2) x scope cl s S (fun i v => (kvals xs).toArray[i]? = some v) Fin (kvals xs).toArray.size 0 [] news := by
  refine kf_rest (kp := fun p => decide (p.1 ≠ k)) hS (fun u hum I oI C oC D ys m₂ h tk E' hC hx F N => ?_) hk hl hd fin
  have N' : News h₀ L h news := fun q hq => N q (List.mem_cons_of_mem _ (List.mem_cons_of_mem _ (List.mem_cons_of_mem _ hq)))
  refine wpAny_isTrue_Compare1 ?_ hm
  refine LCgL.ld_own (s := { s with heap := h, toks := tk }) N (List.mem_cons_of_mem _ (List.mem_cons_self ..)) hC hx ?_ (hk C) (hl C) hd
  refine hr C _ _ _ N' ?_
  refine key_ne hu ((hxs u hum).inH N') (hkv.inH N') ?_
  exact wpAny_truthy_bool ⟨rfl, tk, rfl⟩
/-- [k for k in xs if k in ys] -/
theorem kf_in {ys : KL} {l : Addr} {ep : Nat} {x : Str} {px px2 p2 : Pos} {rhs : PySem.Expr} {scope : Scope} {cl : List (Str × Addr)} {S : List (Addr × Obj) → Prop} {Fin : List Value → List (Addr × Obj) → Prop} (hu : A.units + 1 < cLine) (hS : S news) (hxs : KLN news xs) (hys : KLN news ys) (hly : (l, W.listOf (kvals ys).toArray ep) ∈ news)
    (hk : ∀ C, (compEnvC scope cl C env).scope.kind = .function) (hl : ∀ C, (compEnvC scope cl C env).kindOf x = some .local) (hd : (x == ("__debug__" : Str)) = false) (hm : behindInMarks .In rhs = false)
    (hr : ∀ (C : Addr) (s' : Shared) (E' : Value → Shared → Prop) (Q' : Value → Shared → Prop), News h₀ L s'.heap news → Q' (.ref l) s' → wpAny (model prog w) A (eval rhs (compEnvC scope cl C env)) Q' E' s')
    (fin : Fin (kvals (xs.filter fun p => hasK ys p.1)) news) : CompRestT prog w A h₀ L m env (.Compare (.Name x px) [.In] [rhs] p2) (.Name x px2) x scope cl s S (fun i v => (kvals xs).toArray[i]? = some v) Fin (kvals xs).toArray.size 0 [] news := by
  refine kf_rest (kp := fun p => hasK ys p.1) hS (fun u hum I oI C oC D ys' m₂ h tk E' hC hx F N => ?_) hk hl hd fin
  have N' : News h₀ L h news := fun q hq => N q (List.mem_cons_of_mem _ (List.mem_cons_of_mem _ (List.mem_cons_of_mem _ hq)))
  refine wpAny_isTrue_Compare1 ?_ hm
  refine LCgL.ld_own (s := { s with heap := h, toks := tk }) N (List.mem_cons_of_mem _ (List.mem_cons_self ..)) hC hx ?_ (hk C) (hl C) hd
  refine hr C _ _ _ N' ?_
  refine kl_in hu N' hly hys (hxs u hum) ?_
  exact wpAny_truthy_bool ⟨rfl, tk, rfl⟩
theorem off1_memK {D : Addr} : ∀ {l : List (Addr × Obj)}, Off1 D l → ∀ p ∈ l, p.1 ≠ D
  | [], _, _, h => nomatch h
  | _ :: _, x, p, h => by
    rcases List.mem_cons.mp h with rfl | h
    · exact x.1
    · exact off1_memK x.2 p h
theorem add_newK {l b : Addr} {vs ws : List Value} {e1 e2 : Nat} {Q : Value → Shared → Prop} (F : Fr h₀ L s.heap m) (N : News h₀ L s.heap news) (hl : (l, W.listOf vs.toArray e1) ∈ news) (hb : (b, W.listOf ws.toArray e2) ∈ news) (hsz : vs.length + ws.length ≤ 1000)
    (h : ∀ D h', Fr h₀ L h' m → News h₀ L h' ((D, W.listOf (vs ++ ws).toArray 0) :: news) → (∀ p ∈ news, p.1 < D) → Q (.ref D) { s with heap := h' }) : wpAny (model prog w) A (binaryOp .Add (.ref l) (.ref b)) Q E s :=
  add_lists F N ⟨_, (N _ hl).1, rfl, _, rfl⟩ ⟨_, (N _ hb).1, rfl, _, rfl⟩ (fun h' F' N' => h _ h' F' N' fun p hp => Heap.lt_size (N p hp).1) (by rw [sizeLine_eq]; omega)
theorem len_ledK {l : Addr} {vs : List Value} {ep n : Nat} {Q : Value → Shared → Prop} (N : News h₀ L s.heap news) (hl : (l, W.listOf vs.toArray ep) ∈ news) (hn : vs.length = n) (hsz : n ≤ 1000)
    (h : ∀ t tk, Q (.int (n : Int) t) { s with toks := tk }) : wpAny (model prog w) A (call (.builtin "len") [.ref l]) Q E s :=
  len_list ⟨_, (N _ hl).1, rfl, _, rfl⟩ (by rw [List.size_toArray, hn]; omega) (by rw [List.size_toArray, hn]; exact h _ _)
end
end Mine2
end
section
open PySem PySem.W PyProof.Rows
namespace Mine2
open MineS MineP MineV
/-! what law 2's loop keeps -/
structure FX2 where
  hl : Addr
  HD : Addr
  DU : Addr
  kw : Addr
  kl : Addr
  kk : Addr
  c : Addr
  cd : Addr
  dd : Addr
  mx : Addr
  md : Addr
  f : Addr
  cap : Int
  dbl : Int
  thr : Value
  al : Value
abbrev FX2.mut (X : FX2) : List Addr := [X.kw, X.kl, X.kk, X.HD, X.DU]
abbrev FX2.keep (X : FX2) (KF : List Addr) : List Addr := X.hl :: (X.mut ++ KF)
def Stay (KF : List Addr) (news news' : List (Addr × Obj)) : Prop := (∀ q ∈ news, q.1 ∈ KF → q ∈ news') ∧ ∀ q ∈ news, q.2.cls = .type "tuple" → (∃ vs n, q.2.data = .seq vs n) → q ∈ news'
def PairsL (news : List (Addr × Obj)) (KF : List Addr) : List Value → List Value → Prop
  | [], [] => True
  | a :: r, b :: q => (∃ (x y : Addr) (ls ls' : KL) (e e' : Nat), a = .ref x ∧ b = .ref y ∧ x ≠ y ∧ x ∈ KF ∧ y ∈ KF ∧ (x, W.listOf (kvals ls).toArray e) ∈ news ∧ (y, W.listOf (kvals ls').toArray e') ∈ news ∧ KLN news ls ∧ KLN news ls' ∧ kkeys ls = kkeys ls') ∧ PairsL news KF r q
  | _, _ => False
/-- what stays -/
structure LF2 (X : FX2) (fix : List (Addr × Obj)) (KF : List Addr) (news : List (Addr × Obj)) (LA WA : Addr) (ls ws : KL) (hs : List Ent) (hv dv : List Value) : Prop where
  hL : ∃ ep, (LA, W.listOf (kvals ls).toArray ep) ∈ news
  hW : ∃ ep, (WA, W.listOf (kvals ws).toArray ep) ∈ news
  hfix : ∀ q ∈ fix, q ∈ news
  hHs : KeysN news hs
  hls : KLN news ls
  hws : KLN news ws
  hpair : (X.al = .none ∧ hv = []) ∨ (X.al = .ref X.f ∧ PairsL news KF hv dv)
  kL : LA ∈ KF
  kW : WA ∈ KF
  kfix : ∀ q ∈ fix, q.1 ∈ KF
  kin : ∀ a ∈ KF, ∃ o, (a, o) ∈ news
/-- what the law's own statements turn -/
structure LM2 (w : World) (X : FX2) (news : List (Addr × Obj)) (LA WA : Addr) (hs : List Ent) (dv : List Value) (kv : Option Value) : Prop where
  hLc : ∃ o, (X.kl, o) ∈ news ∧ o.data = .cell (some (.ref LA))
  hWc : ∃ o, (X.kw, o) ∈ news ∧ o.data = .cell (some (.ref WA))
  hKc : ∃ o, (X.kk, o) ∈ news ∧ o.data = .cell kv
  hH : ∃ o, (X.HD, o) ∈ news ∧ IsV w o hs
  hD : ∃ ep, (X.DU, W.listOf dv.toArray ep) ∈ news
structure OFF2 (X : FX2) (KF : List Addr) : Prop where
  off : ∀ a ∈ X.mut ++ KF, a ≠ X.c ∧ a ≠ X.cd ∧ a ≠ X.dd ∧ a ≠ X.mx ∧ a ≠ X.md ∧ a ≠ X.hl
  frz : ∀ a ∈ KF, a ∉ X.mut
section
variable {w : World} {X : FX2} {fix news news' : List (Addr × Obj)} {KF KF' : List Addr} {LA WA : Addr} {ls ws : KL} {hs : List Ent} {hv dv : List Value} {kv : Option Value} {h₀ h : Heap} {L : Addr}
theorem KeyN.mono2 {k : Key} {v : Value} (x : KeyN news k v) (h : ∀ q ∈ news, q.2.cls = .type "tuple" → (∃ vs n, q.2.data = .seq vs n) → q ∈ news') : KeyN news' k v := by
  rcases k with y | n | ns
  · exact x
  · exact x
  · obtain ⟨a, o, items, n, rfl, hm, hc, hd, hi⟩ := x
    exact ⟨a, o, items, n, rfl, h _ hm hc ⟨_, _, hd⟩, hc, hd, hi⟩
theorem KLN.mono2 {xs : KL} (x : KLN news xs) (h : ∀ q ∈ news, q.2.cls = .type "tuple" → (∃ vs n, q.2.data = .seq vs n) → q ∈ news') : KLN news' xs := fun p hp => KeyN.mono2 (x p hp) h
theorem KeysN.mono2 {xs : List Ent} (x : KeysN news xs) (h : ∀ q ∈ news, q.2.cls = .type "tuple" → (∃ vs n, q.2.data = .seq vs n) → q ∈ news') : KeysN news' xs := fun p hp => KeyN.mono2 (x p hp) h
theorem Stay.sub (h : ∀ q ∈ news, q ∈ news') : Stay KF news news' := ⟨fun q hq _ => h q hq, fun q hq _ _ => h q hq⟩
theorem Stay.trans {news2 : List (Addr × Obj)} (a : Stay KF news news') (b : Stay KF news' news2) : Stay KF news news2 := ⟨fun q hq hk => b.1 q (a.1 q hq hk) hk, fun q hq hc hs => b.2 q (a.2 q hq hc hs) hc hs⟩
theorem PairsL.stay (S : Stay KF news news') : ∀ {hv dv : List Value}, PairsL news KF hv dv → PairsL news' KF hv dv
  | [], [], _ => trivial
  | [], _ :: _, h => (show False from h).elim
  | _ :: _, [], h => (show False from h).elim
  | _ :: _, _ :: _, ⟨⟨x, y, ls, ls', e, e', ea, eb, hne, kx, ky, hx, hy, nx, ny, hk⟩, r⟩ => ⟨⟨x, y, ls, ls', e, e', ea, eb, hne, kx, ky, S.1 _ hx kx, S.1 _ hy ky, KLN.mono2 nx S.2, KLN.mono2 ny S.2, hk⟩, r.stay S⟩
theorem PairsL.grow (hk : ∀ a ∈ KF, a ∈ KF') : ∀ {hv dv : List Value}, PairsL news KF hv dv → PairsL news KF' hv dv
  | [], [], _ => trivial
  | [], _ :: _, h => (show False from h).elim
  | _ :: _, [], h => (show False from h).elim
  | _ :: _, _ :: _, ⟨⟨x, y, ls, ls', e, e', ea, eb, hne, kx, ky, h⟩, r⟩ => ⟨⟨x, y, ls, ls', e, e', ea, eb, hne, hk _ kx, hk _ ky, h⟩, r.grow hk⟩
theorem PairsL.snoc {x y : Addr} {ls ls' : KL} {e e' : Nat} (hne : x ≠ y) (kx : x ∈ KF) (ky : y ∈ KF) (hx : (x, W.listOf (kvals ls).toArray e) ∈ news) (hy : (y, W.listOf (kvals ls').toArray e') ∈ news) (nx : KLN news ls) (ny : KLN news ls') (hk : kkeys ls = kkeys ls') :
    ∀ {hv dv : List Value}, PairsL news KF hv dv → PairsL news KF (hv ++ [.ref x]) (dv ++ [.ref y])
  | [], [], _ => ⟨⟨x, y, ls, ls', e, e', rfl, rfl, hne, kx, ky, hx, hy, nx, ny, hk⟩, trivial⟩
  | [], _ :: _, h => (show False from h).elim
  | _ :: _, [], h => (show False from h).elim
  | _ :: _, _ :: _, ⟨h, r⟩ => ⟨h, r.snoc hne kx ky hx hy nx ny hk⟩
theorem LF2.stay (B : LF2 X fix KF news LA WA ls ws hs hv dv) (S : Stay KF news news') : LF2 X fix KF news' LA WA ls ws hs hv dv where
  hL := let ⟨ep, h⟩ := B.hL; ⟨ep, S.1 _ h B.kL⟩
  hW := let ⟨ep, h⟩ := B.hW; ⟨ep, S.1 _ h B.kW⟩
  hfix := fun q hq => S.1 q (B.hfix q hq) (B.kfix q hq)
  hHs := KeysN.mono2 B.hHs S.2
  hls := KLN.mono2 B.hls S.2
  hws := KLN.mono2 B.hws S.2
  hpair := B.hpair.imp id fun ⟨a, b⟩ => ⟨a, b.stay S⟩
  kL := B.kL
  kW := B.kW
  kfix := B.kfix
  kin := fun a ha => let ⟨o, h⟩ := B.kin a ha; ⟨o, S.1 _ h ha⟩
/-- a cache's state, with other entries turned -/
theorem CV.turnV {keep off : List Addr} {c cd dd mx md : Addr} {n cap : Int} {thr al : Value} {b : Bool} {D : Key → Value} {rows : List (Row Key)} (N : News h₀ L h news) (C : CV w keep news c cd dd mx md n cap thr al b D rows)
    (hoff : ∀ a ∈ off, a ∈ keep ∧ a ≠ c ∧ a ≠ cd ∧ a ≠ dd ∧ a ≠ mx ∧ a ≠ md ∧ ∃ o, (a, o) ∈ news ∧ ∀ vs n, o.cls = .type "tuple" → o.data ≠ .seq vs n) (F : ∀ q ∈ news, q.1 ∉ off → q ∈ news') : CV w keep news' c cd dd mx md n cap thr al b D rows := by
  have tup : ∀ q ∈ news, q.2.cls = .type "tuple" → (∃ vs n, q.2.data = .seq vs n) → q ∈ news' := fun q hq hc ⟨vs, n, hd⟩ => F q hq fun hm => by
    obtain ⟨_, _, _, _, _, _, o, ho, hno⟩ := hoff _ hm
    have := news_same N ho hq rfl
    have e4 : q.2 = o := congrArg Prod.snd this
    rw [e4] at hc hd
    exact hno vs n hc hd
  have C0 := C
  obtain ⟨⟨t, tc, h1⟩, h2, ⟨od, h3, hdi⟩, h4, ⟨hs', hk, h5⟩, hrows, hks, -, -, -, -, -, -, -, -, hof⟩ := C
  exact { C0 with
    hc := ⟨t, tc, F _ h1 fun hm => (hoff _ hm).2.1 rfl⟩
    hcd := F _ h2 fun hm => (hoff _ hm).2.2.1 rfl
    hdd := ⟨od, F _ h3 fun hm => (hoff _ hm).2.2.2.1 rfl, hdi⟩
    hmx := F _ h4 fun hm => (hoff _ hm).2.2.2.2.1 rfl
    hmd := ⟨_, _, F _ h5 fun hm => (hoff _ hm).2.2.2.2.2.1 rfl⟩
    hrows := fun r hr => ⟨tup _ (hrows r hr).1 rfl ⟨_, _, rfl⟩, F _ (hrows r hr).2 fun hm => hof r hr (hoff _ hm).1⟩
    hks := fun r hr => ⟨KeyN.mono2 (hks r hr).1 tup, KeyN.mono2 (hks r hr).2 tup⟩ }
theorem CV.rekeepV {keep keep' : List Addr} {c cd dd mx md : Addr} {n cap : Int} {thr al : Value} {b : Bool} {D : Key → Value} {rows : List (Row Key)} (C : CV w keep news c cd dd mx md n cap thr al b D rows) (hk : ∀ r ∈ rows, r.lst ∉ keep') : CV w keep' news c cd dd mx md n cap thr al b D rows := { C with hoff := hk }
end
/-- what is told, what is wanted -/
def Told (a b : Value) : Prop := (a = .none ∧ b = .none) ∨ (∃ n t t', a = .int n t ∧ b = .int n t') ∨ ∃ x t t', a = .str x t ∧ b = .str x t'
theorem told_ne {prog : Program} {w : World} {A : Around} {E : Value → Shared → Prop} {s : Shared} {a b : Value} {Q : Value → Shared → Prop} (h : Told a b) (hq : Q (.bool false) s) : wpAny (model prog w) A (compareOp .NotEq a b) Q E s := by
  rcases h with ⟨rfl, rfl⟩ | ⟨n, t, t', rfl, rfl⟩ | ⟨x, t, t', rfl, rfl⟩
  · exact SeqAt.RcNeAt.none_none prog w E Q hq
  · exact SeqAt.RcNeAt.int_int n t n t' prog w E Q (by simpa using hq)
  · exact SeqAt.RcNeAt.str_str x t x t' prog w E Q (by simpa using hq)
def VOk (v : Value) : Prop := v = .none ∨ ∃ n t, v = .int n t
theorem VOk.told {v : Value} (h : VOk v) : Told v v := by
  rcases h with rfl | ⟨n, t, rfl⟩
  · exact .inl ⟨rfl, rfl⟩
  · exact .inr (.inl ⟨n, t, t, rfl, rfl⟩)
/-! the loop -/
def LM (X : FX2) (tr td : Tok) (o1 o2 o3 o4 o5 o6 : Option Value) (mR : Str → Option Value) : Str → Option Value := fun y =>
  if y = Str.ofString "i" then o1 else if y = Str.ofString "x" then o2 else if y = Str.ofString "op" then o3 else if y = Str.ofString "y" then o4 else if y = Str.ofString "told" then o5 else if y = Str.ofString "want" then o6
  else if y = Str.ofString "due" then some (.ref X.DU) else if y = Str.ofString "double" then some (.int X.dbl td) else if y = Str.ofString "room" then some (.int X.cap tr) else if y = Str.ofString "loud" then some X.al else mR y
theorem lm_of {X : FX2} {tr td : Tok} {mR m : Str → Option Value} (e0 : m (Str.ofString "due") = some (.ref X.DU)) (e1 : m (Str.ofString "double") = some (.int X.dbl td)) (e2 : m (Str.ofString "room") = some (.int X.cap tr)) (e3 : m (Str.ofString "loud") = some X.al)
    (eR : ∀ y, y ≠ Str.ofString "i" → y ≠ Str.ofString "x" → y ≠ Str.ofString "op" → y ≠ Str.ofString "y" → y ≠ Str.ofString "told" → y ≠ Str.ofString "want" → y ≠ Str.ofString "due" → y ≠ Str.ofString "double" → y ≠ Str.ofString "room" → y ≠ Str.ofString "loud" → m y = mR y) :
    m = LM X tr td (m (Str.ofString "i")) (m (Str.ofString "x")) (m (Str.ofString "op")) (m (Str.ofString "y")) (m (Str.ofString "told")) (m (Str.ofString "want")) mR := by
  funext y
  unfold LM
  by_cases h0 : y = Str.ofString "i"
  · rw [if_pos h0, h0]
  rw [if_neg h0]
  by_cases h1 : y = Str.ofString "x"
  · rw [if_pos h1, h1]
  rw [if_neg h1]
  by_cases h2 : y = Str.ofString "op"
  · rw [if_pos h2, h2]
  rw [if_neg h2]
  by_cases h3 : y = Str.ofString "y"
  · rw [if_pos h3, h3]
  rw [if_neg h3]
  by_cases h4 : y = Str.ofString "told"
  · rw [if_pos h4, h4]
  rw [if_neg h4]
  by_cases h5 : y = Str.ofString "want"
  · rw [if_pos h5, h5]
  rw [if_neg h5]
  by_cases h6 : y = Str.ofString "due"
  · rw [if_pos h6, h6, e0]
  rw [if_neg h6]
  by_cases h7 : y = Str.ofString "double"
  · rw [if_pos h7, h7, e1]
  rw [if_neg h7]
  by_cases h8 : y = Str.ofString "room"
  · rw [if_pos h8, h8, e2]
  rw [if_neg h8]
  by_cases h9 : y = Str.ofString "loud"
  · rw [if_pos h9, h9, e3]
  rw [if_neg h9]
  exact eR y h0 h1 h2 h3 h4 h5 h6 h7 h8 h9
/-- the state between the turns (kk: how many turns are left) -/
structure LJ2 (w : World) (X : FX2) (fix : List (Addr × Obj)) (KF : List Addr) (tr td : Tok) (mR : Str → Option Value) (kk : Nat) (m : Str → Option Value) (news : List (Addr × Obj)) (LA WA : Addr) (ls ws : KL) (hs : List Ent) (hv dv : List Value) (n : Int) (D : Key → Value) (rows : List (Row Key)) (kv : Option Value) (o1 o2 o3 o4 o5 o6 : Option Value) (hep : Nat) : Prop where
  hm : m = LM X tr td o1 o2 o3 o4 o5 o6 mR
  C : CV w (X.keep KF) news X.c X.cd X.dd X.mx X.md n X.cap X.thr X.al false D rows
  B : LF2 X fix KF news LA WA ls ws hs hv dv
  T : LM2 w X news LA WA hs dv kv
  O : OFF2 X KF
  hE : (X.hl, W.listOf hv.toArray hep) ∈ news
  rl : kkeys ls = rows.map (·.key)
  rw : RelW rows ws
  rh : RelH rows hs
  vok : ∀ r ∈ rows, VOk r.val
  hrl : rows.length ≤ 8
  hsl : hs.length + kk ≤ 63
  hvl : hv.length + kk ≤ 63
  hdl : dv.length + kk ≤ 63
theorem enumRest_inv {prog : Program} {w : World} {A : Around} {E : Value → Shared → Prop} {h₀ : Heap} {env : Env} {target : PySem.Expr} {body : List Stmt} {Q : Flow → Shared → Prop} {s : Shared} {wss : List (Addr × String)} {keep : List (Addr × Obj)} {vs : List Value} {J : Nat → (Str → Option Value) → List (Addr × Obj) → Prop}
    (step : ∀ (k i : Nat) x m n, vs[i]? = some x → J (k + 1) m n → ∀ (T : Addr) (t : Tok) h tk, IsTup h T #[.int (i : Int) t, x] → Fr h₀ env.locals h m → AllObj wss (fun its => News h₀ env.locals h (its ++ n) →
      wpAny (model prog w) A (assign target env (.ref T)) (fun _ s₂ => wpAny (model prog w) A (execs body env) (UnrPostW h₀ env.locals { s with heap := h, toks := tk } its (fun m' n' => SubL keep n' ∧ J k m' n') Q) E s₂) E { s with heap := h, toks := tk }))
    (done : ∀ m n, J 0 m n → ∀ h tk, Fr h₀ env.locals h m → News h₀ env.locals h n → Q .next { s with heap := h, toks := tk }) :
    ∀ k i m n, k + i = vs.length → J k m n → ItemsRest prog w A E h₀ env target body Q s wss keep (enumItems i (vs.drop i)) m n := by
  have mono : ∀ {wss : List (Addr × String)} {P P' : List (Addr × Obj) → Prop}, AllObj wss P → (∀ its, P its → P' its) → AllObj wss P' := by
    intro wss
    induction wss with
    | nil => exact fun h hp => hp _ h
    | cons a r ih => exact fun h hp o ho => ih (h o ho) fun its => hp _
  intro k
  induction k with
  | zero =>
    intro i m n e hj
    rw [List.drop_of_length_le (by omega)]
    exact ItemsRest.zero fun h tk F N => done m n hj h tk F N
  | succ k ih =>
    intro i m n e hj
    have hlt : i < vs.length := by omega
    rw [List.drop_eq_getElem_cons hlt]
    refine ItemsRest.pair fun T t h tk hT F => mono (step k i _ m n (List.getElem?_eq_getElem hlt) hj T t h tk hT F) fun its hst N => ?_
    refine wpAny_mono (hst N) (fun _ s₂ h₂ => wpAny_mono h₂ (fun fl s₃ hp => ?_) fun _ _ e => e) fun _ _ e => e
    have fin : UnrEndW h₀ env.locals { s with heap := h, toks := tk } its (fun m' n' => SubL keep n' ∧ J k m' n') s₃ → UnrEndW h₀ env.locals { s with heap := h, toks := tk } its (fun m' n' => SubL keep n' ∧ ItemsRest prog w A E h₀ env target body Q s wss keep (enumItems (i + 1) (vs.drop (i + 1))) m' n') s₃ := by
      rintro ⟨h', tk', m', n', e', F', N', off, hs, hj'⟩
      exact ⟨h', tk', m', n', e', F', N', off, hs, ih _ _ _ (by omega) hj'⟩
    cases fl with
    | ret v => exact hp
    | brk => exact hp
    | next => exact fin hp
    | cont => exact fin hp
end Mine2
end
section
open PySem PySem.W PyProof.Rows
namespace Mine2
open MineS MineP MineV
section
variable {w : World} {X : FX2} {fix news news' : List (Addr × Obj)} {KF KF' : List Addr} {LA WA : Addr} {ls ws : KL} {hs : List Ent} {hv dv : List Value} {kv : Option Value} {h₀ h : Heap} {L : Addr}
  {tr td : Tok} {mR m : Str → Option Value} {k : Nat} {n : Int} {D : Key → Value} {rows : List (Row Key)} {o1 o2 o3 o4 o5 o6 : Option Value} {hep : Nat} {a b : Addr} {oa ob : Obj}
def OffX (X : FX2) (a : Addr) : Prop := (a ≠ X.c ∧ a ≠ X.cd ∧ a ≠ X.dd ∧ a ≠ X.mx ∧ a ≠ X.md ∧ a ≠ X.hl) ∧ a ∉ X.mut
theorem LM2.mono (T : LM2 w X news LA WA hs dv kv) (h : ∀ q ∈ news, q.1 ∈ X.mut → q ∈ news') : LM2 w X news' LA WA hs dv kv where
  hLc := let ⟨o, q, d⟩ := T.hLc; ⟨o, h _ q (by simp), d⟩
  hWc := let ⟨o, q, d⟩ := T.hWc; ⟨o, h _ q (by simp), d⟩
  hKc := let ⟨o, q, d⟩ := T.hKc; ⟨o, h _ q (by simp), d⟩
  hH := let ⟨o, q, d⟩ := T.hH; ⟨o, h _ q (by simp), d⟩
  hD := let ⟨o, q⟩ := T.hD; ⟨o, h _ q (by simp)⟩
theorem OFF2.grow (O : OFF2 X KF) (h : ∀ x ∈ KF', x ∈ KF ∨ OffX X x) : OFF2 X KF' where
  off := fun x hx => by
    rcases List.mem_append.mp hx with hx | hx
    · exact O.off x (List.mem_append_left _ hx)
    · rcases h x hx with h | h
      · exact O.off x (List.mem_append_right _ h)
      · exact h.1
  frz := fun x hx => by
    rcases h x hx with h | h
    · exact O.frz x h
    · exact h.2
theorem LF2.grow (B : LF2 X fix KF news LA WA ls ws hs hv dv) (hk : ∀ x ∈ KF, x ∈ KF') (hi : ∀ x ∈ KF', x ∈ KF ∨ ∃ o, (x, o) ∈ news) : LF2 X fix KF' news LA WA ls ws hs hv dv :=
  { B with
    hpair := B.hpair.imp id fun ⟨p, q⟩ => ⟨p, q.grow hk⟩
    kL := hk _ B.kL
    kW := hk _ B.kW
    kfix := fun q hq => hk _ (B.kfix q hq)
    kin := fun x hx => (hi x hx).elim (B.kin x) id }
theorem CV.growK {b' : Bool} (C : CV w (X.keep KF) news X.c X.cd X.dd X.mx X.md n X.cap X.thr X.al b' D rows) (h : ∀ x ∈ KF', x ∈ KF ∨ ∀ r ∈ rows, r.lst ≠ x) : CV w (X.keep KF') news X.c X.cd X.dd X.mx X.md n X.cap X.thr X.al b' D rows :=
  C.rekeepV fun r hr hm => by
    have h0 := C.hoff r hr
    simp only [FX2.keep, List.mem_cons, List.mem_append] at h0 hm
    rcases hm with hm | hm | hm
    · exact h0 (.inl hm)
    · exact h0 (.inr (.inl hm))
    · rcases h _ hm with h | h
      · exact h0 (.inr (.inr h))
      · exact h r hr rfl
/-- the turn's iterators come in -/
theorem LJ2.opened (N : News h₀ L h ((a, oa) :: (b, ob) :: news)) (J : LJ2 w X fix KF tr td mR k m news LA WA ls ws hs hv dv n D rows kv o1 o2 o3 o4 o5 o6 hep) (ca : oa.cls = .type "enumerate") (cb : ob.cls = .type "list_iterator") (xa : OffX X a) (xb : OffX X b) :
    LJ2 w X ((a, oa) :: (b, ob) :: fix) (a :: b :: KF) tr td mR k m ((a, oa) :: (b, ob) :: news) LA WA ls ws hs hv dv n D rows kv o1 o2 o3 o4 o5 o6 hep := by
  have up : ∀ q ∈ news, q ∈ (a, oa) :: (b, ob) :: news := fun q hq => .tail _ (.tail _ hq)
  have hab : ∀ x ∈ a :: b :: KF, x ∈ KF ∨ x = a ∨ x = b := fun x hx => by simpa [or_comm, or_assoc, or_left_comm] using hx
  refine { J with C := (J.C.mono up).growK fun x hx => ?_, B := ?_, T := J.T.mono fun q hq _ => up q hq, O := J.O.grow fun x hx => ?_, hE := up _ J.hE }
  · rcases hab x hx with h | rfl | rfl
    · exact .inl h
    · exact .inr fun r hr => news_nec N (up _ (J.C.hrows r hr).2) (.head _) (by rw [ca]; simp)
    · exact .inr fun r hr => news_nec N (up _ (J.C.hrows r hr).2) (.tail _ (.head _)) (by rw [cb]; simp)
  · have B1 := (J.B.stay (Stay.sub up)).grow (KF' := a :: b :: KF) (fun x hx => .tail _ (.tail _ hx)) fun x hx => by
      rcases hab x hx with h | rfl | rfl
      · exact .inl h
      · exact .inr ⟨_, .head _⟩
      · exact .inr ⟨_, .tail _ (.head _)⟩
    refine { B1 with hfix := fun q hq => ?_, kfix := fun q hq => ?_ }
    · rcases List.mem_cons.mp hq with rfl | hq
      · exact .head _
      rcases List.mem_cons.mp hq with rfl | hq
      · exact .tail _ (.head _)
      · exact B1.hfix q hq
    · rcases List.mem_cons.mp hq with rfl | hq
      · exact .head _
      rcases List.mem_cons.mp hq with rfl | hq
      · exact .tail _ (.head _)
      · exact B1.kfix q hq
  · rcases hab x hx with h | rfl | rfl
    · exact .inl h
    · exact .inr xa
    · exact .inr xb
theorem PairsL.close {its : List Addr} (N : News h₀ L h news) (hits : ∀ x ∈ its, ∃ o, (x, o) ∈ news ∧ o.cls ≠ .type "list" ∧ o.cls ≠ .type "tuple") : ∀ {hv dv : List Value}, PairsL news KF hv dv → PairsL (wo its news) (KF.filter fun x => decide (x ∉ its)) hv dv
  | [], [], _ => trivial
  | [], _ :: _, h => (show False from h).elim
  | _ :: _, [], h => (show False from h).elim
  | _ :: _, _ :: _, ⟨⟨x, y, ls, ls', e, e', ea, eb, hne, kx, ky, hx, hy, nx, ny, hk⟩, r⟩ => by
    have nl : ∀ {q : Addr × Obj}, q ∈ news → q.2.cls = .type "list" ∨ q.2.cls = .type "tuple" → q.1 ∉ its := fun hq hc hm => by
      obtain ⟨o, ho, c1, c2⟩ := hits _ hm
      have e4 : _ = o := congrArg Prod.snd (news_same N ho hq rfl)
      rw [e4] at hc
      exact hc.elim c1 c2
    have tup : ∀ q ∈ news, q.2.cls = .type "tuple" → q ∈ wo its news := fun q hq hc => wo_mem hq (nl hq (.inr hc))
    exact ⟨⟨x, y, ls, ls', e, e', ea, eb, hne, List.mem_filter.mpr ⟨kx, by simpa using nl hx (.inl rfl)⟩, List.mem_filter.mpr ⟨ky, by simpa using nl hy (.inl rfl)⟩, wo_mem hx (nl hx (.inl rfl)), wo_mem hy (nl hy (.inl rfl)), nx.mono tup, ny.mono tup, hk⟩, r.close N hits⟩
/-- the turn's iterators go out -/
theorem LJ2.closed (N : News h₀ L h news) (J : LJ2 w X ((a, oa) :: (b, ob) :: fix) KF tr td mR k m news LA WA ls ws hs hv dv n D rows kv o1 o2 o3 o4 o5 o6 hep) (ca : oa.cls = .type "enumerate") (cb : ob.cls = .type "list_iterator") (hfx : ∀ q ∈ fix, q.1 ≠ a ∧ q.1 ≠ b) :
    LJ2 w X fix (KF.filter fun x => decide (x ∉ [a, b])) tr td mR k m (wo [a, b] news) LA WA ls ws hs hv dv n D rows kv o1 o2 o3 o4 o5 o6 hep := by
  have ha := J.B.hfix _ (.head _)
  have hb := J.B.hfix _ (.tail _ (.head _))
  have ka := J.B.kfix _ (.head _)
  have kb := J.B.kfix _ (.tail _ (.head _))
  dsimp only at ka kb
  have hits : ∀ x ∈ [a, b], ∃ o, (x, o) ∈ news ∧ o.cls ≠ .type "list" ∧ o.cls ≠ .type "tuple" := by
    simp only [List.forall_mem_cons]
    exact ⟨⟨oa, ha, by rw [ca]; simp, by rw [ca]; simp⟩, ⟨ob, hb, by rw [cb]; simp, by rw [cb]; simp⟩, fun _ h => nomatch h⟩
  have nl : ∀ {q : Addr × Obj}, q ∈ news → q.2.cls = .type "list" ∨ q.2.cls = .type "tuple" → q.1 ∉ [a, b] := fun hq hc hm => by
    obtain ⟨o, ho, c1, c2⟩ := hits _ hm
    have e4 : _ = o := congrArg Prod.snd (news_same N ho hq rfl)
    rw [e4] at hc
    exact hc.elim c1 c2
  have tup : ∀ q ∈ news, q.2.cls = .type "tuple" → q ∈ wo [a, b] news := fun q hq hc => wo_mem hq (nl hq (.inr hc))
  have sub : ∀ x ∈ KF.filter (fun x => decide (x ∉ [a, b])), x ∈ KF := fun x hx => (List.mem_filter.mp hx).1
  have oa' := J.O.off a (List.mem_append_right _ ka)
  have ob' := J.O.off b (List.mem_append_right _ kb)
  have kf : ∀ {x : Addr}, x ∈ KF → x ∉ [a, b] → x ∈ KF.filter (fun x => decide (x ∉ [a, b])) := fun hx hn => List.mem_filter.mpr ⟨hx, by simpa using hn⟩
  have kp : ∀ {x : Addr}, x ∈ KF → x ∈ X.keep KF := fun hx => .tail _ (List.mem_append_right _ hx)
  obtain ⟨e1, hL⟩ := J.B.hL
  obtain ⟨e2, hW⟩ := J.B.hW
  refine { J with C := CV.growK (CV.turnV (off := [a, b]) N J.C ?_ fun q hq hm => wo_mem hq hm) fun x hx => .inl (sub x hx), B := ?_, T := J.T.mono fun q hq hm => wo_mem hq fun hm2 => ?_, O := J.O.grow fun x hx => .inl (sub x hx), hE := wo_mem J.hE ?_ }
  · simp only [List.forall_mem_cons]
    exact ⟨⟨kp ka, oa'.1, oa'.2.1, oa'.2.2.1, oa'.2.2.2.1, oa'.2.2.2.2.1, oa, ha, fun vs n e => by rw [ca] at e; simp at e⟩, ⟨kp kb, ob'.1, ob'.2.1, ob'.2.2.1, ob'.2.2.2.1, ob'.2.2.2.2.1, ob, hb, fun vs n e => by rw [cb] at e; simp at e⟩, fun _ h => nomatch h⟩
  · refine { hL := ⟨e1, wo_mem hL (nl hL (.inl rfl))⟩, hW := ⟨e2, wo_mem hW (nl hW (.inl rfl))⟩, hfix := fun q hq => wo_mem (J.B.hfix q (.tail _ (.tail _ hq))) (by have := hfx q hq; simp [this.1, this.2]), hHs := J.B.hHs.mono tup, hls := J.B.hls.mono tup, hws := J.B.hws.mono tup, hpair := J.B.hpair.imp id fun ⟨p, q⟩ => ⟨p, q.close N hits⟩, kL := kf J.B.kL (nl hL (.inl rfl)), kW := kf J.B.kW (nl hW (.inl rfl)), kfix := fun q hq => kf (J.B.kfix q (.tail _ (.tail _ hq))) (by have := hfx q hq; simp [this.1, this.2]), kin := fun x hx => ?_ }
    obtain ⟨h1, h2⟩ := List.mem_filter.mp hx
    obtain ⟨o, ho⟩ := J.B.kin x h1
    exact ⟨o, wo_mem ho (by simpa using h2)⟩
  · simp only [List.mem_cons, List.mem_nil_iff, or_false] at hm2
    rcases hm2 with e | e
    · exact J.O.frz a ka (e ▸ hm)
    · exact J.O.frz b kb (e ▸ hm)
  · simp only [List.mem_cons, List.mem_nil_iff, or_false, not_or]
    exact ⟨fun e => oa'.2.2.2.2.2 e.symm, fun e => ob'.2.2.2.2.2 e.symm⟩
theorem fr_LM2 (X : FX2) {tr td : Tok} (F : Fr h₀ L h m) (e0 : m (Str.ofString "due") = some (.ref X.DU)) (e1 : m (Str.ofString "double") = some (.int X.dbl td)) (e2 : m (Str.ofString "room") = some (.int X.cap tr)) (e3 : m (Str.ofString "loud") = some X.al) :
    ∃ tr' td' o1 o2 o3 o4 o5 o6 mR, Fr h₀ L h (LM X tr' td' o1 o2 o3 o4 o5 o6 mR) :=
  ⟨tr, td, _, _, _, _, _, _, m, (lm_of (mR := m) e0 e1 e2 e3 fun _ _ _ _ _ _ _ _ _ _ _ => rfl) ▸ F⟩
/-- a turn that ends, and raises nothing -/
theorem cut_turn {M : Model} {A : Around} {t : Sem Flow} {E : Value → Shared → Prop} {s s₁ : Shared} {its : List (Addr × Obj)} {rest : (Str → Option Value) → List (Addr × Obj) → Prop} {QF : Flow → Shared → Prop}
    (h : wpAny M A t (fun fl s' => fl = .next ∧ UnrEndW h₀ L s₁ its rest s') (fun _ _ => False) s) : wpAny M A t (UnrPostW h₀ L s₁ its rest QF) E s :=
  wpAny_mono h (fun fl s' ⟨e, h⟩ => by subst e; exact h) fun _ _ e => e.elim
end
end Mine2
end
section
open PySem PySem.W PyProof.Rows
namespace Mine2
open MineS MineP MineV
section
variable {w : World} {X : FX2} {fix news news' : List (Addr × Obj)} {KF KF' : List Addr} {LA WA : Addr} {ls ws : KL} {hs : List Ent} {hv dv : List Value} {kv kv' : Option Value} {h₀ h : Heap} {L : Addr}
  {tr td : Tok} {mR m : Str → Option Value} {k : Nat} {n : Int} {D : Key → Value} {rows : List (Row Key)} {o1 o2 o3 o4 o5 o6 : Option Value} {hep : Nat} {b : Bool}
theorem LM2.nt (T : LM2 w X news LA WA hs dv kv) : ∀ a ∈ X.mut, ∃ o, (a, o) ∈ news ∧ ∀ vs n, o.cls = .type "tuple" → o.data ≠ .seq vs n := by
  obtain ⟨⟨ol, tl, dl⟩, ⟨ow, tw, dw⟩, ⟨ok, tk, dk⟩, ⟨oH, tH, dH⟩, ⟨ep, tD⟩⟩ := T
  simp only [FX2.mut, List.forall_mem_cons]
  exact ⟨⟨ow, tw, fun vs n _ e => by rw [dw] at e; cases e⟩, ⟨ol, tl, fun vs n _ e => by rw [dl] at e; cases e⟩, ⟨ok, tk, fun vs n _ e => by rw [dk] at e; cases e⟩, ⟨oH, tH, fun vs n e => by rw [dH.1.1] at e; simp at e⟩, ⟨_, tD, fun vs n e => by simp at e⟩, fun _ h => nomatch h⟩
/-- the state's places are five -/
theorem LM2.nodup (N : News h₀ L h news) (T : LM2 w X news LA WA hs dv kv) (h1 : X.kw ≠ X.kl) (h2 : X.kw ≠ X.kk) (h3 : X.kl ≠ X.kk) : X.mut.Nodup := by
  obtain ⟨⟨ol, tl, dl⟩, ⟨ow, tw, dw⟩, ⟨ok, tk, dk⟩, ⟨oH, tH, ⟨hx, es, ep', dH, -, -⟩⟩, ⟨ep, tD⟩⟩ := T
  have a1 : ∀ {o : Obj} {v : Option Value}, o.data = .cell v → o ≠ oH := fun d e => by rw [e, dH] at d; cases d
  have a2 : ∀ {o : Obj} {v : Option Value}, o.data = .cell v → o ≠ W.listOf dv.toArray ep := fun d e => by rw [e] at d; cases d
  have b1 : X.kw ≠ X.HD := news_ne N tw tH (a1 dw)
  have b2 : X.kl ≠ X.HD := news_ne N tl tH (a1 dl)
  have b3 : X.kk ≠ X.HD := news_ne N tk tH (a1 dk)
  have b4 : X.kw ≠ X.DU := news_ne N tw tD (a2 dw)
  have b5 : X.kl ≠ X.DU := news_ne N tl tD (a2 dl)
  have b6 : X.kk ≠ X.DU := news_ne N tk tD (a2 dk)
  have b7 : X.HD ≠ X.DU := news_nec N tH tD (by rw [hx.1]; simp)
  simp [FX2.mut, h1, h2, h3, b1, b2, b3, b4, b5, b6, b7]
theorem CV.turnM {off : List Addr} (N : News h₀ L h news) (C : CV w (X.keep KF) news X.c X.cd X.dd X.mx X.md n X.cap X.thr X.al b D rows) (T : LM2 w X news LA WA hs dv kv) (O : OFF2 X KF) (hoff : ∀ a ∈ off, a ∈ X.mut) (F : ∀ q ∈ news, q.1 ∉ off → q ∈ news') :
    CV w (X.keep KF) news' X.c X.cd X.dd X.mx X.md n X.cap X.thr X.al b D rows :=
  CV.turnV (off := off) N C (fun a ha => by
    have hm := hoff a ha
    obtain ⟨c1, c2, c3, c4, c5, -⟩ := O.off a (List.mem_append_left _ hm)
    exact ⟨.tail _ (List.mem_append_left _ hm), c1, c2, c3, c4, c5, T.nt a hm⟩) F
theorem stayM {off : List Addr} (N : News h₀ L h news) (T : LM2 w X news LA WA hs dv kv) (O : OFF2 X KF) (hoff : ∀ a ∈ off, a ∈ X.mut) (F : ∀ q ∈ news, q.1 ∉ off → q ∈ news') : Stay KF news news' := by
  refine ⟨fun q hq hk => F q hq fun hm => O.frz _ hk (hoff _ hm), fun q hq hc ⟨vs, n, hd⟩ => F q hq fun hm => ?_⟩
  obtain ⟨o, ho, hno⟩ := T.nt _ (hoff _ hm)
  have e4 : q.2 = o := congrArg Prod.snd (news_same N ho hq rfl)
  rw [e4] at hc hd
  exact hno vs n hc hd
/-- the law's own statements turn what is theirs -/
theorem LJ2.turned {off : List Addr} (N : News h₀ L h news) (J : LJ2 w X fix KF tr td mR k m news LA WA ls ws hs hv dv n D rows kv o1 o2 o3 o4 o5 o6 hep) (hoff : ∀ a ∈ off, a ∈ X.mut) (F : ∀ q ∈ news, q.1 ∉ off → q ∈ news') (T' : LM2 w X news' LA WA hs dv kv') :
    LJ2 w X fix KF tr td mR k m news' LA WA ls ws hs hv dv n D rows kv' o1 o2 o3 o4 o5 o6 hep :=
  { J with
    C := J.C.turnM N J.T J.O hoff F
    B := J.B.stay (stayM N J.T J.O hoff F)
    T := T'
    hE := F _ J.hE fun hm => (J.O.off _ (List.mem_append_left _ (hoff _ hm))).2.2.2.2.2 rfl }
/-- what a deed of the cache leaves -/
theorem stayC {hep : Nat} (N : News h₀ L h news) (C : CV w (X.keep KF) news X.c X.cd X.dd X.mx X.md n X.cap X.thr X.al b D rows) (O : OFF2 X KF) (hE : (X.hl, W.listOf hv.toArray hep) ∈ news)
    (F : ∀ q ∈ news, q.1 ≠ X.c → q.1 ≠ X.dd → q.1 ≠ X.md → q.1 ≠ X.hl → (∀ r ∈ rows, q.1 ≠ r.lst) → q ∈ news') : Stay (X.mut ++ KF) news news' := by
  obtain ⟨⟨t, tc, h1⟩, h2, ⟨od, h3, hdi⟩, h4, ⟨hs, hk, h5⟩, hrows, -, -, -, -, -, -, -, -, -, hoff⟩ := C
  refine ⟨fun q hq hk => ?_, fun q hq hc _ => ?_⟩
  · obtain ⟨c1, c2, c3, c4, c5, c6⟩ := O.off _ hk
    exact F q hq c1 c3 c5 c6 fun r hr e => hoff r hr (e ▸ .tail _ hk)
  · exact F q hq (news_nec N hq h1 (by rw [hc]; simp)) (news_nec N hq h3 (by rw [hc, hdi.1.1]; simp)) (news_nec N hq h5 (by rw [hc]; simp)) (news_nec N hq hE (by rw [hc]; simp)) fun r hr => news_nec N hq (hrows r hr).2 (by rw [hc]; simp)
theorem Stay.frz (S : Stay (X.mut ++ KF) news news') : Stay KF news news' := ⟨fun q hq hk => S.1 q hq (List.mem_append_right _ hk), S.2⟩
theorem LM2.stay (T : LM2 w X news LA WA hs dv kv) (S : Stay (X.mut ++ KF) news news') : LM2 w X news' LA WA hs dv kv := T.mono fun q hq hm => S.1 q hq (List.mem_append_left _ hm)
end
/-- what the If of a turn leaves -/
def Mid2 (w : World) (X : FX2) (fix : List (Addr × Obj)) (tr td : Tok) (mR : Str → Option Value) (k : Nat) (h₀ : Heap) (L : Addr) (s : Shared) (fl : Flow) (s' : Shared) : Prop :=
  fl = .next ∧ ∃ h' tk' m' news' told want, s' = { s with heap := h', toks := tk' } ∧ Fr h₀ L h' m' ∧ News h₀ L h' news' ∧ Told told want ∧
    ∃ KF LA WA ls ws hs hv dv n D rows kv o1 o2 o3 o4 hep, LJ2 w X fix KF tr td mR k m' news' LA WA ls ws hs hv dv n D rows kv o1 o2 o3 o4 (some told) (some want) hep
theorem mid2_new {w : World} {X : FX2} {fix nw : List (Addr × Obj)} {KF : List Addr} {tr td : Tok} {mR m : Str → Option Value} {k : Nat} {h₀ h' : Heap} {L : Addr} {s : Shared} {tk' : Nat} {LA WA : Addr} {ls ws : KL} {hs : List Ent} {hv dv : List Value} {n : Int} {D : Key → Value} {rows : List (Row Key)} {kv : Option Value} {hep : Nat} {told want : Value}
    (F : Fr h₀ L h' m) (N : News h₀ L h' nw) (ht : Told told want) (C : CV w (X.keep KF) nw X.c X.cd X.dd X.mx X.md n X.cap X.thr X.al false D rows) (B : LF2 X fix KF nw LA WA ls ws hs hv dv) (T : LM2 w X nw LA WA hs dv kv) (O : OFF2 X KF) (hE : (X.hl, W.listOf hv.toArray hep) ∈ nw)
    (rl : kkeys ls = rows.map (·.key)) (rw : RelW rows ws) (rh : RelH rows hs) (vok : ∀ r ∈ rows, VOk r.val) (l1 : rows.length ≤ 8) (l2 : hs.length + k ≤ 63) (l3 : hv.length + k ≤ 63) (l4 : dv.length + k ≤ 63)
    (e0 : m (Str.ofString "due") = some (.ref X.DU)) (e1 : m (Str.ofString "double") = some (.int X.dbl td)) (e2 : m (Str.ofString "room") = some (.int X.cap tr)) (e3 : m (Str.ofString "loud") = some X.al) (e4 : m (Str.ofString "told") = some told) (e5 : m (Str.ofString "want") = some want)
    (eR : ∀ y, y ≠ Str.ofString "i" → y ≠ Str.ofString "x" → y ≠ Str.ofString "op" → y ≠ Str.ofString "y" → y ≠ Str.ofString "told" → y ≠ Str.ofString "want" → y ≠ Str.ofString "due" → y ≠ Str.ofString "double" → y ≠ Str.ofString "room" → y ≠ Str.ofString "loud" → m y = mR y) :
    Mid2 w X fix tr td mR k h₀ L s .next { s with heap := h', toks := tk' } :=
  ⟨rfl, h', tk', m, nw, told, want, rfl, F, N, ht, KF, LA, WA, ls, ws, hs, hv, dv, n, D, rows, kv, _, _, _, _, hep,
    { hm := by have q := lm_of e0 e1 e2 e3 eR; rw [e4, e5] at q; exact q, C := C, B := B, T := T, O := O, hE := hE, rl := rl, rw := rw, rh := rh, vok := vok, hrl := l1, hsl := l2, hvl := l3, hdl := l4 }⟩
end Mine2
end
section
open PySem PySem.W PyProof.Rows
namespace Mine2
open MineS MineP MineV
section
variable {w : World} {X : FX2} {fix news news' nw : List (Addr × Obj)} {KF KF' : List Addr} {LA WA LA' WA' : Addr} {ls ws ls' ws' : KL} {hs hs' : List Ent} {hv dv hv' dv' : List Value} {kv kv' : Option Value} {h₀ h h' : Heap} {L : Addr}
  {tr td : Tok} {mR m : Str → Option Value} {k : Nat} {n : Int} {D : Key → Value} {rows : List (Row Key)} {o1 o2 o3 o4 o5 o6 : Option Value} {hep : Nat} {b : Bool} {keep : List Addr} {s : Shared} {tk' : Nat}
/-- a place that is new is none of the state's -/
theorem fresh_offN {a : Addr} (C : CV w keep news X.c X.cd X.dd X.mx X.md n X.cap X.thr X.al b D rows) (T : LM2 w X news LA WA hs dv kv) (hE : (X.hl, W.listOf hv.toArray hep) ∈ news) (hlt : ∀ q ∈ news, q.1 ≠ a) : OffX X a ∧ ∀ r ∈ rows, r.lst ≠ a := by
  obtain ⟨⟨t, tc, h1⟩, h2, ⟨od, h3, -⟩, h4, ⟨hs', hk, h5⟩, hrows, -, -, -, -, -, -, -, -, -, -⟩ := C
  obtain ⟨⟨ol, tl, -⟩, ⟨ow, tw, -⟩, ⟨ok, tk, -⟩, ⟨oH, tH, -⟩, ⟨ep, tD⟩⟩ := T
  have gt : ∀ {q : Addr × Obj}, q ∈ news → a ≠ q.1 := fun hq => (hlt _ hq).symm
  refine ⟨⟨⟨gt h1, gt h2, gt h3, gt h4, gt h5, gt hE⟩, ?_⟩, fun r hr => (gt (hrows r hr).2).symm⟩
  simp only [FX2.mut, List.mem_cons, List.not_mem_nil, or_false, not_or]
  exact ⟨gt tw, gt tl, gt tk, gt tH, gt tD⟩
theorem fresh_off {a : Addr} (C : CV w keep news X.c X.cd X.dd X.mx X.md n X.cap X.thr X.al b D rows) (T : LM2 w X news LA WA hs dv kv) (hE : (X.hl, W.listOf hv.toArray hep) ∈ news) (hlt : ∀ q ∈ news, q.1 < a) : OffX X a ∧ ∀ r ∈ rows, r.lst ≠ a :=
  fresh_offN C T hE fun q hq => Nat.ne_of_lt (hlt q hq)
/-- the end of an If: the state at the ledger news (old lists), what the law's own statements made of it -/
theorem mid2_close {h0 : Heap} {told want : Value} (F : Fr h₀ L h' m) (N : News h₀ L h' nw) (N0 : News h₀ L h0 news) (ht : Told told want)
    (C : CV w (X.keep KF) news X.c X.cd X.dd X.mx X.md n X.cap X.thr X.al false D rows) (B : LF2 X fix KF news LA WA ls ws hs hv dv) (T : LM2 w X news LA WA hs dv kv) (O : OFF2 X KF) (hE : (X.hl, W.listOf hv'.toArray hep) ∈ news)
    (up : ∀ q ∈ news, q.1 ∉ X.mut → q ∈ nw) (T' : LM2 w X nw LA' WA' hs dv' kv') (hL' : ∃ ep, (LA', W.listOf (kvals ls').toArray ep) ∈ nw) (hW' : ∃ ep, (WA', W.listOf (kvals ws').toArray ep) ∈ nw)
    (hls' : KLN nw ls') (hws' : KLN nw ws') (new : List Addr) (hnew : ∀ a ∈ new, OffX X a ∧ ∀ r ∈ rows, r.lst ≠ a) (hin : ∀ a ∈ new, ∃ o, (a, o) ∈ nw) (kL' : LA' ∈ new ∨ LA' ∈ KF) (kW' : WA' ∈ new ∨ WA' ∈ KF)
    (hpair : (X.al = .none ∧ hv' = []) ∨ (X.al = .ref X.f ∧ (PairsL nw (new ++ KF) hv dv → PairsL nw (new ++ KF) hv' dv')))
    (rl : kkeys ls' = rows.map (·.key)) (rw : RelW rows ws') (rh : RelH rows hs) (vok : ∀ r ∈ rows, VOk r.val) (l1 : rows.length ≤ 8) (l2 : hs.length + k ≤ 63) (l3 : hv'.length + k ≤ 63) (l4 : dv'.length + k ≤ 63)
    (e0 : m (Str.ofString "due") = some (.ref X.DU)) (e1 : m (Str.ofString "double") = some (.int X.dbl td)) (e2 : m (Str.ofString "room") = some (.int X.cap tr)) (e3 : m (Str.ofString "loud") = some X.al) (e4 : m (Str.ofString "told") = some told) (e5 : m (Str.ofString "want") = some want)
    (eR : ∀ y, y ≠ Str.ofString "i" → y ≠ Str.ofString "x" → y ≠ Str.ofString "op" → y ≠ Str.ofString "y" → y ≠ Str.ofString "told" → y ≠ Str.ofString "want" → y ≠ Str.ofString "due" → y ≠ Str.ofString "double" → y ≠ Str.ofString "room" → y ≠ Str.ofString "loud" → m y = mR y) :
    Mid2 w X fix tr td mR k h₀ L s .next { s with heap := h', toks := tk' } := by
  have S := stayM N0 T O (off := X.mut) (fun _ h => h) up
  have C1 := C.turnM N0 T O (off := X.mut) (fun _ h => h) up
  have sub : ∀ x ∈ new ++ KF, x ∈ KF ∨ x ∈ new := fun x hx => (List.mem_append.mp hx).symm
  have inl : ∀ {x}, x ∈ KF → x ∈ new ++ KF := fun h => List.mem_append_right _ h
  have inr : ∀ {x}, x ∈ new ∨ x ∈ KF → x ∈ new ++ KF := fun h => List.mem_append.mpr h
  have B1 := (B.stay S).grow (KF' := new ++ KF) (fun x hx => inl hx) fun x hx => (sub x hx).imp id fun h => hin x h
  refine mid2_new (KF := new ++ KF) F N ht (C1.growK fun x hx => (sub x hx).imp id fun h => (hnew x h).2) ?_ T' (O.grow fun x hx => (sub x hx).imp id fun h => (hnew x h).1) (up _ hE fun hm => (O.off _ (List.mem_append_left _ hm)).2.2.2.2.2 rfl) rl rw rh vok l1 l2 l3 l4 e0 e1 e2 e3 e4 e5 eR
  exact { hL := hL', hW := hW', hfix := B1.hfix, hHs := B1.hHs, hls := hls', hws := hws', hpair := hpair.elim .inl fun ⟨e, g⟩ => B1.hpair.elim (fun ⟨e2, _⟩ => by rw [e] at e2; cases e2) fun ⟨_, p⟩ => .inr ⟨e, g p⟩, kL := inr kL', kW := inr kW', kfix := B1.kfix, kin := B1.kin }
theorem nw_all {P : Addr → Prop} {R : List (Addr × Obj)} {a1 a2 a3 : Addr} (up : ∀ q ∈ nw, q.1 ≠ a1 → q.1 ≠ a2 → q.1 ≠ a3 → q ∈ R) (h : ∀ q ∈ R, P q.1) (h1 : P a1) (h2 : P a2) (h3 : P a3) : ∀ q ∈ nw, P q.1 := fun q hq => by
  by_cases e1 : q.1 = a1
  · rw [e1]; exact h1
  · by_cases e2 : q.1 = a2
    · rw [e2]; exact h2
    · by_cases e3 : q.1 = a3
      · rw [e3]; exact h3
      · exact h q (up q hq e1 e2 e3)
theorem join_vok {M : Model} {A : Around} {E : Value → Shared → Prop} {s : Shared} {t : Sem Value} {Q : Value → Shared → Prop} (h1 : wpAny M A t (fun v s' => (∃ tk, s' = { s with toks := tk }) ∧ VOk v) (fun _ _ => False) s)
    (h2 : ∀ v tk, VOk v → Q v { s with toks := tk }) : wpAny M A t Q E s := wpAny_mono h1 (fun v s' ⟨⟨tk, e⟩, hv⟩ => by subst e; exact h2 v tk hv) fun _ _ e => e.elim
theorem join_val {M : Model} {A : Around} {E : Value → Shared → Prop} {s : Shared} {t : Sem Value} {Q : Value → Shared → Prop} (P : Value → Prop) (h1 : wpAny M A t (fun v s' => (∃ tk, s' = { s with toks := tk }) ∧ P v) (fun _ _ => False) s)
    (h2 : ∀ v tk, P v → Q v { s with toks := tk }) : wpAny M A t Q E s := wpAny_mono h1 (fun v s' ⟨⟨tk, e⟩, hv⟩ => by subst e; exact h2 v tk hv) fun _ _ e => e.elim
def rowsK (D : Key → Value) (rows : List (Row Key)) : KL := rows.map fun r => (r.key, D r.key)
theorem rowsK_vals (D : Key → Value) (rows : List (Row Key)) : (rows.map fun r => D r.key) = kvals (rowsK D rows) := by unfold rowsK; show _ = List.map _ (List.map _ _); rw [List.map_map]; rfl
theorem rowsK_keys (D : Key → Value) (rows : List (Row Key)) : kkeys (rowsK D rows) = rows.map (·.key) := by unfold rowsK; show List.map _ (List.map _ _) = _; rw [List.map_map]; rfl
theorem rowsK_in {w : World} {keep : List Addr} {news : List (Addr × Obj)} {c cd dd mx md : Addr} {n cap : Int} {thr al : Value} {b : Bool} {D : Key → Value} {rows : List (Row Key)} (C : CV w keep news c cd dd mx md n cap thr al b D rows) : KLN news (rowsK D rows) := fun p hp => by
  obtain ⟨r, hr, rfl⟩ := List.mem_map.mp hp
  exact (C.hks r hr).1
/-- after «if key not in laid: laid = laid + [key]» -/
def LaidP (h₀ : Heap) (L : Addr) (s : Shared) (m : Str → Option Value) (kl LA : Addr) (ls1 : KL) (big : List (Addr × Obj)) (fl : Flow) (s' : Shared) : Prop :=
  fl = .next ∧ ∃ h' tk' LA1 ol1 ep1, s' = { s with heap := h', toks := tk' } ∧ Fr h₀ L h' m ∧ News h₀ L h' ((LA1, W.listOf (kvals ls1).toArray ep1) :: (kl, ol1) :: big) ∧ ol1.data = .cell (some (.ref LA1)) ∧ (LA1 = LA ∨ ((∀ q ∈ big, q.1 < LA1) ∧ kl < LA1))
theorem LaidP.mk' {kl LA1 : Addr} {ls1 : KL} {big all : List (Addr × Obj)} {ol1 : Obj} (ep1 : Nat) (F : Fr h₀ L h' m) (N : News h₀ L h' all) (hd : ol1.data = .cell (some (.ref LA1))) (sub : ∀ q ∈ (LA1, W.listOf (kvals ls1).toArray ep1) :: (kl, ol1) :: big, q ∈ all) (hx : LA1 = LA ∨ ((∀ q ∈ big, q.1 < LA1) ∧ kl < LA1)) :
    LaidP h₀ L s m kl LA ls1 big .next { s with heap := h', toks := tk' } := ⟨rfl, h', tk', LA1, ol1, ep1, rfl, F, news_mono N sub, hd, hx⟩
theorem kln_laid {xs : KL} {k : Key} {v : Value} (h : KLN news xs) (hk : KeyN news k v) : KLN news (laidK xs k v) := by
  unfold laidK
  split
  · exact h
  · intro p hp
    rcases List.mem_append.mp hp with hp | hp
    · exact h p hp
    · rw [List.mem_singleton.mp hp]; exact hk
theorem kln_warm {xs : KL} {k : Key} {v : Value} (h : KLN news xs) (hk : KeyN news k v) : KLN news (woK xs k ++ [(k, v)]) := fun p hp => by
  rcases List.mem_append.mp hp with hp | hp
  · exact h p (List.mem_filter.mp hp).1
  · rw [List.mem_singleton.mp hp]; exact hk
theorem vok_put {r : Row Key} (h : ∀ x ∈ rows, VOk x.val) (hr : VOk r.val) : ∀ x ∈ putRow rows r, VOk x.val := fun x hx => by
  rcases put_mem hx with rfl | ⟨hx, -⟩
  · exact hr
  · exact h x hx
theorem vok_touch {k : Key} {n : Int} {t : Tok} (h : ∀ x ∈ rows, VOk x.val) : ∀ x ∈ touch rows k n t, VOk x.val := fun x hx => by
  obtain ⟨y, hy, rfl⟩ := List.mem_map.mp hx
  split <;> exact h y hy
theorem touch_len {k : Key} {n : Int} {t : Tok} : (touch rows k n t).length = rows.length := by unfold touch; rw [List.length_map]
def MP2 (X : FX2) (KF : List Addr) (hv : List Value) (hep : Nat) (D : Key → Value) (rows1 rows' : List (Row Key)) (nw : List (Addr × Obj)) : Prop :=
  (2 * (rows1.length : Int) ≤ X.dbl ∧ rows' = rows1 ∧ (X.hl, W.listOf hv.toArray hep) ∈ nw) ∨
  (X.dbl < 2 * (rows1.length : Int) ∧ ∃ srows : List (Row Key), srows.Perm rows1 ∧ srows.Pairwise (fun a b : Row Key => b.ctr < a.ctr) ∧ rows' = left rows1 (srows.drop X.cap.toNat) ∧
    ((X.al = .none ∧ (X.hl, W.listOf hv.toArray hep) ∈ nw) ∨ (X.al = .ref X.f ∧ ∃ (DL : Addr) (e1 e2 : Nat), (DL, W.listOf (kvals (rowsK D rows1)).toArray e1) ∈ nw ∧ (X.hl, W.listOf (hv ++ [Value.ref DL]).toArray e2) ∈ nw ∧ KLN nw (rowsK D rows1) ∧ (∀ a ∈ KF, DL ≠ a) ∧ OffX X DL ∧ ∀ r ∈ rows', r.lst ≠ DL)))
def HP2 (X : FX2) (KF : List Addr) (hv hv2 : List Value) (D : Key → Value) (rows1 rows' : List (Row Key)) (nw : List (Addr × Obj)) : Prop :=
  (X.al = .none ∧ hv2 = []) ∨ (X.al = .ref X.f ∧ ∃ (DL : Addr) (e1 : Nat), hv2 = hv ++ [Value.ref DL] ∧ (DL, W.listOf (kvals (rowsK D rows1)).toArray e1) ∈ nw ∧ KLN nw (rowsK D rows1) ∧ (∀ a ∈ KF, DL ≠ a) ∧ OffX X DL ∧ ∀ r ∈ rows', r.lst ≠ DL)
theorem clear_pair {rows1 rows' : List (Row Key)} (hpair : (X.al = .none ∧ hv = []) ∨ (X.al = .ref X.f ∧ PairsL news KF hv dv))
    (h5 : (X.al = .none ∧ (X.hl, W.listOf hv.toArray hep) ∈ nw) ∨ (X.al = .ref X.f ∧ ∃ (DL : Addr) (e1 e2 : Nat), (DL, W.listOf (kvals (rowsK D rows1)).toArray e1) ∈ nw ∧ (X.hl, W.listOf (hv ++ [Value.ref DL]).toArray e2) ∈ nw ∧ KLN nw (rowsK D rows1) ∧ (∀ a ∈ KF, DL ≠ a) ∧ OffX X DL ∧ ∀ r ∈ rows', r.lst ≠ DL)) :
    ∃ hv2 hep2, (X.hl, W.listOf hv2.toArray hep2) ∈ nw ∧ hv2.length ≤ hv.length + 1 ∧ HP2 X KF hv hv2 D rows1 rows' nw := by
  rcases h5 with ⟨e, h⟩ | ⟨e, DL, e1, e2, m1, m2, h⟩
  · rcases hpair with ⟨_, rfl⟩ | ⟨e', _⟩
    · exact ⟨_, _, h, Nat.le_succ _, .inl ⟨e, rfl⟩⟩
    · rw [e] at e'; cases e'
  · exact ⟨_, _, m2, by simp, .inr ⟨e, DL, e1, rfl, m1, h⟩⟩
theorem mp_off {keep' : List Addr} {news1 : List (Addr × Obj)} {h9 h10 : Heap} {D' : Key → Value} {rows1 rows' : List (Row Key)} {n' : Int} {b' : Bool} (N9 : News h₀ L h9 news) (N10 : News h₀ L h10 nw) (C9 : CV w keep news X.c X.cd X.dd X.mx X.md n X.cap X.thr X.al b D rows) (T9 : LM2 w X news LA WA hs dv kv) (O : OFF2 X KF) (hE9 : (X.hl, W.listOf hv.toArray hep) ∈ news) (hkin : ∀ a ∈ KF, ∃ o, (a, o) ∈ news)
    (C10 : CV w keep' nw X.c X.cd X.dd X.mx X.md n' X.cap X.thr X.al b' D' rows') (hd : 2 ≤ X.dbl) (hkl : KLN nw (rowsK D' rows1)) (sub1 : ∀ q ∈ news, q.1 ≠ X.c → q.1 ≠ X.dd → q ∈ news1) (h : MPV X.dbl X.cap X.al X.f X.hl hv hep D' rows1 rows' news1 nw) : MP2 X KF hv hep D' rows1 rows' nw := by
  rcases h with h | ⟨h1, srows, h2, h3, h4, h5⟩
  · exact .inl h
  · refine .inr ⟨h1, srows, h2, h3, h4, h5.imp id fun ⟨e, DL, e1, e2, m1, m2, lt⟩ => ⟨e, DL, e1, e2, by rw [← rowsK_vals]; exact m1, m2, hkl, ?_, ?_, ?_⟩⟩
    · intro a ha
      obtain ⟨o, ho⟩ := hkin a ha
      have z := O.off _ (List.mem_append_right _ ha)
      exact Nat.ne_of_gt (lt _ (sub1 _ ho z.1 z.2.2.1))
    · obtain ⟨⟨t, tc, q1⟩, q2, ⟨od, q3, qd⟩, q4, ⟨hs', hk, q5⟩, -⟩ := C10
      obtain ⟨⟨t', tc', r1⟩, -, ⟨od', r3, rd⟩, -⟩ := C9
      refine ⟨⟨news_nec N10 m1 q1 (by simp), news_nec N10 m1 q2 (by simp), news_nec N10 m1 q3 (by rw [qd.1.1]; simp), news_nec N10 m1 q4 (by simp), news_nec N10 m1 q5 (by simp), ?_⟩, fun hm => ?_⟩
      · exact Nat.ne_of_gt (lt _ (sub1 _ hE9 (news_nec N9 hE9 r1 (by simp)) (news_nec N9 hE9 r3 (by rw [rd.1.1]; simp))))
      · obtain ⟨o, ho, -⟩ := T9.nt _ hm
        have z := O.off _ (List.mem_append_left _ hm)
        exact absurd (lt _ (sub1 _ ho z.1 z.2.2.1)) (Nat.lt_irrefl _)
    · intro r hr e
      have m3 := (C10.hrows r hr).2
      have e4 := congrArg Prod.snd (news_same N10 m1 m3 e)
      simp only [W.listOf, Obj.mk.injEq, Data.seq.injEq, true_and] at e4
      have e5 := congrArg Array.size e4.1.1
      simp only [List.size_toArray, List.length_map, List.length_cons, List.length_nil] at e5
      omega
/-- after «try: del box[key] ...» -/
def DelP (w : World) (X : FX2) (KF : List Addr) (h₀ : Heap) (L : Addr) (s : Shared) (m : Str → Option Value) (news : List (Addr × Obj)) (n : Int) (D : Key → Value) (rows : List (Row Key)) (key : Key) (told : Str) (fl : Flow) (s' : Shared) : Prop :=
  fl = .next ∧ ∃ h' tk' t news', s' = { s with heap := h', toks := tk' } ∧ Fr h₀ L h' (fun y => if y = Str.ofString "told" then some (.str told t) else m y) ∧ News h₀ L h' news' ∧ CV w (X.keep KF) news' X.c X.cd X.dd X.mx X.md n X.cap X.thr X.al false D (rows.filter fun x => decide (x.key ≠ key)) ∧ (∀ q ∈ news, q.1 ≠ X.dd → q ∈ news')
theorem DelP.mk' {news all : List (Addr × Obj)} {key : Key} {told : Str} {t : Tok} (F : Fr h₀ L h' (fun y => if y = Str.ofString "told" then some (.str told t) else m y)) (N : News h₀ L h' all) (C : CV w (X.keep KF) all X.c X.cd X.dd X.mx X.md n X.cap X.thr X.al false D (rows.filter fun x => decide (x.key ≠ key))) (up : ∀ q ∈ news, q.1 ≠ X.dd → q ∈ all) :
    DelP w X KF h₀ L s m news n D rows key told .next { s with heap := h', toks := tk' } := ⟨rfl, h', tk', t, all, rfl, F, N, C, up⟩
/-- what a reading does to the rows -/
def Read1 (ls : KL) (rows rows' : List (Row Key)) (key : Key) (n : Int) : Prop := (hasK ls key = false ∧ rows' = rows) ∨ (hasK ls key = true ∧ ∃ r ∈ rows, r.key = key ∧ ∃ t, rows' = touch rows r.key (n + 1) t)
/-- after «told = box.get(key, ...)» or «try: told = box[key] ...» -/
def ReadP (w : World) (X : FX2) (KF : List Addr) (h₀ : Heap) (L : Addr) (s : Shared) (m : Str → Option Value) (news : List (Addr × Obj)) (n : Int) (D : Key → Value) (ls : KL) (rows : List (Row Key)) (key : Key) (want : Value) (fl : Flow) (s' : Shared) : Prop :=
  fl = .next ∧ ∃ h' tk' told news' n' rows', s' = { s with heap := h', toks := tk' } ∧ Fr h₀ L h' (fun y => if y = Str.ofString "told" then some told else m y) ∧ News h₀ L h' news' ∧ CV w (X.keep KF) news' X.c X.cd X.dd X.mx X.md n' X.cap X.thr X.al false D rows' ∧ Told told want ∧ Read1 ls rows rows' key n ∧ (∀ q ∈ news, q.1 ≠ X.c → (∀ r ∈ rows, q.1 ≠ r.lst) → q ∈ news')
theorem ReadP.mk' {news all : List (Addr × Obj)} {rows' : List (Row Key)} {n' : Int} {key : Key} {told want : Value} (F : Fr h₀ L h' (fun y => if y = Str.ofString "told" then some told else m y)) (N : News h₀ L h' all) (C : CV w (X.keep KF) all X.c X.cd X.dd X.mx X.md n' X.cap X.thr X.al false D rows') (ht : Told told want) (hr : Read1 ls rows rows' key n) (up : ∀ q ∈ news, q.1 ≠ X.c → (∀ r ∈ rows, q.1 ≠ r.lst) → q ∈ all) :
    ReadP w X KF h₀ L s m news n D ls rows key want .next { s with heap := h', toks := tk' } := ⟨rfl, h', tk', told, all, n', rows', rfl, F, N, C, ht, hr, up⟩
theorem cut_laid {M : Model} {A : Around} {E : Value → Shared → Prop} {t : Sem Flow} {Q : Flow → Shared → Prop} (P : Shared → (Str → Option Value) → Flow → Shared → Prop) (_F : Fr h₀ L s.heap m) (h1 : wpAny M A t (P s m) (fun _ _ => False) s) (h2 : ∀ fl s', P s m fl s' → Q fl s') : wpAny M A t Q E s := wpAny_mono h1 h2 fun _ _ e => e.elim
end
end Mine2
end
section
open PySem PySem.W PySem.SeqAt PyProof.Rows
namespace Mine2
open MineS MineP MineV
/-! what is compared at the law's end -/
def Ans (ls : KL) (rows : List (Row Key)) (k : Key) (v : Value) : Prop := (hasK ls k = true ∧ ∃ r ∈ rows, r.key = k ∧ v = r.val) ∨ (hasK ls k = false ∧ ∃ t, v = .str (Str.ofString "none") t)
def AnsL (ls : KL) (rows : List (Row Key)) (ks : List Key) (ys : List Value) : Prop := ys.length = ks.length ∧ ∀ (i : Nat) k v, ks[i]? = some k → ys[i]? = some v → Ans ls rows k v
section
variable {ls : KL} {rows rows' : List (Row Key)} {ks : List Key} {ys zs : List Value} {k : Key} {u v : Value} {news : List (Addr × Obj)} {KF : List Addr} {hv dv : List Value} {h₀ : Heap} {L l b : Addr} {s : Shared} {A : Around} {e1 e2 : Nat} {prog : Program} {w : World} {E : Value → Shared → Prop}
theorem ansL_nil : AnsL ls rows [] [] := ⟨rfl, fun i _ _ h => by simp at h⟩
theorem ansL_snoc (h : AnsL ls rows ks ys) (hv : Ans ls rows k v) : AnsL ls rows (ks ++ [k]) (ys ++ [v]) := by
  refine ⟨by simp [h.1], fun i k' v' h1 h2 => ?_⟩
  rcases Nat.lt_trichotomy i ks.length with hi | hi | hi
  · rw [List.getElem?_append_left hi] at h1
    rw [List.getElem?_append_left (by rw [h.1]; exact hi)] at h2
    exact h.2 i k' v' h1 h2
  · subst hi
    rw [List.getElem?_append_right (Nat.le_refl _), Nat.sub_self] at h1
    rw [← h.1, List.getElem?_append_right (Nat.le_refl _), Nat.sub_self] at h2
    simp only [List.getElem?_cons_zero, Option.some.injEq] at h1 h2
    rw [← h1, ← h2]; exact hv
  · rw [List.getElem?_eq_none (by simp; omega)] at h1; cases h1
theorem ans_told (hk : (rows.map (·.key)).Nodup) (vok : ∀ r ∈ rows, VOk r.val) (h1 : Ans ls rows k u) (h2 : Ans ls rows k v) : Told u v := by
  rcases h1 with ⟨a, r, hr, e, rfl⟩ | ⟨a, t, rfl⟩ <;> rcases h2 with ⟨a', r', hr', e', rfl⟩ | ⟨a', t', rfl⟩
  · rw [key_inj hk hr hr' (e.trans e'.symm)]; exact (vok r' hr').told
  · rw [a] at a'; cases a'
  · rw [a] at a'; cases a'
  · exact .inr (.inr ⟨_, _, _, rfl, rfl⟩)
theorem told_eqAt (h : Told u v) : EqAt A s u v true := by
  rcases h with ⟨rfl, rfl⟩ | ⟨n, t, t', rfl, rfl⟩ | ⟨x, t, t', rfl, rfl⟩
  · exact EqAt.same _
  · have q := EqAt.int_int (A := A) (s := s) n t n t'; simpa using q
  · have q := EqAt.str_str (A := A) (s := s) x t x t'; simpa using q
theorem ansL_ne {Q : Value → Shared → Prop} (hu : A.units + 1 < cLine) (hl : s.heap.IsList l ys.toArray) (hb : s.heap.IsList b zs.toArray) (hk : (rows.map (·.key)).Nodup) (vok : ∀ r ∈ rows, VOk r.val) (h1 : AnsL ls rows ks ys) (h2 : AnsL ls rows ks zs)
    (h : Q (.bool false) s) : wpAny (model prog w) A (compareOp .NotEq (.ref l) (.ref b)) Q E s := by
  refine RcNeAt.lists (e := fun _ => true) hl hb (by simp [h1.1, h2.1]) (by omega) (fun j g1 g2 => ?_) prog w E Q ?_
  · have g1' : j < ys.length := by simpa using g1
    have g2' : j < zs.length := by simpa using g2
    have gk : j < ks.length := h1.1 ▸ g1'
    have q := told_eqAt (A := A.in1) (s := s) (ans_told hk vok (h1.2 j _ _ (List.getElem?_eq_getElem gk) (List.getElem?_eq_getElem g1')) (h2.2 j _ _ (List.getElem?_eq_getElem gk) (List.getElem?_eq_getElem g2')))
    simpa using q
  · have e : (List.range ys.toArray.size).all (fun _ => true) = true := by simp
    rw [e]; exact h
theorem pairs_at : ∀ {hv dv : List Value}, PairsL news KF hv dv → hv.length = dv.length ∧ ∀ (j : Nat) a b, hv[j]? = some a → dv[j]? = some b → ∃ (x y : Addr) (ls ls' : KL) (e e' : Nat), a = .ref x ∧ b = .ref y ∧ x ≠ y ∧ (x, W.listOf (kvals ls).toArray e) ∈ news ∧ (y, W.listOf (kvals ls').toArray e') ∈ news ∧ KLN news ls ∧ KLN news ls' ∧ kkeys ls = kkeys ls'
  | [], [], _ => ⟨rfl, fun j _ _ h => by simp at h⟩
  | [], _ :: _, h => (show False from h).elim
  | _ :: _, [], h => (show False from h).elim
  | a :: r, b :: q, ⟨⟨x, y, ls, ls', e, e', ea, eb, hne, _, _, hx, hy, nx, ny, hk⟩, h⟩ => by
    obtain ⟨i1, i2⟩ := pairs_at h
    refine ⟨by simp [i1], fun j a' b' h1 h2 => ?_⟩
    cases j with
    | zero =>
      simp only [List.getElem?_cons_zero, Option.some.injEq] at h1 h2
      exact ⟨x, y, ls, ls', e, e', h1 ▸ ea, h2 ▸ eb, hne, hx, hy, nx, ny, hk⟩
    | succ j => exact i2 j a' b' (by simpa using h1) (by simpa using h2)
theorem pairs_eq {Q : Value → Shared → Prop} (hu : A.units + 2 < cLine) (N : News h₀ L s.heap news) (hl : s.heap.IsList l hv.toArray) (hb : s.heap.IsList b dv.toArray) (P : PairsL news KF hv dv)
    (h : Q (.bool true) s) : wpAny (model prog w) A (compareOp .Eq (.ref l) (.ref b)) Q E s := by
  obtain ⟨i1, i2⟩ := pairs_at P
  show wpAny _ _ (richCompare .Eq _ _) _ _ _
  have q : RcAt A s (.ref l) (.ref b) ((List.range hv.toArray.size).all fun _ => true) := RcAt.lists (e := fun _ => true) hl hb (by simp [i1]) (by omega) fun j g1 g2 => by
    have g1' : j < hv.length := by simpa using g1
    have g2' : j < dv.length := by simpa using g2
    obtain ⟨x, y, ls, ls', e, e', ea, eb, hne, hx, hy, nx, ny, hk⟩ := i2 j _ _ (List.getElem?_eq_getElem g1') (List.getElem?_eq_getElem g2')
    have z := EqAt.of_refs hne (kl_rcAt (A := A.in1) (by show A.units + 1 + 1 < cLine; omega) N hx hy nx ny hk)
    rw [← ea, ← eb] at z
    simpa using z
  have e : (List.range hv.toArray.size).all (fun _ => true) = true := by simp
  rw [e] at q
  exact q prog w E Q h
theorem ans_of_kv (h : rows'.map (fun r => (r.key, r.val)) = rows.map fun r => (r.key, r.val)) {r : Row Key} (hr : r ∈ rows') : ∃ x ∈ rows, x.key = r.key ∧ x.val = r.val := by
  have hm : (r.key, r.val) ∈ rows.map fun r => (r.key, r.val) := h ▸ List.mem_map.mpr ⟨r, hr, rfl⟩
  obtain ⟨x, hx, e⟩ := List.mem_map.mp hm
  exact ⟨x, hx, congrArg Prod.fst e, congrArg Prod.snd e⟩
theorem touch_kv {k : Key} {n : Int} {t : Tok} : (touch rows k n t).map (fun r => (r.key, r.val)) = rows.map fun r => (r.key, r.val) := by
  unfold touch
  rw [List.map_map]
  refine List.map_congr_left fun x _ => ?_
  simp only [Function.comp]
  split <;> rfl
theorem kv_keys (h : rows'.map (fun r => (r.key, r.val)) = rows.map fun r => (r.key, r.val)) : rows'.map (·.key) = rows.map (·.key) := by
  have e := congrArg (List.map Prod.fst) h
  rw [List.map_map, List.map_map] at e
  exact e
theorem off3_ofK {I C D : Addr} : ∀ {l : List (Addr × Obj)}, (∀ p ∈ l, p.1 ≠ I ∧ p.1 ≠ C ∧ p.1 ≠ D) → LCg.Off3 I C D l
  | [], _ => trivial
  | _ :: _, h => ⟨h _ (.head _), off3_ofK fun p hp => h p (.tail _ hp)⟩
end
end Mine2
end
section
open PySem PySem.W PyProof.Rows
namespace Mine2
open MineS MineP MineV
set_option maxRecDepth 100000
set_option maxHeartbeats 8000000
/-- after the box is made -/
def BoxP (w : World) (h₀ : Heap) (L : Addr) (s : Shared) (room : Int) (al : Value) (hl bk : Addr) (mF : Str → Option Value) (B1 B2 : List (Addr × Obj)) (fl : Flow) (s' : Shared) : Prop :=
  fl = .next ∧ ∃ (h' : Heap) (tk' : Nat) (c cd dd mx md : Addr) (od ob : Obj) (t tc tkd hk : Tok) (thr : Value) (dbl hs : Int) (PM PA : Value → Prop), s' = { s with heap := h', toks := tk' } ∧ Fr h₀ L h' (fun y => if y = Str.ofString "double" then some (.int dbl tkd) else mF y) ∧
    News h₀ L h' ((dd, od) :: (mx, lockObj md) :: (md, heldDict hs hk false) :: (c, cacheObj cd dd mx 0 t (.int room tc) al thr) :: (cd, dictOf [] 0) :: (B1 ++ (bk, ob) :: B2)) ∧ ob.data = .cell (some (.ref c)) ∧ IsV w od [] ∧ (dd == sysModules) = false ∧
    ThrOK PySem.Challenge.rw_eu0033_02.row.prog w room thr dbl PM PA ∧ 2 * room ≤ dbl ∧ dbl ≤ 16 ∧ cd ≠ dd ∧ md ≠ dd ∧ md ≠ cd ∧
    ∃ top : Nat, (∀ q ∈ B1 ++ (bk, ob) :: B2, @LT.lt Nat _ q.1 top) ∧ @LE.le Nat _ top c ∧ @LE.le Nat _ top cd ∧ @LE.le Nat _ top dd ∧ @LE.le Nat _ top mx ∧ @LE.le Nat _ top md
theorem isv_nil {prog : Program} {w w' : World} {K : Type} [DecidableEq K] {knd : PySem.KeyKind prog w K} {o : Obj} (h : o.IsDictOf knd []) : IsV w' o [] := by
  obtain ⟨es, ep, hx, hd, _, hp, _⟩ := h
  refine ⟨hx, es, ep, hd, ?_, .nil⟩
  generalize es.toList = l at hp
  cases hp; rfl
theorem box_mk {w : World} {h₀ h' : Heap} {L : Addr} {s : Shared} {room : Int} {al : Value} {hl bk D0 : Addr} {o0 : Obj} {mF : Str → Option Value} {B1 B2 : List (Addr × Obj)} {c cd dd mx md : Addr} {od ob : Obj} {t tc tkd hk : Tok} {thr : Value} {dbl hs : Int} {PM PA : Value → Prop} {tk' : Nat}
    (F : Fr h₀ L h' (fun y => if y = Str.ofString "double" then some (.int dbl tkd) else mF y))
    (N : News h₀ L h' ((D0, o0) :: (dd, od) :: (mx, lockObj md) :: (md, heldDict hs hk false) :: (c, cacheObj cd dd mx 0 t (.int room tc) al thr) :: (cd, dictOf [] 0) :: (B1 ++ (bk, ob) :: B2))) (hob : ob.data = .cell (some (.ref c)))
    {prog : Program} {K : Type} [DecidableEq K] {knd : PySem.KeyKind prog w K} (hod : od.IsDictOf knd []) (lo : (dd == sysModules) = false) (T : ThrOK PySem.Challenge.rw_eu0033_02.row.prog w room thr dbl PM PA) (h1 : 2 * room ≤ dbl) (h2 : dbl ≤ 16) (n1 : cd ≠ dd) (n2 : md ≠ dd) (n3 : md ≠ cd)
    (top : Nat) (hB : ∀ q ∈ B1 ++ (bk, ob) :: B2, @LT.lt Nat _ q.1 top) (hc : @LE.le Nat _ top c ∧ @LE.le Nat _ top cd ∧ @LE.le Nat _ top dd ∧ @LE.le Nat _ top mx ∧ @LE.le Nat _ top md) :
    BoxP w h₀ L s room al hl bk mF B1 B2 .next { s with heap := h', toks := tk' } :=
  ⟨rfl, h', tk', c, cd, dd, mx, md, od, ob, t, tc, tkd, hk, thr, dbl, hs, PM, PA, rfl, F, fun q hq => N q (.tail _ hq), hob, isv_nil hod, lo, T, h1, h2, n1, n2, n3, top, hB, hc⟩
theorem shapeY {h₀ h : Heap} {L : Addr} {p1 p2 p3 p4 p5 p6 p7 p8 p10 : Addr × Obj} {a1 : Addr} {o1 : Obj} (_N : News h₀ L h [p1, p2, p3, p4, p5, p6, p7, p8, (a1, o1), p10]) : ∃ (B1 B2 : List (Addr × Obj)) (bk : Addr), B1 = [p1, p2, p3, p4, p5, p6, p7, p8] ∧ B2 = [p10] ∧ bk = a1 := ⟨_, _, _, rfl, rfl, rfl⟩
theorem nameF {h₀ h : Heap} {L : Addr} {m : Str → Option Value} (F : Fr h₀ L h m) : ∃ mF, mF = m ∧ Fr h₀ L h mF := ⟨_, rfl, F⟩
theorem shapeX {h₀ h : Heap} {L : Addr} {f fc hl a1 a2 a3 a4 a5 a6 a7 : Addr} {o1 o2 o3 p1 p2 p3 p4 p5 p6 p7 : Obj} (_N : News h₀ L h [(f, o1), (fc, o2), (hl, o3), (a1, p1), (a2, p2), (a3, p3), (a4, p4), (a5, p5), (a6, p6), (a7, p7)]) :
    ∃ (f' fc' hl' : Addr) (XI : List (Addr × Obj)), f' = f ∧ fc' = fc ∧ hl' = hl ∧ XI = [(f', o1), (fc', o2), (a1, p1)] := ⟨_, _, _, _, rfl, rfl, rfl, rfl⟩
theorem memN2 {g : Heap} {L2 : Addr} {h' : Heap} {news' : List (Addr × Obj)} (_N : News g L2 h' news') {q : Addr × Obj} (h : q ∈ news') : q ∈ news' := h
theorem cut_if {M : Model} {A : Around} {t : Sem Flow} {Q : Flow → Shared → Prop} {E : Value → Shared → Prop} {s : Shared} (P : Flow → Shared → Prop) (h1 : wpAny M A t P (fun _ _ => False) s) (h2 : ∀ fl s', P fl s' → Q fl s') : wpAny M A t Q E s := wpAny_mono h1 h2 fun _ _ e => e.elim
theorem join_int {M : Model} {A : Around} {E : Value → Shared → Prop} {s : Shared} {t : Sem Value} {Q : Value → Shared → Prop} (h1 : wpAny M A t (fun v s' => (∃ tk, s' = { s with toks := tk }) ∧ ∃ x u, v = .int x u) (fun _ _ => False) s)
    (h2 : ∀ x u tk, Q (.int x u) { s with toks := tk }) : wpAny M A t Q E s := wpAny_mono h1 (fun v s' ⟨⟨tk, e⟩, x, u, hv⟩ => by subst e hv; exact h2 x u tk) fun _ _ e => e.elim
theorem join_al {M : Model} {A : Around} {E : Value → Shared → Prop} {s : Shared} {t : Sem Value} {Q : Value → Shared → Prop} {f : Addr} (h1 : wpAny M A t (fun v s' => (∃ tk, s' = { s with toks := tk }) ∧ (v = .none ∨ v = .ref f)) (fun _ _ => False) s)
    (h2 : ∀ al tk, (al = .none ∨ al = .ref f) → Q al { s with toks := tk }) : wpAny M A t Q E s := wpAny_mono h1 (fun v s' ⟨⟨tk, e⟩, ha⟩ => e ▸ h2 v tk ha) fun _ _ e => e.elim
theorem shapeL {h₀ h : Heap} {L : Addr} {a1 a2 a3 a4 a5 a6 : Addr} {o1 o2 o3 o4 o5 o6 : Obj} {R : List (Addr × Obj)} (_N : News h₀ L h ((a1, o1) :: (a2, o2) :: (a3, o3) :: (a4, o4) :: (a5, o5) :: (a6, o6) :: R)) :
    ∃ SC DU HD LA WA : Addr, SC = a1 ∧ DU = a3 ∧ HD = a4 ∧ LA = a5 ∧ WA = a6 := ⟨_, _, _, _, _, rfl, rfl, rfl, rfl, rfl⟩
theorem shapeF {h₀ h : Heap} {L : Addr} {SC DU HD LA WA dd mx md c cd f fc hl k6 k5 k4 k3 k2 k1 : Addr} {p1 p2 p3 p4 p5 p6 p7 p8 p9 p10 p11 p12 p13 p14 p15 p16 p17 p18 p19 p20 : Obj} {p21 : Addr × Obj} {XI : List (Addr × Obj)} {a2 : Addr}
    (_N : News h₀ L h [(SC, p1), (a2, p2), (DU, p3), (HD, p4), (LA, p5), (WA, p6), (dd, p7), (mx, p8), (md, p9), (c, p10), (cd, p11), (f, p12), (fc, p13), (hl, p14), (k6, p15), (k5, p16), (k4, p17), (k3, p18), (k2, p19), (k1, p20), p21]) (e : XI = [(f, p12), (fc, p13), (k6, p15)]) :
    ∃ fix, fix = XI ++ [(SC, p1), (k1, p20), (k4, p17), p21] := ⟨_, rfl⟩
theorem off_top {z top : Nat} {hl f fc c cd dd mx md WA LA HD DU SC : Addr} {room dbl : Int} {thr al : Value} (a0 : @LT.lt Nat _ 202 (z + 1)) (a1 : @LT.lt Nat _ (z + 1 + 1 + 1 + 1 + 1 + 1) hl) (a2 : @LT.lt Nat _ hl fc) (a3 : @LT.lt Nat _ fc f) (a4 : @LT.lt Nat _ f top) (b1 : @LE.le Nat _ top c) (b2 : @LE.le Nat _ top cd) (b3 : @LE.le Nat _ top dd) (b4 : @LE.le Nat _ top mx) (b5 : @LE.le Nat _ top md)
    (c1 : @LT.lt Nat _ c WA) (c2 : @LT.lt Nat _ cd WA) (c3 : @LT.lt Nat _ dd WA) (c4 : @LT.lt Nat _ mx WA) (c5 : @LT.lt Nat _ md WA) (c6 : @LT.lt Nat _ WA LA) (c7 : @LT.lt Nat _ LA HD) (c8 : @LT.lt Nat _ HD DU) (c9 : @LT.lt Nat _ DU SC) :
    OFF2 ⟨hl, HD, DU, z + 1 + 1, z + 1 + 1 + 1, z + 1 + 1 + 1 + 1 + 1, c, cd, dd, mx, md, f, room, dbl, thr, al⟩ [LA, WA, f, fc, z + 1 + 1 + 1 + 1 + 1 + 1, SC, z + 1, z + 1 + 1 + 1 + 1, 202] := by
  refine ⟨?_, ?_⟩
  · simp only [FX2.mut, List.cons_append, List.nil_append, List.forall_mem_cons]
    repeat' (first | exact (fun _ h => nomatch h) | trivial | apply And.intro)
    all_goals (refine neN ?_; omega)
  · simp only [FX2.mut, List.forall_mem_cons]
    simp only [List.mem_cons, List.mem_nil_iff, or_false, not_or]
    repeat' (first | exact (fun _ h => nomatch h) | trivial | apply And.intro)
    all_goals (refine neN ?_; omega)
theorem offI {h₀ h : Heap} {L : Addr} {SC DU HD LA WA dd mx md c cd f fc hl k6 k5 k4 k3 k2 k1 : Addr} {p1 p2 p3 p4 p5 p6 p7 p8 p9 p10 p11 p12 p13 p14 p15 p16 p17 p18 p19 p20 : Obj} {p21 : Addr × Obj} {XI fix : List (Addr × Obj)} {a2 I : Addr} {X : FX2} {room dbl : Int} {thr al : Value}
    (_N : News h₀ L h [(SC, p1), (a2, p2), (DU, p3), (HD, p4), (LA, p5), (WA, p6), (dd, p7), (mx, p8), (md, p9), (c, p10), (cd, p11), (f, p12), (fc, p13), (hl, p14), (k6, p15), (k5, p16), (k4, p17), (k3, p18), (k2, p19), (k1, p20), p21])
    (hX : X = ⟨hl, HD, DU, k2, k3, k5, c, cd, dd, mx, md, f, room, dbl, thr, al⟩) (hfix : fix = XI ++ [(SC, p1), (k1, p20), (k4, p17), p21]) (e : XI = [(f, p12), (fc, p13), (k6, p15)])
    (hI : ∀ p ∈ [(SC, p1), (a2, p2), (DU, p3), (HD, p4), (LA, p5), (WA, p6), (dd, p7), (mx, p8), (md, p9), (c, p10), (cd, p11), (f, p12), (fc, p13), (hl, p14), (k6, p15), (k5, p16), (k4, p17), (k3, p18), (k2, p19), (k1, p20), p21], p.1 < I) :
    (OffX X (I + 1) ∧ OffX X I) ∧ ∀ q ∈ fix, q.1 ≠ I + 1 ∧ q.1 ≠ I := by
  subst hX hfix e
  simp only [List.forall_mem_cons] at hI
  obtain ⟨i1, i2, i3, i4, i5, i6, i7, i8, i9, i10, i11, i12, i13, i14, i15, i16, i17, i18, i19, i20, i21, -⟩ := hI
  have gt : ∀ {a : Addr}, a < I → a ≠ I := fun h => Nat.ne_of_lt h
  have gt1 : ∀ {a : Addr}, a < I → a ≠ I + 1 := fun h => Nat.ne_of_lt (Nat.lt_succ_of_lt h)
  refine ⟨⟨⟨⟨(gt1 i10).symm, (gt1 i11).symm, (gt1 i7).symm, (gt1 i8).symm, (gt1 i9).symm, (gt1 i14).symm⟩, ?_⟩, ⟨(gt i10).symm, (gt i11).symm, (gt i7).symm, (gt i8).symm, (gt i9).symm, (gt i14).symm⟩, ?_⟩, ?_⟩
  · simp only [FX2.mut, List.mem_cons, List.mem_nil_iff, or_false, not_or]
    exact ⟨(gt1 i19).symm, (gt1 i18).symm, (gt1 i16).symm, (gt1 i4).symm, (gt1 i3).symm⟩
  · simp only [FX2.mut, List.mem_cons, List.mem_nil_iff, or_false, not_or]
    exact ⟨(gt i19).symm, (gt i18).symm, (gt i16).symm, (gt i4).symm, (gt i3).symm⟩
  · simp only [List.cons_append, List.nil_append, List.forall_mem_cons]
    exact ⟨⟨gt1 i12, gt i12⟩, ⟨gt1 i13, gt i13⟩, ⟨gt1 i15, gt i15⟩, ⟨gt1 i1, gt i1⟩, ⟨gt1 i20, gt i20⟩, ⟨gt1 i17, gt i17⟩, ⟨gt1 i21, gt i21⟩, fun _ h => nomatch h⟩
theorem mem4x {XI fix : List (Addr × Obj)} {q1 q2 q3 q4 : Addr × Obj} (e : fix = XI ++ [q1, q2, q3, q4]) : q1 ∈ fix ∧ q2 ∈ fix ∧ q3 ∈ fix ∧ q4 ∈ fix := by subst e; simp
theorem mem3x {XI fix : List (Addr × Obj)} {q1 q2 q3 q4 p1 p2 p3 : Addr × Obj} (e : fix = XI ++ [q1, q2, q3, q4]) (e2 : XI = [p1, p2, p3]) : p1 ∈ fix ∧ p2 ∈ fix ∧ p3 ∈ fix := by subst e e2; simp
theorem kcell {h₀ h : Heap} {L a : Addr} {nw : List (Addr × Obj)} (_N : News h₀ L h nw) (x : ∃ kv o, (a, o) ∈ nw ∧ o.data = .cell kv) : ∃ kv o, (a, o) ∈ nw ∧ o.data = .cell kv := x
theorem ints_at : ∀ {vs : List Value} {ns : List Int}, IntsAre vs ns → ∀ {i : Nat} {v : Value}, vs[i]? = some v → ∃ n t, v = .int n t
  | _, _, .nil, _, _, h => by simp at h
  | _, _, .cons n t r, 0, v, h => ⟨n, t, by simpa using h.symm⟩
  | _, _, .cons n t r, i + 1, v, h => ints_at r (by simpa using h)
theorem news_app {h₀ h : Heap} {L : Addr} {news : List (Addr × Obj)} {p q : Addr × Obj} (N : News h₀ L h news) (hp : p ∈ news) (hq : q ∈ news) (xs : List Addr) : News h₀ L h ([p, q] ++ wo xs news) := news_cons N hp (news_cons N hq (news_mono N fun _ h => wo_sub h))
theorem turn_end {w : World} {X : FX2} {fix news all : List (Addr × Obj)} {KF : List Addr} {LA WA : Addr} {ls ws : KL} {hs : List Ent} {hv dv : List Value} {kv : Option Value} {h₀ h' : Heap} {L : Addr} {tr td : Tok} {mR m : Str → Option Value} {k tk' : Nat} {n : Int} {D : Key → Value} {rows : List (Row Key)} {o1 o2 o3 o4 o5 o6 : Option Value} {hep : Nat} {a b : Addr} {oa ob : Obj} {s₁ : Shared} {q : Addr × Obj}
    (F : Fr h₀ L h' m) (N : News h₀ L h' all) (J : LJ2 w X ((a, oa) :: (b, ob) :: fix) KF tr td mR k m news LA WA ls ws hs hv dv n D rows kv o1 o2 o3 o4 o5 o6 hep) (sub : ∀ q ∈ news, q ∈ all) (ca : oa.cls = .type "enumerate") (cb : ob.cls = .type "list_iterator") (hfx : ∀ q ∈ fix, q.1 ≠ a ∧ q.1 ≠ b) (hq : q ∈ fix) :
    UnrEndW h₀ L s₁ [(a, oa), (b, ob)] (fun m' n' => SubL [q] n' ∧ ∃ KF LA WA ls ws hs hv dv nn D rows kv o1 o2 o3 o4 o5 o6 hep, LJ2 w X fix KF tr td mR k m' n' LA WA ls ws hs hv dv nn D rows kv o1 o2 o3 o4 o5 o6 hep) { s₁ with heap := h', toks := tk' } := by
  have J1 : LJ2 w X ((a, oa) :: (b, ob) :: fix) KF tr td mR k m all LA WA ls ws hs hv dv n D rows kv o1 o2 o3 o4 o5 o6 hep := { J with C := J.C.mono sub, B := J.B.stay (Stay.sub sub), T := J.T.mono fun q hq _ => sub q hq, hE := sub _ J.hE }
  have J2 := LJ2.closed N J1 ca cb hfx
  refine ⟨h', tk', m, wo [a, b] all, rfl, F, fun p hp => ?_, fun p hp r hr e => ?_, ⟨J2.B.hfix _ hq, trivial⟩, _, _, _, _, _, _, _, _, _, _, _, _, _, _, _, _, _, _, _, J2⟩
  · rcases List.mem_append.mp hp with hp | hp
    · simp only [List.mem_cons, List.not_mem_nil, or_false] at hp
      rcases hp with rfl | rfl
      · exact N _ (J1.B.hfix _ (.head _))
      · exact N _ (J1.B.hfix _ (.tail _ (.head _)))
    · exact N _ (wo_sub hp)
  · have := wo_not hp
    simp only [List.mem_cons, List.not_mem_nil, or_false, not_or] at this hr
    rcases hr with rfl | rfl
    · exact this.1 e
    · exact this.2 e
end Mine2
end
section
open PySem PySem.W PyProof.Rows
namespace Mine2
open MineS MineP MineV
set_option maxRecDepth 100000
set_option maxHeartbeats 8000000
local macro_rules | `(tactic| k_all) => `(tactic| first | assumption)
local macro_rules | `(tactic| k_room) => `(tactic| ((try simp only [depth_under_make, depth_under_kw, depth_in1, depth_deeper, depth_caller]); show _ < 1000; omega))
local macro_rules | `(tactic| k_ne) => `(tactic| (refine neN ?_; (try dsimp only); first | assumption | (apply Ne.symm; assumption)))
local macro_rules | `(tactic| walk_at "exec For") => `(tactic| (refine stop ?_))
local macro_rules | `(tactic| walk_at "exec For Tuple Call") => `(tactic| (refine stop ?_))
local macro_rules | `(tactic| walk_at "exec If") => `(tactic| ((fail_if_success (with_reducible rename PassIf => pm)); refine stop ?_))
local macro_rules | `(tactic| walk_at "eval IfExp") => `(tactic| (refine stop ?_))
local macro_rules | `(tactic| walk_at "setItem ref") => `(tactic| ((fail_if_success (with_reducible rename PassSub => pm)); refine stop ?_))
local macro_rules | `(tactic| walk_at "subscriptTail") => `(tactic| ((fail_if_success (with_reducible rename PassSub => pm)); refine stop ?_))
local macro_rules | `(tactic| walk_at "subscriptTail Name Slice ref ref") => `(tactic| ((fail_if_success (with_reducible rename PassSub => pm)); refine stop ?_))
local macro_rules | `(tactic| walk_at "call ref") => `(tactic| ((with_reducible show wpAny _ _ (call (Value.ref 200) _) _ _ _); refine stop ?_))
local macro_rules | `(tactic| walk_at "call ref") => `(tactic| ((fail_if_success (with_reducible rename PassCall => pm)); (with_reducible show wpAny _ _ (call (Value.ref 131) _) _ _ _); refine stop ?_))
local macro_rules | `(tactic| walk_at "call ref") => `(tactic| ((fail_if_success (with_reducible rename PassCall => pm)); (with_reducible show wpAny _ _ (call (Value.ref 138) _) _ _ _); refine stop ?_))
local macro_rules | `(tactic| walk_at "call ref") => `(tactic| ((fail_if_success (with_reducible rename PassCall => pm)); (with_reducible show wpAny _ _ (call (Value.ref 159) _) _ _ _); refine stop ?_))
local macro_rules | `(tactic| walk_at "call ref") => `(tactic| ((fail_if_success (with_reducible rename PassCall => pm)); (with_reducible show wpAny _ _ (call (Value.ref 166) _) _ _ _); refine stop ?_))
local macro_rules | `(tactic| walk_at "delItem ref") => `(tactic| (k_dflt (refine' delItem_own ?k1 ?k2 ?k3 ?k4 ?k5 ?k6 ?_; (case k1 => k_asm); (case k2 => k_asm); (case k3 => k_inst); (case k4 => k_is); (case k5 => k_is); (case k6 => k_is); k_whole)))
local macro_rules | `(tactic| walk_at "subscriptTail") => `(tactic| ((with_reducible rename PassCall => pm); k_dflt (refine v_item_missingT (by units_room) (by k_asm) (by k_mem) (by k_asm) (by k_asm) (by k_asm) (by k_asm) (by rfl) (by assumption) ?_); intro h' e' x'))
local macro_rules | `(tactic| walk_at "delItem ref") => `(tactic| ((with_reducible rename PassCall => pm); k_dflt (refine v_del_missing (by units_room) (by k_asm) (by k_mem) (by k_asm) (by k_asm) (by k_asm) (by k_asm) (by rfl) (by omega) (by assumption) ?_); intro h' e' x'))
local macro_rules | `(tactic| walk_at "compareOp NotEq") => `(tactic| (refine stop ?_))
local macro_rules | `(tactic| walk_at "compareOp NotEq ref ref") => `(tactic| (refine stop ?_))
local macro_rules | `(tactic| walk_at "compareOp Eq ref ref") => `(tactic| ((with_reducible rename PassTail => pt); refine stop ?_))
local macro_rules | `(tactic| walk_at "compareOp In") => `(tactic| (refine stop ?_))
local macro_rules | `(tactic| walk_at "compareOp NotIn") => `(tactic| (refine stop ?_))
local macro_rules | `(tactic| walk_at "call type:list") => `(tactic| (refine stop ?_))
local macro_rules | `(tactic| walk_at "call builtin:len") => `(tactic| (refine stop ?_))
local macro_rules | `(tactic| walk_at "exec Assign cons ListComp") => `(tactic| (with_reducible refine wpAny_Assign_Name ?_ ?_; rotate_left; with_unfolding_all rfl))
local macro_rules | `(tactic| walk_at "eval ListComp") => `(tactic| ((with_reducible show wpAny _ _ (eval (Expr.ListComp _ [⟨_, _, [_], _⟩] _ _) _) _ _ _); k_dflt (refine LCt.ListComp_T (F₀ := by k_asm) (by with_unfolding_all rfl) (by decide) (by rfl) (by decide) (by rfl) ?_)))
local macro_rules | `(tactic| walk_at "eval ListComp") => `(tactic| ((with_reducible show wpAny _ _ (eval (Expr.ListComp _ [⟨_, _, [], _⟩] _ _) _) _ _ _); k_dflt (refine LCg.ListComp_U (F₀ := by k_asm) (by with_unfolding_all rfl) (by decide) (by rfl) (by decide) (by rfl) ?_)))
local macro_rules | `(tactic| walk_at "CompSrcT") => `(tactic| (refine stop ?_))
local macro_rules | `(tactic| walk_at "CompSrc") => `(tactic| (refine stop ?_))
local macro_rules | `(tactic| walk_at "binaryOp Add ref ref") => `(tactic| (refine stop ?_))
local macro_rules | `(tactic| walk_at "exec Try") => `(tactic| ((with_reducible rename PassIf => pm); refine wpAny_Try_except ?_))
local macro_rules | `(tactic| walk_at "exec Try") => `(tactic| ((fail_if_success (with_reducible rename PassIf => pm)); refine stop ?_))
local macro_rules | `(tactic| walk_at "noteFrame ref") => `(tactic| ((with_reducible rename RaisedN _ _ _ _ _ _ => rkX); (refine' caught_key ?f ?g ?b ?K ?F ?U ?R ?T ?X ?ex ?_; (case f => exact rfl); (case g => exact rfl); (case b => exact rfl); (case R => assumption); (case K => assumption); (case F => assumption); (case U => assumption); (case T => assumption); (case X => assumption); (case ex => k_is)); intro h' F' N'; (try k_sweep)))
local macro_rules | `(tactic| walk_at "CompEnd") => `(tactic| ((with_reducible rename PassTail => pt); refine stop ?_))
local macro_rules | `(tactic| walk_at "UnrEndW") => `(tactic| (refine stop ?_))
set_option maxHeartbeats 80000000 in
theorem law : PySem.Challenge.rw_eu0033_02.Holds := hd (by
  k_go0
  (all_goals try k_fold)
  have ps : PassSub := trivial
  k_steps
  unfold Stop
  refine join_int ?_ fun hx hxt htk => ?_
  · with_reducible refine IfExp_ ?_
    k_steps
  · k_steps
    unfold Stop
    with_reducible rename News _ _ _ _ => N9
    rename World => w
    rename Shared => s1
    obtain ⟨f, fc, hl, XI, e1, e2, e3, hXI⟩ := shapeX N9
    subst e1 e2 e3
    with_reducible rename _ = Data.cell (some (Value.ref hl)) => dh
    with_reducible rename _ = Data.fields _ => d1'
    have hal : ∀ (c cd dd mx md : Addr) (cap : Int) (thr : Value) (keep : List Addr), AlertV w keep f c cd dd mx md hl cap thr XI := by
      intro c cd dd mx md cap thr keep
      subst hXI
      with_reducible rename Fr _ _ _ _ => F9
      clear F9 N9
      unfold AlertV
      intro A₀ d u gs nm mo gl cl ql fn co bi outer base h₀ L s m mg mb mean loose p news Q E n D rows vs ep hdp hu B X T F N C hl50 hh hvl hX K
      simp only [List.forall_mem_cons, List.forall_mem_nil, and_true] at hX
      obtain ⟨x1, x2, x3, -⟩ := hX
      obtain ⟨⟨t, tc, h1⟩, h2, -⟩ := id C
      have g1 : f ≠ hl := news_nec N x1 hh (by simp)
      have g2 : fc ≠ hl := news_ne N x2 hh (fun e => by rw [e] at d1'; cases d1')
      have g3 := news_ne N x3 hh (fun e => by rw [e] at dh; cases dh)
      have g5 : c ≠ hl := news_nec N h1 hh (by simp)
      have g6 : cd ≠ hl := news_nec N h2 hh (by simp)
      have hR1 : ∀ q ∈ wo [hl] news, q.1 ≠ hl := wo_ne (by simp)
      have N1 := news_cons N x1 (news_cons N x2 (news_cons N x3 (news_cons N hh (news_cons N h1 (news_cons N h2 (news_mono (news' := wo [hl] news) N fun _ h => wo_sub h))))))
      k_steps
      unfold Stop
      with_reducible rename News _ _ _ _ => N8
      have hsup : ∀ q ∈ news, q ∈ _ := fun q hq => memN2 N8 (by
        by_cases e : q.1 = hl
        · have := news_same N hh hq e; rw [this]; k_mem
        · have := wo_mem (xs := [hl]) hq (by simpa using e)
          repeat (first | exact this | apply List.Mem.tail))
      k_dflt (refine' list_v ?k1Xa ?k2Xa ?k3Xa ?k4Xa ?k5Xa ?k6Xa (C.mono hsup) ?_)
      case k1Xa => (try simp only [depth_deeper]); omega
      case k2Xa => k_asm
      case k3Xa => k_asm
      case k4Xa => k_asm
      case k5Xa => k_asm
      case k6Xa => k_asm
      k_whole
      intro DL h6 tk6 e6 F6 N6 hDL
      have hD1 : hl ≠ DL := Nat.ne_of_lt (hDL (hl, _) (by k_mem))
      have hDn : ∀ q ∈ news, q.1 < DL := fun q hq => hDL q (hsup q hq)
      clear hsup N8
      k_steps
      with_reducible rename News h₀ L _ _ => N9
      with_reducible rename Fr h₀ L _ _ => F9
      simp only [List.push_toArray] at N9
      exact K _ _ DL e6 _ F9 (news_cons N9 (.head _) (news_cons N9 (by k_mem) (news_mono N9 fun q hq => by simp [hq]))) hDn
    refine join_al (f := f) ?_ fun al tka hjoin => ?_
    · with_reducible refine IfExp_ ?_
      k_steps
      all_goals (first | exact .inl rfl | exact .inr rfl)
    · k_steps
      unfold Stop
      have hr1 : 1 ≤ 1 + hx.fmod 4 := by have := Int.fmod_nonneg_of_pos hx (b := 4) (by decide); omega
      have hr4 : 1 + hx.fmod 4 ≤ 4 := by have := Int.fmod_lt_of_pos hx (b := 4) (by decide); omega
      generalize 1 + hx.fmod 4 = room at *
      generalize (hx.fdiv 4).fmod 3 = kind at *
      with_reducible rename Fr _ _ _ _ => F9
      with_reducible rename News _ _ _ _ => N9
      obtain ⟨B1, B2, bk, hB1, hB2, hbk⟩ := shapeY N9
      obtain ⟨mF, hmF, F10⟩ := nameF F9
      refine cut_if (BoxP w (ghostOf s1.heap [(204, 202)]) s1.heap.objs.size s1 room al hl bk mF B1 B2) ?walkIfXa ?restIfXa
      case walkIfXa =>
        subst hmF
        clear F10
        have pm : PassIf := trivial
        k_steps
        all_goals (
          with_reducible rename Fr _ _ _ _ => F11
          with_reducible rename News _ _ _ _ => N11
          with_reducible rename Obj.IsDictOf (PySem.strKind _ _) _ [] => hsd
          subst hB1 hB2 hbk)
        · refine box_mk F11 N11 (by assumption) hsd (by assumption) (thr_half hr1 hr4) (by omega) (by omega) (by refine neN ?_; omega) (by refine neN ?_; omega) (by refine neN ?_; omega) (f + 1) (by simp only [List.cons_append, List.nil_append, List.forall_mem_cons]; refine ⟨?_, ?_, ?_, ?_, ?_, ?_, ?_, ?_, ?_, ?_, fun _ h => nomatch h⟩ <;> (try dsimp only) <;> omega) (by refine ⟨?_, ?_, ?_, ?_, ?_⟩ <;> omega)
        · refine box_mk F11 N11 (by assumption) hsd (by assumption) (thr_0 hr1 hr4) (by omega) (by omega) (by refine neN ?_; omega) (by refine neN ?_; omega) (by refine neN ?_; omega) (f + 1) (by simp only [List.cons_append, List.nil_append, List.forall_mem_cons]; refine ⟨?_, ?_, ?_, ?_, ?_, ?_, ?_, ?_, ?_, ?_, fun _ h => nomatch h⟩ <;> (try dsimp only) <;> omega) (by refine ⟨?_, ?_, ?_, ?_, ?_⟩ <;> omega)
        · refine box_mk F11 N11 (by assumption) hsd (by assumption) (thr_1 hr1 hr4) (by omega) (by omega) (by refine neN ?_; omega) (by refine neN ?_; omega) (by refine neN ?_; omega) (f + 1) (by simp only [List.cons_append, List.nil_append, List.forall_mem_cons]; refine ⟨?_, ?_, ?_, ?_, ?_, ?_, ?_, ?_, ?_, ?_, fun _ h => nomatch h⟩ <;> (try dsimp only) <;> omega) (by refine ⟨?_, ?_, ?_, ?_, ?_⟩ <;> omega)
      case restIfXa =>
        intro fl s' hP
        clear ps
        have ps : PassSub := trivial
        obtain ⟨rfl, h', tk', c, cd, dd, mx, md, od, ob, t, tc, tkd, hk, thr, dbl, hs, PM, PA, rfl, F, N, hob, hdi, lo, hT, hd1, hd2, hn1, hn2, hn3, top, hB, ht1, ht2, ht3, ht4, ht5⟩ := hP
        subst hB1 hB2
        simp only [List.cons_append, List.nil_append] at N
        simp only [List.cons_append, List.nil_append, List.forall_mem_cons] at hB
        subst hbk
        clear F9 F10 N9
        subst hmF
        k_steps
        unfold Stop
        with_reducible rename Fr _ _ _ _ => F0
        with_reducible rename News _ _ _ _ => N0
        dsimp only at F0
        with_unfolding_all refine' For_turns F0 ?_ ?k1Xb ?k2Xb
        case k1Xb => exact fun _ => rfl
        case k2Xb => passes_own
        k_steps
        with_reducible rename Fr _ _ _ _ => F1
        with_reducible rename News _ _ _ _ => N1
        with_reducible rename IntsAre _ (List.take _ _) => hsc
        with_reducible rename (List.take _ _).length = _ => hsl
        with_reducible rename (List.take _ _).length ≤ _ => hsl2
        with_reducible rename Obj.IsDictOf (PySem.strKind _ _) _ [] => hsd
        with_reducible rename (_ == sysModules) = false => hlo
        obtain ⟨SC, DU, HD, LA, WA, e1, e2, e3, e4, e5⟩ := shapeL N1
        subst e1 e2 e3 e4 e5
        obtain ⟨fix, hfix⟩ := shapeF N1 hXI
        have hlen := hsl
        have hvl := hsc.length
        obtain ⟨X, hX⟩ : ∃ X : FX2, X = ⟨hl, HD, DU, s1.heap.objs.size + 1 + 1, s1.heap.objs.size + 1 + 1 + 1, s1.heap.objs.size + 1 + 1 + 1 + 1 + 1, c, cd, dd, mx, md, f, room, dbl, thr, al⟩ := ⟨_, rfl⟩
        have hO : OFF2 X (LA :: WA :: fix.map (·.1)) := by
          subst hX hfix hXI
          simp only [List.map_cons, List.cons_append, List.nil_append, List.map_nil]
          exact off_top (top := top) (by omega) (by omega) (by omega) (by omega) (by omega) ht1 ht2 ht3 ht4 ht5 (by omega) (by omega) (by omega) (by omega) (by omega) (by omega) (by omega) (by omega) (by omega)
        obtain ⟨tr, td', o1, o2, o3, o4, o5, o6, mR, F2⟩ := fr_LM2 X F1 (by rw [hX]; rfl) (by rw [hX]; rfl) (by rw [hX]; rfl) (by rw [hX]; rfl)
        have hIX := fun (I : Addr) hI => offI (I := I) N1 hX hfix hXI hI
        have hXIf : ∀ q ∈ XI, q ∈ fix := fun q hq => by rw [hfix]; exact List.mem_append_left _ hq
        obtain ⟨hf1, hf2, hf3, hf4⟩ := mem4x hfix
        obtain ⟨hf5, hf6, hf7⟩ := mem3x hfix hXI
        obtain ⟨kv0, ok0, hk0, dk0⟩ := kcell (a := s1.heap.objs.size + 1 + 1 + 1 + 1 + 1) N1 ⟨_, _, by k_mem, by assumption⟩
        with_unfolding_all refine ktu_enum rfl F2 N1 (by k_mem) rfl rfl rfl ?_
        intro I hI
        refine enumRest_inv (J := fun k m n => ∃ KF LA WA ls ws hs hv dv nn D rows kv o1 o2 o3 o4 o5 o6 hep, LJ2 w X fix KF tr td' mR k m n LA WA ls ws hs hv dv nn D rows kv o1 o2 o3 o4 o5 o6 hep) ?stepXb ?doneXb _ 0 _ _ rfl ⟨LA :: WA :: fix.map (·.1), LA, WA, [], [], [], [], [], 0, fun _ => .none, [], kv0, o1, o2, o3, o4, o5, o6, 0, ?startXb⟩
        case startXb =>
          subst hX
          refine ⟨rfl, ⟨⟨_, _, by k_mem⟩, by k_mem, ⟨_, by k_mem, hdi⟩, by k_mem, ⟨_, _, by k_mem⟩, fun _ h => (nomatch h), fun _ h => (nomatch h), .nil, .nil, fun _ h => (nomatch h), Nat.zero_le _, hn1, hn2, hn3, lo, fun _ h => (nomatch h)⟩,
            ⟨⟨0, by k_mem⟩, ⟨0, by k_mem⟩, ?_, fun _ h => (nomatch h), fun _ h => (nomatch h), fun _ h => (nomatch h), ?_, .head _, .tail _ (.head _), fun q hq => .tail _ (.tail _ (List.mem_map_of_mem hq)), ?_⟩,
            ⟨⟨_, by k_mem, by assumption⟩, ⟨_, by k_mem, by assumption⟩, ⟨_, hk0, dk0⟩, ⟨_, by k_mem, isv_nil hsd⟩, ⟨0, by k_mem⟩⟩, hO, by k_mem, rfl, relW_nil, fun _ h => (nomatch h), fun _ h => (nomatch h), Nat.zero_le _, ?_, ?_, ?_⟩
          · rw [hXI] at hfix
            subst hfix
            simp only [List.cons_append, List.nil_append, List.forall_mem_cons]
            exact ⟨by k_mem, by k_mem, by k_mem, by k_mem, by k_mem, by k_mem, by k_mem, fun _ h => nomatch h⟩
          · exact hjoin.imp (fun e => ⟨e, rfl⟩) fun e => ⟨e, trivial⟩
          · rw [hXI] at hfix
            subst hfix
            simp only [List.map_cons, List.map_nil, List.cons_append, List.nil_append, List.forall_mem_cons]
            exact ⟨⟨_, by k_mem⟩, ⟨_, by k_mem⟩, ⟨_, by k_mem⟩, ⟨_, by k_mem⟩, ⟨_, by k_mem⟩, ⟨_, by k_mem⟩, ⟨_, by k_mem⟩, ⟨_, by k_mem⟩, ⟨_, by k_mem⟩, fun _ h => nomatch h⟩
          · simp only [List.length_nil]; omega
          · simp only [List.length_nil]; omega
          · simp only [List.length_nil]; omega
        case stepXb =>
          obtain ⟨⟨hI1, hI2⟩, hI3⟩ := hIX I hI
          clear hIX hI N1 F1 F2 hO hsd hlo
          repeat (with_reducible rename _ ∧ _ => hjunk; clear hjunk)
          repeat (with_reducible rename PyProof.V.FlatPairs _ _ _ => hjunk; clear hjunk)
          repeat (with_reducible rename Obj.IsDictOf _ _ _ => hjunk; clear hjunk)
          intro k i x m n hxi hj T t h tk hTup F
          refine AllObj.cons fun oe hoe => AllObj.cons fun oi hoi => AllObj.nil fun N => ?_
          dsimp only at hoe hoi N
          simp only [List.cons_append, List.nil_append] at N
          obtain ⟨KF, LA, WA, ls, ws, hs, hv, dv, nn, D, rows, kv, p1, p2, p3, p4, p5, p6, hep, hJ⟩ := hj
          have J1 := LJ2.opened N hJ hoe hoi hI1 hI2
          clear ps
          subst hX
          obtain ⟨xn, xt, rfl⟩ := ints_at hsc hxi
          obtain ⟨hm, C, B, TT, O, hE, rl, rw', rh, vok, hrl, hhl, hvl', hdl⟩ := id J1
          subst hm
          unfold LM at F
          dsimp only at F
          obtain ⟨⟨ol, tl, dl⟩, ⟨ow, tw, dw⟩, ⟨ok, tkk, dk⟩, ⟨oH, tH, dH⟩, ⟨epD, tD⟩⟩ := id TT
          dsimp only at tl tw tkk tH tD
          have NI := PLift.up N
          have N1 := news_cons N tkk (news_mono (news' := wo [s1.heap.objs.size + 1 + 1 + 1 + 1 + 1] _) N fun _ h => wo_sub h)
          have hR1 : ∀ q ∈ wo [s1.heap.objs.size + 1 + 1 + 1 + 1 + 1] ((I + 1, oe) :: (I, oi) :: n), q.1 ≠ s1.heap.objs.size + 1 + 1 + 1 + 1 + 1 := wo_ne (by simp)
          have up : ∀ q ∈ (I + 1, oe) :: (I, oi) :: n, q.1 ≠ s1.heap.objs.size + 1 + 1 + 1 + 1 + 1 → q ∈ wo [s1.heap.objs.size + 1 + 1 + 1 + 1 + 1] ((I + 1, oe) :: (I, oi) :: n) := fun q hq e => wo_mem hq (by simp [e])
          generalize wo [s1.heap.objs.size + 1 + 1 + 1 + 1 + 1] _ = R at *
          k_steps
          unfold Stop
          k_dflt (refine' law_keys (A₀ := callerA) (base := ghostOf s1.heap [(204, 202)]) (outer := []) ?k1Xc ?k2Xc ?k3Xc ?k4Xc ?k5Xc ?k6Xc ?_)
          case k1Xc => (try simp only [depth_deeper, depth_caller]); omega
          case k2Xc => k_asm
          case k3Xc => k_asm
          case k4Xc => k_asm
          case k5Xc => k_asm
          case k6Xc => k_asm
          k_whole
          intro h3 tk3 LK ta tb xk ek F3 N3 hlt3 hca hcb hxk9 hxk
          have hx9 : xk.length = 9 := by have e := congrArg List.length hxk9; simpa [lawK] using e
          have nkk := (hlt3 (s1.heap.objs.size + 1 + 1 + 1 + 1 + 1, ok) (by k_mem))
          have gk1 : LK ≠ s1.heap.objs.size + 1 + 1 + 1 + 1 + 1 := Nat.ne_of_gt nkk.1
          have gk2 : ta.1 ≠ s1.heap.objs.size + 1 + 1 + 1 + 1 + 1 := Nat.ne_of_gt nkk.2.1
          have gk3 : tb.1 ≠ s1.heap.objs.size + 1 + 1 + 1 + 1 + 1 := Nat.ne_of_gt nkk.2.2
          k_steps
          unfold Stop
          have hm9 := Int.fmod_nonneg_of_pos (xn.fdiv 6 + (i : Int)) (b := 9) (by decide)
          have hm8 := Int.fmod_lt_of_pos (xn.fdiv 6 + (i : Int)) (b := 9) (by decide)
          with_reducible rename News _ _ _ _ => N4
          with_reducible rename Fr _ _ _ _ => F4
          k_dflt (refine kl_item_tail N4 (by k_mem) (hxk.mono fun q hq _ => ?_) hm9 (by omega) (by omega) ?_)
          · rcases List.mem_cons.mp hq with rfl | hq
            · k_mem
            · rw [List.mem_singleton.mp hq]; k_mem
          intro key kv2 hkey hKN
          k_steps
          unfold Stop
          with_reducible rename News _ _ _ _ => N5
          with_reducible rename Fr _ _ _ _ => F5
          with_reducible rename _ = Data.cell (some kv2) => dk5
          have upx : ∀ q ∈ (I + 1, oe) :: (I, oi) :: n, q.1 ∉ [s1.heap.objs.size + 1 + 1 + 1 + 1 + 1] → q ∈ _ := fun q hq e => memN2 N5 (.tail _ (.tail _ (.tail _ (.tail _ (.tail _ (up q hq (by simpa using e)))))))
          have hkN5 := KeyN.mono2 hKN fun q hq c d => memN2 N5 (q := q) (by
            simp only [List.mem_cons] at hq ⊢
            rcases hq with e1 | e1 | e1 | e1 | e1 | e1
            · exact .inl e1
            · exact .inr (.inl e1)
            · exact .inr (.inr (.inl e1))
            · exact .inr (.inr (.inr (.inl e1)))
            · obtain ⟨vs, nn, d⟩ := d
              rw [e1] at d; dsimp only at d; rw [dk] at d; cases d
            · exact .inr (.inr (.inr (.inr (.inr e1)))))
          have hnd := LM2.nodup NI.down TT (X := ⟨hl, HD, DU, s1.heap.objs.size + 1 + 1, s1.heap.objs.size + 1 + 1 + 1, s1.heap.objs.size + 1 + 1 + 1 + 1 + 1, c, cd, dd, mx, md, f, room, dbl, thr, al⟩) (by refine neN ?_; (try dsimp only); omega) (by refine neN ?_; (try dsimp only); omega) (by refine neN ?_; (try dsimp only); omega)
          have hnd2 := hnd
          simp only [FX2.mut, List.nodup_cons, List.mem_cons, List.mem_nil_iff, or_false, not_or, List.not_mem_nil, not_false_eq_true, List.nodup_nil, and_true] at hnd2
          obtain ⟨⟨u1, u2, u3, u4⟩, ⟨u5, u6, u7⟩, ⟨u8, u9⟩, u10⟩ := hnd2
          have J2 := LJ2.turned (off := [s1.heap.objs.size + 1 + 1 + 1 + 1 + 1]) NI.down J1 (by simp) upx ⟨⟨ol, upx _ tl (by simpa using u5), dl⟩, ⟨ow, upx _ tw (by simpa using u2), dw⟩, ⟨_, memN2 N5 (by k_mem), dk5⟩, ⟨oH, upx _ tH (by simpa using Ne.symm u8), dH⟩, ⟨epD, upx _ tD (by simpa using Ne.symm u9)⟩⟩
          have hops : 0 ≤ xn.fmod 6 := Int.fmod_nonneg_of_pos _ (by decide)
          generalize (LK, _) :: _ = nw at N5 hkN5 J2 upx
          clear upx up hR1 hKN hkey nkk gk1 gk2 gk3 hm9 hm8 NI J1 hJ hTup C B TT O hE tl tw tkk tH tD dl dw dk dH dk5 hlt3 hca hcb hx9 hxk9 hxk rl rw' rh vok hrl hhl hvl' hdl
          refine cut_if (Mid2 w ⟨hl, HD, DU, s1.heap.objs.size + 1 + 1, s1.heap.objs.size + 1 + 1 + 1, s1.heap.objs.size + 1 + 1 + 1 + 1 + 1, c, cd, dd, mx, md, f, room, dbl, thr, al⟩ ((I + 1, oe) :: (I, oi) :: fix) tr td' mR k (ghostOf s1.heap [(204, 202)]) s1.heap.objs.size s1) ?ifPartXc ?tailPartXc
          case ifPartXc =>
            have pm : PassIf := trivial
            k_steps
            · clear pm
              unfold Stop
              obtain ⟨-, C, B, TT, O, hE, rl, rw', rh, vok, hrl, hhl, hvl', hdl⟩ := id J2
              obtain ⟨⟨ol, tl, dl⟩, ⟨ow, tw, dw⟩, ⟨ok, tkk, dk⟩, ⟨oH, tH, dH⟩, ⟨epD, tD⟩⟩ := id TT
              obtain ⟨⟨epL, bL⟩, ⟨epW, bW⟩, bfix, bHs, bls, bws, bpair, bkL, bkW, bkfix, bkin⟩ := id B
              obtain ⟨ct, ctc, bc⟩ := C.hc
              have bcd := C.hcd
              dsimp only at tl tw tkk tH tD bc bcd
              have b2 := bfix _ (.tail _ (.tail _ hf2))
              have b3 := bfix _ (.tail _ (.tail _ hf3))
              have z2 := O.frz _ (bkfix _ (.tail _ (.tail _ hf2)))
              have z3 := O.frz _ (bkfix _ (.tail _ (.tail _ hf3)))
              have zH := O.off HD (List.mem_append_left _ (by simp))
              simp only [FX2.mut, List.mem_cons, List.not_mem_nil, or_false, not_or] at z2 z3
              obtain ⟨-, -, -, z2, -⟩ := z2
              obtain ⟨-, -, -, z3, -⟩ := z3
              obtain ⟨zH1, zH2, -, -, -, zH3⟩ := zH
              dsimp only at zH1 zH2 zH3
              have N1 := news_cons N5 tH (news_cons N5 tkk (news_cons N5 b2 (news_cons N5 b3 (news_cons N5 bc (news_cons N5 bcd (news_mono (news' := wo [HD] nw) N5 fun _ h => wo_sub h))))))
              have hR1 : ∀ q ∈ wo [HD] nw, q.1 ≠ HD := wo_ne (by simp)
              have up : ∀ q ∈ nw, q.1 ≠ HD → q ∈ wo [HD] nw := fun q hq e => wo_mem hq (by simp [e])
              have NI := PLift.up N5
              clear N5
              generalize wo [HD] nw = R at *
              have tup : ∀ q ∈ nw, q.2.cls = .type "tuple" → q ∈ R := fun q hq e => up q hq (news_nec NI.down hq tH (by rw [e, dH.1.1]; simp))
              have hsl5 : hs.length ≤ 63 := by omega
              refine join_vok ?_ fun v tkv hvk => ?_
              · with_reducible refine IfExp_ ?_
                k_steps
                · exact .inl rfl
                · exact .inr ⟨_, _, rfl⟩
              · k_steps
                unfold Stop
                k_dflt (refine v_set (by units_room) F5 N1 (by k_updF) dH (bHs.mono fun q hq e => ?_) (hkN5.mono fun q hq e => ?_) (by omega) ?_)
                · have := tup q hq e; simp [this]
                · have := tup q hq e; simp [this]
                intro h9 o9 F9 N9 hd9
                have up9 : ∀ q ∈ nw, q.1 ∉ [HD] → q ∈ _ := fun q hq e => memN2 N9 (.tail _ (.tail _ (.tail _ (.tail _ (.tail _ (.tail _ (up q hq (by simpa using e))))))))
                have C9 := C.turnM NI.down TT O (off := [HD]) (by simp) up9
                have S9 := stayM NI.down TT O (off := [HD]) (by simp) up9
                have hk9 := KeyN.mono2 hkN5 S9.2
                have B9 : LF2 _ _ _ _ LA WA ls ws (putV hs key kv2 v) _ dv := { B.stay S9 with hHs := keysN_put (B.stay S9).hHs hk9 }
                have T9 : LM2 w ⟨hl, HD, DU, s1.heap.objs.size + 1 + 1, s1.heap.objs.size + 1 + 1 + 1, s1.heap.objs.size + 1 + 1 + 1 + 1 + 1, c, cd, dd, mx, md, f, room, dbl, thr, al⟩ _ LA WA (putV hs key kv2 v) dv (some kv2) := ⟨⟨ol, up9 _ tl (by simpa using u6), dl⟩, ⟨ow, up9 _ tw (by simpa using u3), dw⟩, ⟨ok, memN2 N9 (by k_mem), dk⟩, ⟨_, memN2 N9 (.head _), hd9⟩, ⟨epD, up9 _ tD (by simpa using Ne.symm u10)⟩⟩
                have hE9 := up9 _ hE (by simpa using Ne.symm zH3)
                have hs9 := putV_len hs key kv2 v
                have ha9 : atV (putV hs key kv2 v) key = some v := by rw [atV_put]; simp
                clear up9 S9 up tup hR1 N1 F5 NI dH tH bc bcd b2 b3
                k_steps
                unfold Stop
                refine v_item (by units_room) N9 (by k_mem) hd9 B9.hHs hk9 ha9 ?_
                have ps : PassSub := trivial
                k_steps
                unfold Stop
                clear ps
                have N9' := PLift.up N9
                have hE9l : hv.length ≤ 90 := by omega
                have hal2 : ∀ keep, al = .none ∨ al = .ref f ∧ AlertV w keep f c cd dd mx md hl room thr XI := fun keep => hjoin.imp id fun e => ⟨e, hal c cd dd mx md room thr keep⟩
                have hXo : ∀ q ∈ XI, q.1 ≠ md ∧ q.1 ≠ dd ∧ q.1 ≠ hl ∧ q.1 ≠ c := fun q hq => by
                  have z := O.off q.1 (List.mem_append_right _ (bkfix q (.tail _ (.tail _ (hXIf q hq)))))
                  exact ⟨z.2.2.2.2.1, z.2.2.1, z.2.2.2.2.2, z.1⟩
                k_dflt (refine' setitem_v (A₀ := callerA) (base := ghostOf s1.heap [(204, 202)]) (outer := []) (XI := XI) (hal2 _) ?k1Xp ?kuXp ?k2Xp ?k3Xp ?k4Xp ?k5Xp ?k6Xp C9 ?kaXp hk9 hE9 hE9l ?kpXp ?kxXp hXo ?khXp (B9.hfix _ (.tail _ (.tail _ hf5))) hT ?b1Xp hd1 ?_)
                case k1Xp => (try simp only [depth_deeper, depth_caller]); omega
                case kuXp => exact Nat.le_of_ble_eq_true rfl
                case k2Xp => k_asm
                case k3Xp => k_asm
                case k4Xp => k_asm
                case k5Xp => k_asm
                case k6Xp => k_asm
                case kaXp => omega
                case kpXp =>
                  intro q hq
                  show ∃ o, (q, o) ∈ _
                  rcases List.mem_cons.mp hq with rfl | hq
                  · exact ⟨_, hE9⟩
                  rcases List.mem_append.mp hq with hq | hq
                  · obtain ⟨o, ho, -⟩ := T9.nt q hq; exact ⟨o, ho⟩
                  · exact B9.kin q hq
                case kxXp => exact fun q hq => B9.hfix q (.tail _ (.tail _ (hXIf q hq)))
                case khXp => exact .head _
                case b1Xp => omega
                k_whole
                intro h10 tk10 nw10 nw1 rows1 r F10 N10 C10 hrk hrc hrv sub1 hmp hfr
                have S10 := stayC N9'.down C9 O hE9 fun q hq a1 a2 a3 a4 _ => hfr q hq a1 a2 a4 a3
                have B10 := B9.stay S10.frz
                have T10 := T9.stay S10
                have hk10 := KeyN.mono2 hk9 S10.2
                have hkl : KLN nw10 (rowsK (keyD D rows key kv2) (putRow rows r)) := KLN.mono2 (fun p hp => by
                  obtain ⟨x, hx, rfl⟩ := List.mem_map.mp hp
                  have z := keyD_in (r := r) (kv := kv2) (fun x hx => (C9.hks x hx).1) (hrk ▸ hk9) x hx
                  rw [hrk] at z
                  exact z) S10.2
                have hmp2 := mp_off (X := ⟨hl, HD, DU, s1.heap.objs.size + 1 + 1, s1.heap.objs.size + 1 + 1 + 1, s1.heap.objs.size + 1 + 1 + 1 + 1 + 1, c, cd, dd, mx, md, f, room, dbl, thr, al⟩) N9'.down N10 C9 T9 O hE9 B9.kin C10 (by show 2 ≤ dbl; omega) hkl sub1 hmp
                have hkn0 := C.hkn
                have hle0 := C.hle
                clear hal2 hXo hE9l C9 B9 T9 hE9 hk9 N9' N9 F9 S10 sub1 hmp hfr ha9 hd9 bfix bHs bls bws bkfix bkin bL bW C B TT J2 hkN5 hE tl tw tkk tD dl dw dk
                dsimp only
                obtain ⟨⟨ol, tl, dl⟩, ⟨ow, tw, dw⟩, ⟨ok, tkk, dk⟩, -, ⟨epD, tD⟩⟩ := id T10
                obtain ⟨⟨epL, bL⟩, ⟨epW, bW⟩, bfix, bHs, bls, bws, bpair, bkL, bkW, bkfix, bkin⟩ := id B10
                dsimp only at tl tw tkk tD
                have b2 := bfix _ (.tail _ (.tail _ hf2))
                have zL := O.frz _ bkL
                have zW := O.frz _ bkW
                simp only [FX2.mut, List.mem_cons, List.not_mem_nil, or_false, not_or] at zL zW
                obtain ⟨zL1, zL2, zL3, -, zL5⟩ := zL
                obtain ⟨zW1, zW2, zW3, -, zW5⟩ := zW
                have N1 := news_cons N10 tl (news_cons N10 tw (news_cons N10 tD (news_cons N10 tkk (news_cons N10 bL (news_cons N10 bW (news_mono (news' := wo [s1.heap.objs.size + 1 + 1 + 1, s1.heap.objs.size + 1 + 1, DU] nw10) N10 fun _ h => wo_sub h))))))
                have hR1 : ∀ q ∈ wo [s1.heap.objs.size + 1 + 1 + 1, s1.heap.objs.size + 1 + 1, DU] nw10, q.1 ≠ s1.heap.objs.size + 1 + 1 + 1 := wo_ne (by simp)
                have hR2 : ∀ q ∈ wo [s1.heap.objs.size + 1 + 1 + 1, s1.heap.objs.size + 1 + 1, DU] nw10, q.1 ≠ s1.heap.objs.size + 1 + 1 := wo_ne (by simp)
                have hR3 : ∀ q ∈ wo [s1.heap.objs.size + 1 + 1 + 1, s1.heap.objs.size + 1 + 1, DU] nw10, q.1 ≠ DU := wo_ne (by simp)
                have up : ∀ q ∈ nw10, q.1 ≠ s1.heap.objs.size + 1 + 1 + 1 → q.1 ≠ s1.heap.objs.size + 1 + 1 → q.1 ≠ DU → q ∈ wo [s1.heap.objs.size + 1 + 1 + 1, s1.heap.objs.size + 1 + 1, DU] nw10 := fun q hq e1 e2 e3 => wo_mem hq (by simp [e1, e2, e3])
                have NI := PLift.up N10
                have tup : ∀ q ∈ nw10, q.2.cls = .type "tuple" → (∃ vs n, q.2.data = .seq vs n) → q ∈ wo [s1.heap.objs.size + 1 + 1 + 1, s1.heap.objs.size + 1 + 1, DU] nw10 := fun q hq e ⟨vs, nn', e2⟩ => up q hq (news_ne N10 hq tl fun e' => by rw [e', dl] at e2; cases e2) (news_ne N10 hq tw fun e' => by rw [e', dw] at e2; cases e2) (news_nec N10 hq tD (by rw [e]; simp))
                clear N10
                generalize wo [s1.heap.objs.size + 1 + 1 + 1, s1.heap.objs.size + 1 + 1, DU] nw10 = R at *
                have hls8 : ls.length = rows.length := by have e := congrArg List.length rl; simpa using e
                have hws8 := relW_len rw'
                have kR := KeyN.mono2 hk10 tup
                have lR := KLN.mono2 bls tup
                have wR := KLN.mono2 bws tup
                k_steps
                unfold Stop
                refine cut_laid (fun s m => LaidP (ghostOf s1.heap [(204, 202)]) s1.heap.objs.size s m (s1.heap.objs.size + 1 + 1 + 1) LA (laidK ls key kv2) ((s1.heap.objs.size + 1 + 1, ow) :: (DU, W.listOf dv.toArray epD) :: (s1.heap.objs.size + 1 + 1 + 1 + 1 + 1, ok) :: (LA, W.listOf (kvals ls).toArray epL) :: (WA, W.listOf (kvals ws).toArray epW) :: R)) F10 ?laidPartXq ?laidRestXq
                case laidPartXq =>
                  have pm : PassIf := trivial
                  k_steps
                  unfold Stop
                  refine kl_notIn (by units_room) N1 (by k_mem) (lR.mono fun q hq _ => by simp [hq]) (kR.mono fun q hq _ => by simp [hq]) ?_
                  rcases hb : hasK ls key with _ | _
                  · k_steps
                    unfold Stop
                    with_reducible rename News _ _ _ _ => N3
                    with_reducible rename Fr _ _ _ _ => F3
                    refine add_newK F3 N3 (vs := kvals ls) (ws := [kv2]) (by k_mem) (by k_mem) (by rw [List.length_map]; simp only [List.length_cons, List.length_nil]; omega) ?_
                    intro D6 h13 F13 N13 hD6
                    have gD : s1.heap.objs.size + 1 + 1 + 1 ≠ D6 := Nat.ne_of_lt (hD6 (s1.heap.objs.size + 1 + 1 + 1, _) (by k_mem))
                    k_steps
                    with_reducible rename News _ _ _ _ => N4
                    have e4 : laidK ls key kv2 = ls ++ [(key, kv2)] := by unfold laidK; rw [hb]; rfl
                    rw [e4]
                    have e5 : kvals ls ++ [kv2] = kvals (ls ++ [(key, kv2)]) := by simp [kvals]
                    rw [e5] at N4
                    refine LaidP.mk' (LA1 := D6) 0 (by assumption) N4 (by assumption) (fun q hq => ?_) (.inr ⟨fun q hq => hD6 q (.tail _ (.tail _ hq)), Nat.lt_of_le_of_ne (Nat.le_of_lt (hD6 (s1.heap.objs.size + 1 + 1 + 1, _) (by k_mem))) gD⟩)
                    rcases List.mem_cons.mp hq with rfl | hq
                    · k_mem
                    rcases List.mem_cons.mp hq with rfl | hq
                    · k_mem
                    · repeat (first | exact hq | apply List.Mem.tail)
                  · k_steps
                    with_reducible rename News _ _ _ _ => N4
                    have e4 : laidK ls key kv2 = ls := by unfold laidK; rw [hb]; rfl
                    rw [e4]
                    refine LaidP.mk' (LA1 := LA) epL (by assumption) N4 (by assumption) (fun q hq => ?_) (.inl rfl)
                    rcases List.mem_cons.mp hq with rfl | hq
                    · k_mem
                    rcases List.mem_cons.mp hq with rfl | hq
                    · k_mem
                    · repeat (first | exact hq | apply List.Mem.tail)
                case laidRestXq =>
                  intro fl s' hP
                  obtain ⟨rfl, h11, tk11, LA1, ol1, ep1, rfl, F11, N11, dl1, hA1⟩ := hP
                  dsimp only
                  have gA1 : LA1 ≠ s1.heap.objs.size + 1 + 1 + 1 := hA1.elim (fun e => e ▸ zL2) fun h => Nat.ne_of_gt h.2
                  have gA2 : LA1 ≠ s1.heap.objs.size + 1 + 1 := hA1.elim (fun e => e ▸ zL1) fun h => Nat.ne_of_gt (h.1 (s1.heap.objs.size + 1 + 1, _) (.head _))
                  have gA3 : LA1 ≠ DU := hA1.elim (fun e => e ▸ zL5) fun h => Nat.ne_of_gt (h.1 (DU, _) (.tail _ (.head _)))
                  have ltR : ∀ a : Addr, (∀ q ∈ R, q.1 < a) → s1.heap.objs.size + 1 + 1 + 1 < a → s1.heap.objs.size + 1 + 1 < a → DU < a → ∀ q ∈ nw10, q.1 < a := fun a h1 h2 h3 h4 => nw_all (P := fun x => x < a) up h1 h2 h3 h4
                  clear N1 F10 tl tw tkk tD bfix bHs bls bws bpair bkfix bkin bL bW b2 dl lR
                  k_steps
                  unfold Stop
                  with_reducible rename News _ _ _ _ => N12
                  with_reducible rename Fr _ _ _ _ => F12
                  refine LCt.CompSrcT.ledger (its := (kvals ws).toArray) rfl F12 N12 (by k_mem) (by rw [sizeLine_eq, List.size_toArray, List.length_map]; omega) ?_
                  intro gg
                  refine kf_ne (k := key) (kv := kv2) (by units_room) (Or.inr ⟨_, by k_mem, rfl, _, rfl⟩) (wR.mono fun q hq _ => by repeat (first | exact hq | apply List.Mem.tail)) (kR.mono fun q hq _ => by repeat (first | exact hq | apply List.Mem.tail)) (fun _ => rfl) (fun _ => rfl) (by decide) (by rfl) (fun CC ss' EE QQ NN' hq => kcf_cell NN' (by rfl) (by k_mem) dk hq) ?fin1Xr
                  case fin1Xr =>
                    unfold LCg.FinE
                    intro D3 h12 tk12 F13 N13 hO
                    k_steps
                    unfold Stop
                    with_reducible rename News _ _ _ _ => N14
                    with_reducible rename Fr _ _ _ _ => F14
                    have hwl := List.length_filter_le (fun p : Key × Value => decide (p.1 ≠ key)) ws
                    refine add_newK F14 N14 (vs := kvals (List.filter (fun p => decide (p.1 ≠ key)) ws)) (ws := [kv2]) (by k_mem) (by k_mem) (by rw [List.length_map]; simp only [List.length_cons, List.length_nil]; omega) ?_
                    intro D6 h15 F15 N15 hD6
                    have gD1 : s1.heap.objs.size + 1 + 1 ≠ D6 := Nat.ne_of_lt (hD6 (s1.heap.objs.size + 1 + 1, _) (by k_mem))
                    have gD2 : s1.heap.objs.size + 1 + 1 + 1 ≠ D6 := Nat.ne_of_lt (hD6 (s1.heap.objs.size + 1 + 1 + 1, _) (by k_mem))
                    have gD3 : DU ≠ D6 := Nat.ne_of_lt (hD6 (DU, _) (by k_mem))
                    have gD4 : s1.heap.objs.size + 1 + 1 ≠ D3 := off1_memK hO (s1.heap.objs.size + 1 + 1, _) (by k_mem)
                    have gD5 : s1.heap.objs.size + 1 + 1 + 1 ≠ D3 := off1_memK hO (s1.heap.objs.size + 1 + 1 + 1, _) (by k_mem)
                    have gD6 : DU ≠ D3 := off1_memK hO (DU, _) (by k_mem)
                    have hWl : kvals (List.filter (fun p => decide (p.1 ≠ key)) ws) ++ [kv2] = kvals (woK ws key ++ [(key, kv2)]) := by simp [kvals, woK]
                    rw [hWl] at N15
                    have hl1 : (kvals (laidK ls key kv2)).length = (putRow rows r).length := by
                      have e := congrArg List.length (laid_put (r := r) (kv := kv2) rl)
                      rw [hrk] at e
                      simpa using e
                    have hp9 := put_len rows r
                    k_steps
                    unfold Stop
                    have pm : PassIf := trivial
                    k_steps
                    unfold Stop
                    with_reducible rename News _ _ _ _ => N16
                    refine len_ledK N16 (by k_mem) hl1 (by omega) ?_
                    intro tl16 tkl16
                    k_steps
                    · unfold Stop
                      clear pm
                      rcases hmp2 with ⟨hm1, -⟩ | ⟨hm1, srows, hperm, hord, hrows1, h5⟩
                      · exfalso; dsimp only at hm1; omega
                      obtain ⟨hv2, hep2, hE2, hvl2, hP2⟩ := clear_pair B10.hpair h5
                      clear h5
                      dsimp only at hm1 hrows1 hE2
                      have hA2 : OffX ⟨hl, HD, DU, s1.heap.objs.size + 1 + 1, s1.heap.objs.size + 1 + 1 + 1, s1.heap.objs.size + 1 + 1 + 1 + 1 + 1, c, cd, dd, mx, md, f, room, dbl, thr, al⟩ LA1 ∧ ∀ x ∈ rows1, x.lst ≠ LA1 := by
                        rcases hA1 with e | ⟨h1, h2⟩
                        · rw [e]
                          have z := O.off LA (List.mem_append_right _ bkL)
                          exact ⟨⟨z, O.frz _ bkL⟩, fun x hx e2 => C10.hoff x hx (e2 ▸ .tail _ (List.mem_append_right _ bkL))⟩
                        · exact fresh_off C10 T10 hE2 (ltR LA1 (fun q hq => h1 q (.tail _ (.tail _ (.tail _ (.tail _ (.tail _ hq)))))) h2 (h1 (s1.heap.objs.size + 1 + 1, _) (.head _)) (h1 (DU, _) (.tail _ (.head _))))
                      have hA3 : LA1 ∈ (I + 1) :: I :: KF ∨ ∀ q ∈ nw10, q.1 < LA1 := by
                        rcases hA1 with e | ⟨h1, h2⟩
                        · rw [e]; exact .inl bkL
                        · exact .inr (ltR LA1 (fun q hq => h1 q (.tail _ (.tail _ (.tail _ (.tail _ (.tail _ hq)))))) h2 (h1 (s1.heap.objs.size + 1 + 1, _) (.head _)) (h1 (DU, _) (.tail _ (.head _))))
                      have hln1 : (kvals (woK ws key ++ [(key, kv2)])).length = (putRow rows r).length := by
                        have e := relW_len (relW_put (r := r) (kv := kv2) rw' hkn0 hle0 hrc)
                        rw [hrk] at e
                        rw [List.length_map]; exact e
                      with_reducible rename News _ _ _ _ => N17

                      refine len_ledK N17 (by k_mem) hln1 (by omega) ?_
                      intro tl17 tkl17
                      k_steps
                      unfold Stop
                      with_reducible rename Fr _ _ _ _ => F17
                      simp only [List.push_toArray] at N17
                      k_dflt (refine slice_tail (F17.push _) (News.push F17 N17 _) (.tail _ (.head _)) (.head _) ?zaXs ?zbXs ?zcXs ?zdXs)
                      case zaXs => omega
                      case zbXs => rw [hln1]; omega
                      case zcXs => rw [hln1]; omega
                      case zdXs =>
                        intro h18 D7 F18 N18 hD7
                        have gE1 : s1.heap.objs.size + 1 + 1 ≠ D7 := Nat.ne_of_lt (hD7 (s1.heap.objs.size + 1 + 1, _) (by k_mem))
                        have gE2 : s1.heap.objs.size + 1 + 1 + 1 ≠ D7 := Nat.ne_of_lt (hD7 (s1.heap.objs.size + 1 + 1 + 1, _) (by k_mem))
                        have gE3 : DU ≠ D7 := Nat.ne_of_lt (hD7 (DU, _) (by k_mem))
                        obtain ⟨W2, hW2⟩ : ∃ W2 : KL, W2 = (woK ws key ++ [(key, kv2)]).drop (((putRow rows r).length : Int) - room).toNat := ⟨_, rfl⟩
                        have hW3 : (kvals (woK ws key ++ [(key, kv2)])).drop (((putRow rows r).length : Int) - room).toNat = kvals W2 := by rw [hW2]; exact List.map_drop.symm
                        rw [hW3] at N18
                        have N18b := news_cons N18 (.head _) (news_mono N18 fun q hq => .tail _ (.tail _ hq))
                        clear N18
                        have hl2 : (kvals (laidK ls key kv2)).length ≤ 20 := by rw [hl1]; omega
                        have lR := KLN.mono2 B10.hls tup
                        have lR1 : KLN R (laidK ls key kv2) := kln_laid lR kR
                        have wR1 : KLN R W2 := fun p hp => kln_warm wR kR p (List.mem_of_mem_drop (hW2 ▸ hp))
                        k_steps
                        unfold Stop
                        with_reducible rename News _ _ _ _ => N19
                        with_reducible rename Fr _ _ _ _ => F19
                        with_reducible rename _ = Data.cell (some (Value.ref D7)) => dD7
                        refine LCt.CompSrcT.ledger (its := (kvals (laidK ls key kv2)).toArray) rfl F19 N19 (by k_mem) (by rw [sizeLine_eq, List.size_toArray]; omega) ?_
                        intro gg2
                        refine kf_in (ys := W2) (by units_room) (Or.inr ⟨_, by k_mem, rfl, _, rfl⟩) (lR1.mono fun q hq _ => by repeat (first | exact hq | apply List.Mem.tail)) (wR1.mono fun q hq _ => by repeat (first | exact hq | apply List.Mem.tail)) (by k_mem) (fun _ => rfl) (fun _ => rfl) (by decide) (by rfl) (fun CC ss' EE QQ NN' hq => kcf_cell NN' (by rfl) (by k_mem) dD7 hq) ?fin2Xs
                        case fin2Xs =>
                          unfold LCg.FinE
                          intro D8 h20 tk20 F20 N20 hO2
                          have gF1 : s1.heap.objs.size + 1 + 1 ≠ D8 := off1_memK hO2 (s1.heap.objs.size + 1 + 1, _) (by k_mem)
                          have gF2 : s1.heap.objs.size + 1 + 1 + 1 ≠ D8 := off1_memK hO2 (s1.heap.objs.size + 1 + 1 + 1, _) (by k_mem)
                          have gF3 : DU ≠ D8 := off1_memK hO2 (DU, _) (by k_mem)
                          k_steps
                          with_reducible rename News _ _ _ _ => N21
                          with_reducible rename _ = Data.cell (some (Value.ref D8)) => dD8
                          have hput := relW_put (r := r) (kv := kv2) rw' hkn0 hle0 hrc
                          have hrw := relW_left (k := room.toNat) hput (put_keys (r := r) hkn0) hperm hord
                          have hlenW : (woK ws r.key ++ [(r.key, kv2)]).length = (putRow rows r).length := relW_len hput
                          have hn2 : (((putRow rows r).length : Int) - room).toNat = (woK ws r.key ++ [(r.key, kv2)]).length - room.toNat := by rw [hlenW]; omega
                          have hW4 : W2 = (woK ws r.key ++ [(r.key, kv2)]).drop ((woK ws r.key ++ [(r.key, kv2)]).length - room.toNat) := by rw [hW2, ← hn2, hrk]
                          rw [← hW4] at hrw
                          have hrl2 := laid_left (laid_put (r := r) (kv := kv2) rl) (put_keys (r := r) hkn0) hrw
                          rw [hrk] at hrl2
                          have hlen1 : rows1.length ≤ 8 := by
                            have e := (left_takeG (k := room.toNat) (put_keys (r := r) hkn0) hperm).length_eq
                            rw [hrows1, e, List.length_take]
                            omega
                          have hD8 := fresh_offN (X := ⟨hl, HD, DU, s1.heap.objs.size + 1 + 1, s1.heap.objs.size + 1 + 1 + 1, s1.heap.objs.size + 1 + 1 + 1 + 1 + 1, c, cd, dd, mx, md, f, room, dbl, thr, al⟩) C10 T10 hE2 (nw_all (P := fun x => x ≠ D8) up (fun q hq => off1_memK hO2 q (by repeat (first | exact hq | apply List.Mem.tail))) gF2 gF1 gF3)
                          have hD7 := fresh_off (X := ⟨hl, HD, DU, s1.heap.objs.size + 1 + 1, s1.heap.objs.size + 1 + 1 + 1, s1.heap.objs.size + 1 + 1 + 1 + 1 + 1, c, cd, dd, mx, md, f, room, dbl, thr, al⟩) C10 T10 hE2 (ltR D7 (fun q hq => hD7 q (by repeat (first | exact hq | apply List.Mem.tail))) (hD7 (s1.heap.objs.size + 1 + 1 + 1, _) (by k_mem)) (hD7 (s1.heap.objs.size + 1 + 1, _) (by k_mem)) (hD7 (DU, _) (by k_mem)))
                          obtain ⟨oH7, tH7, dH7⟩ := T10.hH
                          have m8 := memN2 N21 (q := (D8, LCg.lst (kvals (List.filter (fun p => hasK W2 p.1) (laidK ls key kv2))))) (.head _)
                          have m7 := memN2 N21 (q := (D7, _)) (by k_mem)
                          have m1 := memN2 N21 (q := (LA1, _)) (by k_mem)
                          have m2 := memN2 N21 (q := (DU, _)) (by k_mem)
                          have m3 := memN2 N21 (q := (s1.heap.objs.size + 1 + 1 + 1 + 1 + 1, ok)) (by k_mem)
                          have m4 := memN2 N21 (q := (s1.heap.objs.size + 1 + 1 + 1, _)) (by k_mem)
                          have m5 := memN2 N21 (q := (s1.heap.objs.size + 1 + 1, _)) (by k_mem)
                          have mR' : ∀ q ∈ R, q ∈ _ := fun q hq => memN2 N21 (by repeat (first | exact hq | apply List.Mem.tail))
                          generalize hnF : (D8, _) :: _ = nwF at N21 m8 m7 m1 m2 m3 m4 m5 mR'
                          have upF : ∀ q ∈ nw10, q.1 ∉ FX2.mut ⟨hl, HD, DU, s1.heap.objs.size + 1 + 1, s1.heap.objs.size + 1 + 1 + 1, s1.heap.objs.size + 1 + 1 + 1 + 1 + 1, c, cd, dd, mx, md, f, room, dbl, thr, al⟩ → q ∈ nwF := fun q hq hm => by
                            simp only [FX2.mut, List.mem_cons, List.not_mem_nil, or_false, not_or] at hm
                            exact mR' q (up q hq hm.2.1 hm.1 hm.2.2.2.2)
                          obtain ⟨new, n1, n2, n3, n4⟩ : ∃ new : List Addr, (∀ a ∈ [D8, D7, LA1], a ∈ new) ∧ (∀ a ∈ new, OffX ⟨hl, HD, DU, s1.heap.objs.size + 1 + 1, s1.heap.objs.size + 1 + 1 + 1, s1.heap.objs.size + 1 + 1 + 1 + 1 + 1, c, cd, dd, mx, md, f, room, dbl, thr, al⟩ a ∧ ∀ x ∈ rows1, x.lst ≠ a) ∧ (∀ a ∈ new, ∃ o, (a, o) ∈ nwF) ∧ ((al = .none ∧ hv2 = []) ∨ (al = .ref f ∧ (PairsL nwF (new ++ ((I + 1) :: I :: KF)) hv dv → PairsL nwF (new ++ ((I + 1) :: I :: KF)) hv2 (dv ++ [Value.ref LA1])))) := by
                            rcases hP2 with ⟨e, e2⟩ | ⟨e, DL, e1, e2, q1, q2, q3, q4, q5⟩
                            · refine ⟨[D8, D7, LA1], fun _ h => h, ?_, ?_, .inl ⟨e, e2⟩⟩
                              · simp only [List.forall_mem_cons]
                                exact ⟨hD8, hD7, hA2, fun _ h => nomatch h⟩
                              · simp only [List.forall_mem_cons]
                                exact ⟨⟨_, m8⟩, ⟨_, m7⟩, ⟨_, m1⟩, fun _ h => nomatch h⟩
                            · have z1 := upF _ q1 q4.2
                              refine ⟨[D8, D7, LA1, DL], fun a ha => List.mem_append_left [DL] ha, ?_, ?_, .inr ⟨e, fun p => ?_⟩⟩
                              · simp only [List.forall_mem_cons]
                                exact ⟨hD8, hD7, hA2, ⟨q4, q5⟩, fun _ h => nomatch h⟩
                              · simp only [List.forall_mem_cons]
                                exact ⟨⟨_, m8⟩, ⟨_, m7⟩, ⟨_, m1⟩, ⟨_, z1⟩, fun _ h => nomatch h⟩
                              · rw [e2]
                                refine PairsL.snoc ?_ (.tail _ (.tail _ (.tail _ (.head _)))) (.tail _ (.tail _ (.head _))) z1 m1 (KLN.mono2 q2 fun q hq e e2 => mR' q (tup q hq e e2)) (lR1.mono fun q hq _ => mR' q hq) ?_ p
                                · exact hA3.elim (fun h => q3 _ h) fun h => Nat.ne_of_lt (h _ q1)
                                · rw [rowsK_keys, ← hrk]; exact (laid_put rl).symm
                          exact mid2_close (LA' := D8) (WA' := D7) (ls' := (laidK ls key kv2).filter fun p => hasK W2 p.1) (ws' := W2) (dv' := dv ++ [Value.ref LA1]) (kv' := some kv2) (by assumption) N21 NI.down (.inl ⟨rfl, rfl⟩) C10 B10 T10 O hE2 upF
                            ⟨⟨_, m4, dD8⟩, ⟨_, m5, dD7⟩, ⟨ok, m3, dk⟩, ⟨oH7, mR' _ (up _ tH7 (fun e => u6 e.symm) (fun e => u3 e.symm) u10), dH7⟩, ⟨epD + 1, m2⟩⟩ ⟨(kvals ((laidK ls key kv2).filter fun p => hasK W2 p.1)).length, m8⟩ ⟨0, m7⟩
                            (fun p hp => (lR1 p (List.mem_filter.mp hp).1).mono fun q hq _ => mR' q hq) (wR1.mono fun q hq _ => mR' q hq) new n2 n3 (.inl (n1 _ (.head _))) (.inl (n1 _ (.tail _ (.head _)))) n4
                            (hrows1 ▸ hrl2) (hrows1 ▸ hrw) (hrows1 ▸ relH_sub (hrk ▸ hrv ▸ relH_put rh) (fun x hx => (left_sub _ _).subset hx)) (hrows1 ▸ fun x hx => vok_put vok (hrv ▸ hvk) x ((left_sub _ _).subset hx)) hlen1 (by omega) (by omega) (by rw [List.length_append]; simp only [List.length_cons, List.length_nil]; omega) (by rfl) (by rfl) (by rfl) (by rfl) (by rfl) (by rfl) (fun y a0 a1 a2 a3 a4 a5 a6 a7 a8 a9 => by simp only [a0, a1, a2, a3, a4, a5, a6, a7, a8, a9, if_false])
                    · clear pm
                      rcases hmp2 with ⟨hm1, rfl, hE'⟩ | ⟨hm1, -⟩
                      rotate_left
                      · exfalso; dsimp only at hm1; omega
                      dsimp only at hm1 hE'
                      have hA2 : OffX ⟨hl, HD, DU, s1.heap.objs.size + 1 + 1, s1.heap.objs.size + 1 + 1 + 1, s1.heap.objs.size + 1 + 1 + 1 + 1 + 1, c, cd, dd, mx, md, f, room, dbl, thr, al⟩ LA1 ∧ ∀ x ∈ putRow rows r, x.lst ≠ LA1 := by
                        rcases hA1 with e | ⟨h1, h2⟩
                        · rw [e]
                          have z := O.off LA (List.mem_append_right _ bkL)
                          exact ⟨⟨z, O.frz _ bkL⟩, fun x hx e2 => C10.hoff x hx (e2 ▸ .tail _ (List.mem_append_right _ bkL))⟩
                        · exact fresh_off C10 T10 hE' (ltR LA1 (fun q hq => h1 q (.tail _ (.tail _ (.tail _ (.tail _ (.tail _ hq)))))) h2 (h1 (s1.heap.objs.size + 1 + 1, _) (.head _)) (h1 (DU, _) (.tail _ (.head _))))
                      have hD2 := fresh_off (X := ⟨hl, HD, DU, s1.heap.objs.size + 1 + 1, s1.heap.objs.size + 1 + 1 + 1, s1.heap.objs.size + 1 + 1 + 1 + 1 + 1, c, cd, dd, mx, md, f, room, dbl, thr, al⟩) C10 T10 hE' (ltR D6 (fun q hq => hD6 q (by repeat (first | exact hq | apply List.Mem.tail))) (hD6 (s1.heap.objs.size + 1 + 1 + 1, _) (by k_mem)) (hD6 (s1.heap.objs.size + 1 + 1, _) (by k_mem)) (hD6 (DU, _) (by k_mem)))
                      obtain ⟨oH7, tH7, dH7⟩ := T10.hH
                      have lR := KLN.mono2 B10.hls tup
                      with_reducible rename _ = Data.cell (some (Value.ref D6)) => dD6
                      refine mid2_close (LA' := LA1) (WA' := D6) (ls' := laidK ls key kv2) (ws' := woK ws key ++ [(key, kv2)]) (dv' := dv) (kv' := some kv2) (by assumption) N16 NI.down (.inl ⟨rfl, rfl⟩) C10 B10 T10 O hE' (fun q hq hm => ?upXr) ⟨⟨ol1, by k_mem, dl1⟩, ⟨_, by k_mem, dD6⟩, ⟨ok, by k_mem, dk⟩, ⟨oH7, ?hH7Xr, dH7⟩, ⟨epD, by k_mem⟩⟩ ⟨ep1, by k_mem⟩ ⟨0, by k_mem⟩ ?hlsXr ?hwsXr [D6, LA1] ?hnewXr ?hinXr (.inl (.tail _ (.head _))) (.inl (.head _)) (B10.hpair.imp id fun ⟨e, _⟩ => ⟨e, id⟩)
                        ?rlXr ?rwXr (hrk ▸ hrv ▸ relH_put rh) ?vokXr ?l1Xr (by omega) (by omega) (by omega) (by rfl) (by rfl) (by rfl) (by rfl) (by rfl) (by rfl) ?eRXr
                      case upXr =>
                        simp only [FX2.mut, List.mem_cons, List.not_mem_nil, or_false, not_or] at hm
                        have z := up q hq hm.2.1 hm.1 hm.2.2.2.2
                        repeat (first | exact z | apply List.Mem.tail)
                      case hH7Xr =>
                        have z := up _ tH7 (fun e => u6 e.symm) (fun e => u3 e.symm) u10
                        repeat (first | exact z | apply List.Mem.tail)
                      case hlsXr =>
                        have z : KLN R (laidK ls key kv2) := kln_laid lR kR
                        exact z.mono fun q hq _ => by repeat (first | exact hq | apply List.Mem.tail)
                      case hwsXr =>
                        have z : KLN R (woK ws key ++ [(key, kv2)]) := kln_warm wR kR
                        exact z.mono fun q hq _ => by repeat (first | exact hq | apply List.Mem.tail)
                      case hnewXr =>
                        simp only [List.forall_mem_cons]
                        exact ⟨hD2, hA2, fun _ h => nomatch h⟩
                      case hinXr =>
                        simp only [List.forall_mem_cons]
                        exact ⟨⟨_, by k_mem⟩, ⟨_, by k_mem⟩, fun _ h => nomatch h⟩
                      case rlXr => exact hrk ▸ laid_put rl
                      case rwXr => exact hrk ▸ relW_put rw' hkn0 hle0 hrc
                      case vokXr => exact vok_put vok (hrv ▸ hvk)
                      case l1Xr => omega
                      case eRXr =>
                        intro y a0 a1 a2 a3 a4 a5 a6 a7 a8 a9
                        simp only [a0, a1, a2, a3, a4, a5, a6, a7, a8, a9, if_false]
            · clear pm
              unfold Stop
              obtain ⟨-, C, B, TT, O, hE, rl, rw', rh, vok, hrl, hhl, hvl', hdl⟩ := id J2
              obtain ⟨⟨ol, tl, dl⟩, ⟨ow, tw, dw⟩, ⟨ok, tkk, dk⟩, ⟨oH, tH, dH⟩, ⟨epD, tD⟩⟩ := id TT
              obtain ⟨⟨epL, bL⟩, ⟨epW, bW⟩, bfix, bHs, bls, bws, bpair, bkL, bkW, bkfix, bkin⟩ := id B
              obtain ⟨ct, ctc, bc⟩ := C.hc
              have bcd := C.hcd
              obtain ⟨od, bdd, hdd⟩ := C.hdd
              dsimp only at tl tw tkk tH tD bc bcd bdd
              have b2 := bfix _ (.tail _ (.tail _ hf2))
              have NI := PLift.up N5
              have N1 := news_cons N5 tl (news_cons N5 tkk (news_cons N5 b2 (news_cons N5 bL (news_cons N5 bc (news_cons N5 bcd (news_cons N5 bdd N5))))))
              have hkk := hkN5.mono (news' := (s1.heap.objs.size + 1 + 1 + 1, ol) :: _) fun q hq _ => memN2 N1 (by repeat (first | exact hq | apply List.Mem.tail))
              refine join_val (fun v => ∃ t, v = .str (if hasK ls key then Str.ofString "gone" else Str.ofString "none") t) ?_ fun v tkv hvk => ?_
              · with_reducible refine IfExp_ ?_
                k_steps
                unfold Stop
                refine kl_in (by units_room) N1 (by k_mem) (bls.mono fun q hq _ => by repeat (first | exact hq | apply List.Mem.tail)) hkk ?_
                rcases hb : hasK ls key with _ | _
                · k_steps
                · k_steps
              · obtain ⟨tv, rfl⟩ := hvk
                generalize hgn : (if hasK ls key then Str.ofString "gone" else Str.ofString "none") = gn
                k_steps
                unfold Stop
                with_reducible rename News _ _ _ _ => N6
                with_reducible rename Fr _ _ _ _ => F6
                refine cut_laid (fun s m => DelP w ⟨hl, HD, DU, s1.heap.objs.size + 1 + 1, s1.heap.objs.size + 1 + 1 + 1, s1.heap.objs.size + 1 + 1 + 1 + 1 + 1, c, cd, dd, mx, md, f, room, dbl, thr, al⟩ ((I + 1) :: I :: KF) (ghostOf s1.heap [(204, 202)]) s1.heap.objs.size s m nw nn D rows key gn) F6 ?tryPartXt ?tryRestXt
                case tryPartXt =>
                  have pm : PassIf := trivial
                  rcases hb : hasK ls key with _ | _
                  · have pc : PassCall := trivial
                    have hkN := C.keysN.mono (news' := (s1.heap.objs.size + 1 + 1 + 1, ol) :: _) fun q hq _ => memN2 N6 (by repeat (first | exact hq | apply List.Mem.tail))
                    have hno : ∀ x ∈ xsD D rows, x.1 ≠ key := fun x hx => by
                      obtain ⟨r, hr, rfl⟩ := List.mem_map.mp hx
                      exact row_no rl hb r hr
                    have hxl := xsD_len D rows
                    have hlo : (dd == sysModules) = false := C.lo
                    have hgn2 : gn = Str.ofString "none" := by rw [← hgn, hb]; rfl
                    have hrows : (rows.filter fun x => decide (x.key ≠ key)) = rows := List.filter_eq_self.mpr fun x hx => by simpa using row_no rl hb x hx
                    k_steps
                    with_reducible rename News _ s1.heap.objs.size _ _ => N7
                    subst hgn2
                    refine DelP.mk' (by assumption) (news_mono (news' := nw) N7 fun q hq => by repeat (first | exact hq | apply List.Mem.tail)) ?_ fun q hq _ => hq
                    rw [hrows]; exact C
                  · obtain ⟨r, hr, hrk⟩ := row_of rl hb
                    have hgn2 : gn = Str.ofString "gone" := by rw [← hgn, hb]; rfl
                    k_steps
                    unfold Stop
                    with_reducible rename News _ _ _ _ => N7
                    subst hrk
                    k_dflt (refine' deli_v (A₀ := callerA) (base := ghostOf s1.heap [(204, 202)]) (outer := []) ?k1Xt ?kuXt ?k2Xt ?k3Xt ?k4Xt ?k5Xt (news_mono (news' := nw) N7 fun q hq => ?k6Xt) C hr hkN5 ?_)
                    case k1Xt => (try simp only [depth_deeper, depth_caller]); omega
                    case kuXt => exact Nat.le_of_ble_eq_true rfl
                    case k2Xt => k_asm
                    case k3Xt => k_asm
                    case k4Xt => k_asm
                    case k5Xt => k_asm
                    case k6Xt => repeat (first | exact hq | apply List.Mem.tail)
                    k_whole
                    intro h8 tk8 nw8 F8 N8 C8 up8
                    k_steps
                    with_reducible rename News _ _ _ _ => N9
                    subst hgn2
                    exact DelP.mk' (by assumption) N9 C8 up8
                case tryRestXt =>
                  intro fl s' hP
                  obtain ⟨rfl, h9, tk9, t9, nw9, rfl, F9, N9, C9, up9⟩ := hP
                  dsimp only
                  have hgn2 := hgn
                  have S9 := stayC NI.down C O hE fun q hq _ a2 _ _ _ => up9 q hq a2
                  have B9 := B.stay S9.frz
                  have T9 := TT.stay S9
                  have hk9 := KeyN.mono2 hkN5 S9.2
                  have hE9 := up9 _ hE (news_nec NI.down hE bdd (by rw [hdd.1.1]; simp))
                  have hkn0 := C.hkn
                  dsimp only at C9 hE9
                  clear hgn2 F6 NI tl tw tkk tH tD dl dw dk dH bL bW bfix bHs bls bws bpair bkfix bkin bc bcd bdd hdd b2 C B TT J2 hkN5 hE S9 up9 hkk
                  obtain ⟨⟨ol, tl, dl⟩, ⟨ow, tw, dw⟩, ⟨ok, tkk, dk⟩, -, ⟨epD, tD⟩⟩ := id T9
                  obtain ⟨⟨epL, bL⟩, ⟨epW, bW⟩, bfix, bHs, bls, bws, bpair, bkL, bkW, bkfix, bkin⟩ := id B9
                  dsimp only at tl tw tkk tD
                  have b2 := bfix _ (.tail _ (.tail _ hf2))
                  have zL := O.frz _ bkL
                  have zW := O.frz _ bkW
                  simp only [FX2.mut, List.mem_cons, List.not_mem_nil, or_false, not_or] at zL zW
                  obtain ⟨zL1, zL2, zL3, -, zL5⟩ := zL
                  obtain ⟨zW1, zW2, zW3, -, zW5⟩ := zW
                  have N1 := news_cons N9 tl (news_cons N9 tw (news_cons N9 tD (news_cons N9 tkk (news_cons N9 bL (news_cons N9 bW (news_mono (news' := wo [s1.heap.objs.size + 1 + 1 + 1, s1.heap.objs.size + 1 + 1, DU] nw9) N9 fun _ h => wo_sub h))))))
                  have hR1 : ∀ q ∈ wo [s1.heap.objs.size + 1 + 1 + 1, s1.heap.objs.size + 1 + 1, DU] nw9, q.1 ≠ s1.heap.objs.size + 1 + 1 + 1 := wo_ne (by simp)
                  have hR2 : ∀ q ∈ wo [s1.heap.objs.size + 1 + 1 + 1, s1.heap.objs.size + 1 + 1, DU] nw9, q.1 ≠ s1.heap.objs.size + 1 + 1 := wo_ne (by simp)
                  have hR3 : ∀ q ∈ wo [s1.heap.objs.size + 1 + 1 + 1, s1.heap.objs.size + 1 + 1, DU] nw9, q.1 ≠ DU := wo_ne (by simp)
                  have up : ∀ q ∈ nw9, q.1 ≠ s1.heap.objs.size + 1 + 1 + 1 → q.1 ≠ s1.heap.objs.size + 1 + 1 → q.1 ≠ DU → q ∈ wo [s1.heap.objs.size + 1 + 1 + 1, s1.heap.objs.size + 1 + 1, DU] nw9 := fun q hq e1 e2 e3 => wo_mem hq (by simp [e1, e2, e3])
                  have NI := PLift.up N9
                  have tup : ∀ q ∈ nw9, q.2.cls = .type "tuple" → (∃ vs n, q.2.data = .seq vs n) → q ∈ wo [s1.heap.objs.size + 1 + 1 + 1, s1.heap.objs.size + 1 + 1, DU] nw9 := fun q hq e ⟨vs, nn', e2⟩ => up q hq (news_ne N9 hq tl fun e' => by rw [e', dl] at e2; cases e2) (news_ne N9 hq tw fun e' => by rw [e', dw] at e2; cases e2) (news_nec N9 hq tD (by rw [e]; simp))
                  clear N9
                  generalize wo [s1.heap.objs.size + 1 + 1 + 1, s1.heap.objs.size + 1 + 1, DU] nw9 = R at *
                  have hls8 : ls.length = rows.length := by have e := congrArg List.length rl; simpa using e
                  have hws8 := relW_len rw'
                  have kR := KeyN.mono2 hk9 tup
                  have lR := KLN.mono2 bls tup
                  have wR := KLN.mono2 bws tup
                  k_steps
                  unfold Stop
                  with_reducible rename News _ _ _ _ => N12
                  with_reducible rename Fr _ _ _ _ => F12
                  refine LCt.CompSrcT.ledger (its := (kvals ws).toArray) rfl F12 N12 (by k_mem) (by rw [sizeLine_eq, List.size_toArray, List.length_map]; omega) ?_
                  intro gg
                  refine kf_ne (k := key) (kv := kv2) (by units_room) (Or.inr ⟨_, by k_mem, rfl, _, rfl⟩) (wR.mono fun q hq _ => by repeat (first | exact hq | apply List.Mem.tail)) (kR.mono fun q hq _ => by repeat (first | exact hq | apply List.Mem.tail)) (fun _ => rfl) (fun _ => rfl) (by decide) (by rfl) (fun CC ss' EE QQ NN' hq => kcf_cell NN' (by rfl) (by k_mem) dk hq) ?fin1Xu
                  case fin1Xu =>
                    unfold LCg.FinE
                    intro D3 h12 tk12 F13 N13 hO
                    have gD1 : s1.heap.objs.size + 1 + 1 ≠ D3 := off1_memK hO (s1.heap.objs.size + 1 + 1, _) (by k_mem)
                    have gD2 : s1.heap.objs.size + 1 + 1 + 1 ≠ D3 := off1_memK hO (s1.heap.objs.size + 1 + 1 + 1, _) (by k_mem)
                    have gD3 : DU ≠ D3 := off1_memK hO (DU, _) (by k_mem)
                    have aD3 : ∀ q ∈ nw9, q.1 ≠ D3 := nw_all (P := fun x => x ≠ D3) up (fun q hq => off1_memK hO q (by repeat (first | exact hq | apply List.Mem.tail))) gD2 gD1 gD3
                    k_steps
                    unfold Stop
                    with_reducible rename News _ _ _ _ => N14
                    with_reducible rename Fr _ _ _ _ => F14
                    with_reducible rename _ = Data.cell (some (Value.ref D3)) => dD3
                    refine LCt.CompSrcT.ledger (its := (kvals ls).toArray) rfl F14 N14 (by k_mem) (by rw [sizeLine_eq, List.size_toArray, List.length_map]; omega) ?_
                    intro gg2
                    refine kf_ne (k := key) (kv := kv2) (by units_room) (Or.inr ⟨_, by k_mem, rfl, _, rfl⟩) (lR.mono fun q hq _ => by repeat (first | exact hq | apply List.Mem.tail)) (kR.mono fun q hq _ => by repeat (first | exact hq | apply List.Mem.tail)) (fun _ => rfl) (fun _ => rfl) (by decide) (by rfl) (fun CC ss' EE QQ NN' hq => kcf_cell NN' (by rfl) (by k_mem) dk hq) ?fin2Xu
                    case fin2Xu =>
                      unfold LCg.FinE
                      intro D4 h15 tk15 F15 N15 hO2
                      have gE1 : s1.heap.objs.size + 1 + 1 ≠ D4 := off1_memK hO2 (s1.heap.objs.size + 1 + 1, _) (by k_mem)
                      have gE2 : s1.heap.objs.size + 1 + 1 + 1 ≠ D4 := off1_memK hO2 (s1.heap.objs.size + 1 + 1 + 1, _) (by k_mem)
                      have gE3 : DU ≠ D4 := off1_memK hO2 (DU, _) (by k_mem)
                      have aD4 : ∀ q ∈ nw9, q.1 ≠ D4 := nw_all (P := fun x => x ≠ D4) up (fun q hq => off1_memK hO2 q (by repeat (first | exact hq | apply List.Mem.tail))) gE2 gE1 gE3
                      k_steps
                      with_reducible rename News _ _ _ _ => N16
                      with_reducible rename _ = Data.cell (some (Value.ref D4)) => dD4
                      have m4 := memN2 N16 (q := (D4, _)) (.head _)
                      have m3 := memN2 N16 (q := (D3, _)) (.tail _ (.head _))
                      have mk := memN2 N16 (q := (s1.heap.objs.size + 1 + 1 + 1 + 1 + 1, ok)) (by k_mem)
                      have ml := memN2 N16 (q := (s1.heap.objs.size + 1 + 1 + 1, _)) (by k_mem)
                      have mw := memN2 N16 (q := (s1.heap.objs.size + 1 + 1, _)) (by k_mem)
                      have mD := memN2 N16 (q := (DU, _)) (by k_mem)
                      have mR' : ∀ q ∈ R, q ∈ _ := fun q hq => memN2 N16 (by repeat (first | exact hq | apply List.Mem.tail))
                      generalize (D4, _) :: _ = nwF at N16 m4 m3 mk ml mw mD mR'
                      have hD3 := fresh_offN (X := ⟨hl, HD, DU, s1.heap.objs.size + 1 + 1, s1.heap.objs.size + 1 + 1 + 1, s1.heap.objs.size + 1 + 1 + 1 + 1 + 1, c, cd, dd, mx, md, f, room, dbl, thr, al⟩) C9 T9 hE9 aD3
                      have hD4 := fresh_offN (X := ⟨hl, HD, DU, s1.heap.objs.size + 1 + 1, s1.heap.objs.size + 1 + 1 + 1, s1.heap.objs.size + 1 + 1 + 1 + 1 + 1, c, cd, dd, mx, md, f, room, dbl, thr, al⟩) C9 T9 hE9 aD4
                      obtain ⟨oH7, tH7, dH7⟩ := T9.hH
                      exact mid2_close (LA' := D4) (WA' := D3) (ls' := woK ls key) (ws' := woK ws key) (dv' := dv) (kv' := some kv2) (by assumption) N16 NI.down (.inr (.inr ⟨_, _, _, rfl, rfl⟩)) C9 B9 T9 O hE9 (fun q hq hm => by
                          simp only [FX2.mut, List.mem_cons, List.not_mem_nil, or_false, not_or] at hm
                          exact mR' q (up q hq hm.2.1 hm.1 hm.2.2.2.2))
                        ⟨⟨_, ml, dD4⟩, ⟨_, mw, dD3⟩, ⟨ok, mk, dk⟩, ⟨oH7, mR' _ (up _ tH7 (fun e => u6 e.symm) (fun e => u3 e.symm) u10), dH7⟩, ⟨epD, mD⟩⟩ ⟨_, m4⟩ ⟨_, m3⟩
                        (fun p hp => (lR p (List.mem_filter.mp hp).1).mono fun q hq _ => mR' q hq) (fun p hp => (wR p (List.mem_filter.mp hp).1).mono fun q hq _ => mR' q hq) [D4, D3]
                        (by simp only [List.forall_mem_cons]; exact ⟨hD4, hD3, fun _ h => nomatch h⟩) (by simp only [List.forall_mem_cons]; exact ⟨⟨_, m4⟩, ⟨_, m3⟩, fun _ h => nomatch h⟩) (.inl (.head _)) (.inl (.tail _ (.head _))) (B9.hpair.imp id fun ⟨e, _⟩ => ⟨e, id⟩)
                        (laid_del rl key) (relW_del rw' key) (relH_sub rh fun x hx => (List.mem_filter.mp hx).1) (fun x hx => vok x (List.mem_filter.mp hx).1) (Nat.le_trans (List.length_filter_le _ _) hrl) (by omega) (by omega) (by omega) (by rfl) (by rfl) (by rfl) (by rfl) (by rfl) (by rfl) (fun y a0 a1 a2 a3 a4 a5 a6 a7 a8 a9 => by simp only [a0, a1, a2, a3, a4, a5, a6, a7, a8, a9, if_false])
            · clear pm
              unfold Stop
              obtain ⟨-, C, B, TT, O, hE, rl, rw', rh, vok, hrl, hhl, hvl', hdl⟩ := id J2
              obtain ⟨⟨ol, tl, dl⟩, ⟨ow, tw, dw⟩, ⟨ok, tkk, dk⟩, ⟨oH, tH, dH⟩, ⟨epD, tD⟩⟩ := id TT
              obtain ⟨⟨epL, bL⟩, ⟨epW, bW⟩, bfix, bHs, bls, bws, bpair, bkL, bkW, bkfix, bkin⟩ := id B
              obtain ⟨ct, ctc, bc⟩ := C.hc
              have bcd := C.hcd
              obtain ⟨od, bdd, hdd⟩ := C.hdd
              dsimp only at tl tw tkk tH tD bc bcd bdd
              have b2 := bfix _ (.tail _ (.tail _ hf2))
              have NI := PLift.up N5
              have b3 := bfix _ (.tail _ (.tail _ hf3))
              have N1 := news_cons N5 tl (news_cons N5 tkk (news_cons N5 b2 (news_cons N5 b3 (news_cons N5 tH (news_cons N5 bL (news_cons N5 bc (news_cons N5 bcd (news_cons N5 bdd N5))))))))
              have hkk := hkN5.mono (news' := (s1.heap.objs.size + 1 + 1 + 1, ol) :: _) fun q hq _ => memN2 N1 (by repeat (first | exact hq | apply List.Mem.tail))
              refine join_val (fun v => (hasK ls key = true ∧ ∃ r ∈ rows, r.key = key ∧ v = r.val) ∨ (hasK ls key = false ∧ ∃ t, v = .str (Str.ofString "none") t)) ?_ fun want tkv hwant => ?_
              · with_reducible refine IfExp_ ?_
                k_steps
                unfold Stop
                refine kl_in (by units_room) N1 (by k_mem) (bls.mono fun q hq _ => by repeat (first | exact hq | apply List.Mem.tail)) hkk ?_
                rcases hb : hasK ls key with _ | _
                · k_steps
                  exact .inr ⟨rfl, _, rfl⟩
                · k_steps
                  unfold Stop
                  obtain ⟨r, hr, hrk⟩ := row_of rl hb
                  have hat := rh r hr
                  rw [hrk] at hat
                  with_reducible rename News _ _ _ _ => N2
                  refine v_item (by units_room) N2 (by k_mem) dH (bHs.mono fun q hq _ => by repeat (first | exact hq | apply List.Mem.tail)) hkk hat ?_
                  exact ⟨⟨_, rfl⟩, .inl ⟨rfl, r, hr, hrk, rfl⟩⟩
              · k_steps
                unfold Stop
                with_reducible rename News _ _ _ _ => N6
                with_reducible rename Fr _ _ _ _ => F6
                refine cut_laid (fun s m => ReadP w ⟨hl, HD, DU, s1.heap.objs.size + 1 + 1, s1.heap.objs.size + 1 + 1 + 1, s1.heap.objs.size + 1 + 1 + 1 + 1 + 1, c, cd, dd, mx, md, f, room, dbl, thr, al⟩ ((I + 1) :: I :: KF) (ghostOf s1.heap [(204, 202)]) s1.heap.objs.size s m nw nn D ls rows key want) F6 ?readPartXv ?readRestXv
                case readPartXv =>
                  have pm : PassIf := trivial
                  have nm6 : ∀ q ∈ nw, q ∈ _ := fun q hq => memN2 N6 (by repeat (first | exact hq | apply List.Mem.tail))
                  rcases hwant with ⟨hb, r, hr, hrk, rfl⟩ | ⟨hb, tn, rfl⟩
                  · subst hrk
                    k_steps
                    · unfold Stop
                      with_reducible rename News _ _ _ _ => N7
                      k_dflt (refine' getf_v (A₀ := callerA) (base := ghostOf s1.heap [(204, 202)]) (outer := []) (news := nw) ?k1Xv ?kuXv ?k2Xv ?k3Xv ?k4Xv ?k5Xv N7 (fun q hq => ?ksXv) C hr (hkN5.mono fun q hq _ => ?ktXv) ?_)
                      case k1Xv => (try simp only [depth_in1, depth_deeper, depth_caller]); omega
                      case kuXv => exact Nat.le_of_ble_eq_true rfl
                      case k2Xv => k_asm
                      case k3Xv => k_asm
                      case k4Xv => k_asm
                      case k5Xv => k_asm
                      case ksXv => repeat (first | exact hq | apply List.Mem.tail)
                      case ktXv => repeat (first | exact hq | apply List.Mem.tail)
                      k_whole
                      intro h8 tk8 t8 nw8 F8 N8 Nx C8 up8 _
                      clear Nx
                      k_steps
                      with_reducible rename News _ _ _ _ => N9
                      exact ReadP.mk' (by assumption) N9 C8 (VOk.told (vok r hr)) (.inr ⟨hb, r, hr, rfl, _, rfl⟩) fun q hq e1 e2 => up8 q hq e1 (e2 r hr)
                    · unfold Stop
                      with_reducible rename News _ _ _ _ => N7
                      k_dflt (refine' geti_v (A₀ := callerA) (base := ghostOf s1.heap [(204, 202)]) (outer := []) (news := nw) ?k1Xv ?kuXv ?k2Xv ?k3Xv ?k4Xv ?k5Xv N7 (fun q hq => ?ksXv) C hr (hkN5.mono fun q hq _ => ?ktXv) ?_)
                      case k1Xv => (try simp only [depth_in1, depth_deeper, depth_caller]); omega
                      case kuXv => exact Nat.le_of_ble_eq_true rfl
                      case k2Xv => k_asm
                      case k3Xv => k_asm
                      case k4Xv => k_asm
                      case k5Xv => k_asm
                      case ksXv => repeat (first | exact hq | apply List.Mem.tail)
                      case ktXv => repeat (first | exact hq | apply List.Mem.tail)
                      k_whole
                      intro h8 tk8 t8 nw8 F8 N8 Nx C8 up8 _
                      clear Nx
                      k_steps
                      with_reducible rename News _ _ _ _ => N9
                      exact ReadP.mk' (by assumption) N9 C8 (VOk.told (vok r hr)) (.inr ⟨hb, r, hr, rfl, _, rfl⟩) fun q hq e1 e2 => up8 q hq e1 (e2 r hr)
                  · have hno := row_no rl hb
                    k_steps
                    · unfold Stop
                      with_reducible rename News _ _ _ _ => N7
                      k_dflt (refine' getn_v (A₀ := callerA) (base := ghostOf s1.heap [(204, 202)]) (outer := []) ?k1Xv ?kuXv ?k2Xv ?k3Xv ?k4Xv ?k5Xv (news_mono (news' := nw) N7 fun q hq => ?ksXv) C hno hkN5 ?_)
                      case k1Xv => (try simp only [depth_in1, depth_deeper, depth_caller]); omega
                      case kuXv => exact Nat.le_of_ble_eq_true rfl
                      case k2Xv => k_asm
                      case k3Xv => k_asm
                      case k4Xv => k_asm
                      case k5Xv => k_asm
                      case ksXv => repeat (first | exact hq | apply List.Mem.tail)
                      k_whole
                      intro h8 tk8 F8 N8
                      k_steps
                      with_reducible rename News _ _ _ _ => N9
                      exact ReadP.mk' (by assumption) N9 C (.inr (.inr ⟨_, _, _, rfl, rfl⟩)) (.inl ⟨hb, rfl⟩) fun q hq _ _ => hq
                    · unfold Stop
                      with_reducible rename News _ _ _ _ => N7
                      have pc : PassCall := trivial
                      have hkN := C.keysN.mono (news' := (s1.heap.objs.size + 1 + 1 + 1, ol) :: _) fun q hq _ => memN2 N7 (by repeat (first | exact hq | apply List.Mem.tail))
                      have hat : atV (xsD D rows) key = none := xsD_none hno
                      have hlo : (dd == sysModules) = false := C.lo
                      k_steps
                      with_reducible rename News _ s1.heap.objs.size _ _ => N8
                      exact ReadP.mk' (by assumption) (news_mono (news' := nw) N8 fun q hq => by repeat (first | exact hq | apply List.Mem.tail)) C (.inr (.inr ⟨_, _, _, rfl, rfl⟩)) (.inl ⟨hb, rfl⟩) fun q hq _ _ => hq
                case readRestXv =>
                  intro fl s' hP
                  obtain ⟨rfl, h9, tk9, told, nw9, n9, rows9, rfl, F9, N9, C9, ht9, hr9, up9⟩ := hP
                  dsimp only
                  have S9 := stayC NI.down C O hE fun q hq a1 _ _ _ a5 => up9 q hq a1 a5
                  have B9 := B.stay S9.frz
                  have T9 := TT.stay S9
                  have hk9 := KeyN.mono2 hkN5 S9.2
                  have hE9 := up9 _ hE (news_nec NI.down hE bc (by simp)) fun r hr e => C.hoff r hr (e ▸ .head _)
                  have hkn0 := C.hkn
                  have hle0 := C.hle
                  dsimp only at C9 hE9
                  clear F6 NI tl tw tkk tH tD dl dw dk dH bL bW bfix bHs bls bws bpair bkfix bkin bc bcd bdd hdd b2 b3 C B TT J2 hkN5 hE S9 up9 hkk hwant
                  obtain ⟨⟨ol, tl, dl⟩, ⟨ow, tw, dw⟩, ⟨ok, tkk, dk⟩, -, ⟨epD, tD⟩⟩ := id T9
                  obtain ⟨⟨epL, bL⟩, ⟨epW, bW⟩, bfix, bHs, bls, bws, bpair, bkL, bkW, bkfix, bkin⟩ := id B9
                  dsimp only at tl tw tkk tD
                  have b2 := bfix _ (.tail _ (.tail _ hf2))
                  have zL := O.frz _ bkL
                  have zW := O.frz _ bkW
                  simp only [FX2.mut, List.mem_cons, List.not_mem_nil, or_false, not_or] at zL zW
                  obtain ⟨zL1, zL2, zL3, -, zL5⟩ := zL
                  obtain ⟨zW1, zW2, zW3, -, zW5⟩ := zW
                  have N1 := news_cons N9 tl (news_cons N9 tw (news_cons N9 tD (news_cons N9 tkk (news_cons N9 bL (news_cons N9 bW (news_mono (news' := wo [s1.heap.objs.size + 1 + 1 + 1, s1.heap.objs.size + 1 + 1, DU] nw9) N9 fun _ h => wo_sub h))))))
                  have hR1 : ∀ q ∈ wo [s1.heap.objs.size + 1 + 1 + 1, s1.heap.objs.size + 1 + 1, DU] nw9, q.1 ≠ s1.heap.objs.size + 1 + 1 + 1 := wo_ne (by simp)
                  have hR2 : ∀ q ∈ wo [s1.heap.objs.size + 1 + 1 + 1, s1.heap.objs.size + 1 + 1, DU] nw9, q.1 ≠ s1.heap.objs.size + 1 + 1 := wo_ne (by simp)
                  have hR3 : ∀ q ∈ wo [s1.heap.objs.size + 1 + 1 + 1, s1.heap.objs.size + 1 + 1, DU] nw9, q.1 ≠ DU := wo_ne (by simp)
                  have up : ∀ q ∈ nw9, q.1 ≠ s1.heap.objs.size + 1 + 1 + 1 → q.1 ≠ s1.heap.objs.size + 1 + 1 → q.1 ≠ DU → q ∈ wo [s1.heap.objs.size + 1 + 1 + 1, s1.heap.objs.size + 1 + 1, DU] nw9 := fun q hq e1 e2 e3 => wo_mem hq (by simp [e1, e2, e3])
                  have NI := PLift.up N9
                  have tup : ∀ q ∈ nw9, q.2.cls = .type "tuple" → (∃ vs n, q.2.data = .seq vs n) → q ∈ wo [s1.heap.objs.size + 1 + 1 + 1, s1.heap.objs.size + 1 + 1, DU] nw9 := fun q hq e ⟨vs, nn', e2⟩ => up q hq (news_ne N9 hq tl fun e' => by rw [e', dl] at e2; cases e2) (news_ne N9 hq tw fun e' => by rw [e', dw] at e2; cases e2) (news_nec N9 hq tD (by rw [e]; simp))
                  clear N9
                  generalize wo [s1.heap.objs.size + 1 + 1 + 1, s1.heap.objs.size + 1 + 1, DU] nw9 = R at *
                  have hls8 : ls.length = rows.length := by have e := congrArg List.length rl; simpa using e
                  have hws8 := relW_len rw'
                  have kR := KeyN.mono2 hk9 tup
                  have lR := KLN.mono2 bls tup
                  have wR := KLN.mono2 bws tup
                  k_steps
                  unfold Stop
                  have pm : PassIf := trivial
                  k_steps
                  unfold Stop
                  with_reducible rename News _ _ _ _ => N11
                  refine kl_in (by units_room) N11 (by k_mem) (lR.mono fun q hq _ => by repeat (first | exact hq | apply List.Mem.tail)) (kR.mono fun q hq _ => by repeat (first | exact hq | apply List.Mem.tail)) ?_
                  rcases hr9 with ⟨hb, rfl⟩ | ⟨hb, r, hr, hrk, t', rfl⟩
                  · rw [hb]
                    k_steps
                    with_reducible rename News _ _ _ _ => N16
                    have m4 := memN2 N16 (q := (LA, _)) (by k_mem)
                    have m3 := memN2 N16 (q := (WA, _)) (by k_mem)
                    have mk := memN2 N16 (q := (s1.heap.objs.size + 1 + 1 + 1 + 1 + 1, ok)) (by k_mem)
                    have ml := memN2 N16 (q := (s1.heap.objs.size + 1 + 1 + 1, _)) (by k_mem)
                    have mw := memN2 N16 (q := (s1.heap.objs.size + 1 + 1, _)) (by k_mem)
                    have mD := memN2 N16 (q := (DU, _)) (by k_mem)
                    have mR' : ∀ q ∈ R, q ∈ _ := fun q hq => memN2 N16 (by repeat (first | exact hq | apply List.Mem.tail))
                    generalize (s1.heap.objs.size + 1 + 1 + 1, _) :: _ = nwF at N16 m4 m3 mk ml mw mD mR'
                    obtain ⟨oH7, tH7, dH7⟩ := T9.hH
                    exact mid2_close (LA' := LA) (WA' := WA) (ls' := ls) (ws' := ws) (dv' := dv) (kv' := some kv2) (by assumption) N16 NI.down ht9 C9 B9 T9 O hE9 (fun q hq hm => by
                          simp only [FX2.mut, List.mem_cons, List.not_mem_nil, or_false, not_or] at hm
                          exact mR' q (up q hq hm.2.1 hm.1 hm.2.2.2.2))
                        ⟨⟨_, ml, dl⟩, ⟨_, mw, dw⟩, ⟨ok, mk, dk⟩, ⟨oH7, mR' _ (up _ tH7 (fun e => u6 e.symm) (fun e => u3 e.symm) u10), dH7⟩, ⟨epD, mD⟩⟩ ⟨_, m4⟩ ⟨_, m3⟩
                        (lR.mono fun q hq _ => mR' q hq) (wR.mono fun q hq _ => mR' q hq) [] (fun _ h => nomatch h) (fun _ h => nomatch h) (.inr bkL) (.inr bkW) (B9.hpair.imp id fun ⟨e, _⟩ => ⟨e, id⟩)
                        rl rw' rh vok hrl (by omega) (by omega) (by omega) (by rfl) (by rfl) (by rfl) (by rfl) (by rfl) (by rfl) (fun y a0 a1 a2 a3 a4 a5 a6 a7 a8 a9 => by simp only [a0, a1, a2, a3, a4, a5, a6, a7, a8, a9, if_false])
                  · rw [hb]
                    k_steps
                    unfold Stop
                    with_reducible rename News _ _ _ _ => N12
                    with_reducible rename Fr _ _ _ _ => F12
                    refine LCt.CompSrcT.ledger (its := (kvals ws).toArray) rfl F12 N12 (by k_mem) (by rw [sizeLine_eq, List.size_toArray, List.length_map]; omega) ?_
                    intro gg
                    refine kf_ne (k := key) (kv := kv2) (by units_room) (Or.inr ⟨_, by k_mem, rfl, _, rfl⟩) (wR.mono fun q hq _ => by repeat (first | exact hq | apply List.Mem.tail)) (kR.mono fun q hq _ => by repeat (first | exact hq | apply List.Mem.tail)) (fun _ => rfl) (fun _ => rfl) (by decide) (by rfl) (fun CC ss' EE QQ NN' hq => kcf_cell NN' (by rfl) (by k_mem) dk hq) ?fin1Xw
                    case fin1Xw =>
                      unfold LCg.FinE
                      intro D3 h12 tk12 F13 N13 hO
                      k_steps
                      unfold Stop
                      with_reducible rename News _ _ _ _ => N14
                      with_reducible rename Fr _ _ _ _ => F14
                      have hwl := List.length_filter_le (fun p : Key × Value => decide (p.1 ≠ key)) ws
                      refine add_newK F14 N14 (vs := kvals (List.filter (fun p => decide (p.1 ≠ key)) ws)) (ws := [kv2]) (by k_mem) (by k_mem) (by rw [List.length_map]; simp only [List.length_cons, List.length_nil]; omega) ?_
                      intro D6 h15 F15 N15 hD6
                      have gD1 : s1.heap.objs.size + 1 + 1 ≠ D6 := Nat.ne_of_lt (hD6 (s1.heap.objs.size + 1 + 1, _) (by k_mem))
                      have gD4 : s1.heap.objs.size + 1 + 1 ≠ D3 := off1_memK hO (s1.heap.objs.size + 1 + 1, _) (by k_mem)
                      have aD6 : ∀ q ∈ nw9, q.1 < D6 := nw_all (P := fun x => x < D6) up (fun q hq => hD6 q (by repeat (first | exact hq | apply List.Mem.tail))) (hD6 (s1.heap.objs.size + 1 + 1 + 1, _) (by k_mem)) (hD6 (s1.heap.objs.size + 1 + 1, _) (by k_mem)) (hD6 (DU, _) (by k_mem))
                      have hWl : kvals (List.filter (fun p => decide (p.1 ≠ key)) ws) ++ [kv2] = kvals (woK ws key ++ [(key, kv2)]) := by simp [kvals, woK]
                      rw [hWl] at N15
                      k_steps
                      with_reducible rename News _ _ _ _ => N16
                      with_reducible rename _ = Data.cell (some (Value.ref D6)) => dD6
                      have m6 := memN2 N16 (q := (D6, _)) (.head _)
                      have m4 := memN2 N16 (q := (LA, _)) (by k_mem)
                      have mk := memN2 N16 (q := (s1.heap.objs.size + 1 + 1 + 1 + 1 + 1, ok)) (by k_mem)
                      have ml := memN2 N16 (q := (s1.heap.objs.size + 1 + 1 + 1, _)) (by k_mem)
                      have mw := memN2 N16 (q := (s1.heap.objs.size + 1 + 1, _)) (by k_mem)
                      have mD := memN2 N16 (q := (DU, _)) (by k_mem)
                      have mR' : ∀ q ∈ R, q ∈ _ := fun q hq => memN2 N16 (by repeat (first | exact hq | apply List.Mem.tail))
                      generalize (D6, _) :: _ = nwF at N16 m6 m4 mk ml mw mD mR'
                      have hD6 := fresh_off (X := ⟨hl, HD, DU, s1.heap.objs.size + 1 + 1, s1.heap.objs.size + 1 + 1 + 1, s1.heap.objs.size + 1 + 1 + 1 + 1 + 1, c, cd, dd, mx, md, f, room, dbl, thr, al⟩) C9 T9 hE9 aD6
                      obtain ⟨oH7, tH7, dH7⟩ := T9.hH
                      exact mid2_close (LA' := LA) (WA' := D6) (ls' := ls) (ws' := woK ws key ++ [(key, kv2)]) (dv' := dv) (kv' := some kv2) (by assumption) N16 NI.down ht9 C9 B9 T9 O hE9 (fun q hq hm => by
                          simp only [FX2.mut, List.mem_cons, List.not_mem_nil, or_false, not_or] at hm
                          exact mR' q (up q hq hm.2.1 hm.1 hm.2.2.2.2))
                        ⟨⟨_, ml, dl⟩, ⟨_, mw, dD6⟩, ⟨ok, mk, dk⟩, ⟨oH7, mR' _ (up _ tH7 (fun e => u6 e.symm) (fun e => u3 e.symm) u10), dH7⟩, ⟨epD, mD⟩⟩ ⟨_, m4⟩ ⟨_, m6⟩
                        (lR.mono fun q hq _ => mR' q hq) ((kln_warm wR kR).mono fun q hq _ => mR' q hq) [D6]
                        (by simp only [List.forall_mem_cons]; exact ⟨hD6, fun _ h => nomatch h⟩) (by simp only [List.forall_mem_cons]; exact ⟨⟨_, m6⟩, fun _ h => nomatch h⟩) (.inr bkL) (.inl (.head _)) (B9.hpair.imp id fun ⟨e, _⟩ => ⟨e, id⟩)
                        (rl.trans (touch_keys ..).symm) (hrk ▸ relW_touch rw' hkn0 hle0 hr) (relH_touch rh) (vok_touch vok) (by rw [touch_len]; exact hrl) (by omega) (by omega) (by omega) (by rfl) (by rfl) (by rfl) (by rfl) (by rfl) (by rfl) (fun y a0 a1 a2 a3 a4 a5 a6 a7 a8 a9 => by simp only [a0, a1, a2, a3, a4, a5, a6, a7, a8, a9, if_false])
          case tailPartXc =>
            intro fl s' hM
            have pm : PassIf := trivial
            have hf8 := List.mem_cons_of_mem (I + 1, oe) (List.mem_cons_of_mem (I, oi) hf2)
            clear N5 hkN5 J2 F5
            obtain ⟨rfl, h', tk', m', news', told, want, rfl, F', N', hTold, KF', LA', WA', ls', ws', hs', hv', dv', n', D', rows', kv', q1, q2, q3, q4, hep', J3⟩ := hM
            have NI := PLift.up N'
            obtain ⟨hm, C, B, TT, O, hE, rl, rw', rh, vok, hrl, hhl, hvl', hdl⟩ := id J3
            subst hm
            unfold LM at F'
            dsimp only at F'
            obtain ⟨⟨ol', tl, dl⟩, ⟨ow', tw, dw⟩, -, -, -⟩ := id TT
            obtain ⟨⟨epL, bL⟩, -, bfix, -, bls, -, -, -, -, -, -⟩ := id B
            obtain ⟨ct, ctc, bc⟩ := C.hc
            have bcd := C.hcd
            dsimp only at tl tw bc bcd bL
            have b2 := bfix _ hf8
            have N1 := news_cons N' b2 (news_cons N' tl (news_cons N' bL (news_cons N' bc (news_cons N' bcd N'))))
            dsimp only
            k_steps
            unfold Stop
            refine told_ne hTold ?_
            k_steps
            unfold Stop
            with_reducible rename Fr _ _ _ _ => F2
            with_reducible rename News _ _ _ _ => N2
            have up2 : ∀ q ∈ news', q ∈ _ := fun q hq => memN2 N2 (by repeat (first | exact hq | apply List.Mem.tail))
            have C2 := C.mono up2
            have nr := rowsK_in C
            k_dflt (refine' list_v (A₀ := callerA) (base := ghostOf s1.heap [(204, 202)]) (outer := []) ?k1Xd ?k2Xd ?k3Xd ?k4Xd ?k5Xd ?k6Xd C2 ?_)
            case k1Xd => (try simp only [depth_deeper, depth_caller]); omega
            case k2Xd => k_asm
            case k3Xd => k_asm
            case k4Xd => k_asm
            case k5Xd => k_asm
            case k6Xd => k_asm
            k_whole
            intro DL h6 tk6 e6 F6 N6 hDL
            rw [rowsK_vals] at N6
            clear C2 up2
            k_steps
            unfold Stop
            with_reducible rename News _ _ _ _ => N7
            k_dflt (refine kl_ne_same (xs := rowsK D' rows') (ys := ls') (by units_room) N7 (by k_mem) (by k_mem) (nr.mono fun q hq _ => by repeat (first | exact hq | apply List.Mem.tail)) (bls.mono fun q hq _ => by repeat (first | exact hq | apply List.Mem.tail)) (by rw [rowsK_keys, rl]) ?_)
            k_steps
            unfold Stop
            with_reducible rename News _ _ _ _ => N8
            have C8 := C.mono fun q hq => memN2 N8 (by repeat (first | exact hq | apply List.Mem.tail))
            k_dflt (refine' len_v (A₀ := callerA) (base := ghostOf s1.heap [(204, 202)]) (outer := []) ?k1Xd ?k2Xd ?k3Xd ?k4Xd ?k5Xd ?k6Xd C8 ?_)
            case k1Xd => (try simp only [depth_deeper, depth_caller]); omega
            case k2Xd => k_asm
            case k3Xd => k_asm
            case k4Xd => k_asm
            case k5Xd => k_asm
            case k6Xd => k_asm
            k_whole
            intro h9 tk9 t9 F9 N9
            clear C8
            have hlsl : (kvals ls').length = rows'.length := by have e := congrArg List.length rl; simpa using e
            k_steps
            unfold Stop
            with_reducible rename News _ _ _ _ => N10
            refine len_ledK N10 (by k_mem) hlsl (by omega) ?_
            intro t10 tk10
            refine told_ne (.inr (.inl ⟨_, _, _, rfl, rfl⟩)) ?_
            k_steps
            unfold Stop
            have hsb : (SC, _) ∈ fix := hf1
            exact turn_end (by assumption) N10 J3 (fun q hq => by repeat (first | exact hq | apply List.Mem.tail)) hoe hoi hI3 hsb
        case doneXb =>
          intro m n hj h tk Fd Nd
          clear ps
          subst hX
          obtain ⟨KF, LA, WA, ls, ws, hs, hv, dv, nn, D, rows, kv, q1, q2, q3, q4, q5, q6, hep, J⟩ := hj
          obtain ⟨hm, C, B, TT, O, hE, rl, rw', rh, vok, hrl, hhl, hvl', hdl⟩ := id J
          subst hm
          unfold LM at Fd
          dsimp only at Fd
          obtain ⟨⟨epL, bL⟩, ⟨epW, bW⟩, bfix, bHs, bls, bws, bpair, bkL, bkW, bkfix, bkin⟩ := id B
          have b2 := bfix _ hf2
          have b3 := bfix _ hf3
          have N1 := news_cons Nd b2 (news_cons Nd b3 Nd)
          have pm : PassIf := trivial
          k_steps
          unfold Stop
          with_reducible rename News _ _ _ _ => N2
          with_reducible rename Fr _ _ _ _ => F2
          k_dflt (refine' law_keys (A₀ := callerA) (base := ghostOf s1.heap [(204, 202)]) (outer := []) ?k1Xz ?k2Xz ?k3Xz ?k4Xz ?k5Xz ?k6Xz ?_)
          case k1Xz => (try simp only [depth_deeper, depth_caller]); omega
          case k2Xz => k_asm
          case k3Xz => k_asm
          case k4Xz => k_asm
          case k5Xz => k_asm
          case k6Xz => k_asm
          k_whole
          intro h3 tk3 LK ta tb xk ek F3 N3 hlt3 hca hcb hxk9 hxk
          have hx9 : xk.length = 9 := by have e := congrArg List.length hxk9; simpa [lawK] using e
          k_steps
          unfold Stop
          with_reducible rename News _ _ _ _ => N4
          with_reducible rename Fr _ _ _ _ => F4
          have up4 : ∀ q ∈ n, q ∈ _ := fun q hq => memN2 N4 (by repeat (first | exact hq | apply List.Mem.tail))
          refine LCg.CompSrc.ledger (its := (kvals xk).toArray) rfl F4 N4 (by k_mem) (by rw [sizeLine_eq, List.size_toArray, List.length_map]; omega) ?_
          intro gg
          refine compRest_inv (NN := (kvals xk).toArray.size) (J := fun i ys nl => ∃ rw nn, CV w (FX2.keep ⟨hl, HD, DU, s1.heap.objs.size + 1 + 1, s1.heap.objs.size + 1 + 1 + 1, s1.heap.objs.size + 1 + 1 + 1 + 1 + 1, c, cd, dd, mx, md, f, room, dbl, thr, al⟩ KF) nl c cd dd mx md nn room thr al false D rw ∧ LF2 ⟨hl, HD, DU, s1.heap.objs.size + 1 + 1, s1.heap.objs.size + 1 + 1 + 1, s1.heap.objs.size + 1 + 1 + 1 + 1 + 1, c, cd, dd, mx, md, f, room, dbl, thr, al⟩ fix KF nl LA WA ls ws hs hv dv ∧ LM2 w ⟨hl, HD, DU, s1.heap.objs.size + 1 + 1, s1.heap.objs.size + 1 + 1 + 1, s1.heap.objs.size + 1 + 1 + 1 + 1 + 1, c, cd, dd, mx, md, f, room, dbl, thr, al⟩ nl LA WA hs dv kv ∧ (hl, W.listOf hv.toArray hep) ∈ nl ∧ (LK, W.listOf (kvals xk).toArray ek) ∈ nl ∧ KLN nl xk ∧
            rw.map (fun r => (r.key, r.val)) = rows.map (fun r => (r.key, r.val)) ∧ AnsL ls rows ((kkeys xk).take i) ys) ?stepCXz ?doneCXz _ 0 [] _ (by simp)
            ⟨rows, nn, C.mono up4, B.stay (Stay.sub up4), TT.mono fun q hq _ => up4 q hq, up4 _ hE, by k_mem, hxk.mono fun q hq _ => ?hxmXz, rfl, by simpa using ansL_nil⟩
          case hxmXz =>
            rcases List.mem_cons.mp hq with rfl | hq
            · k_mem
            · rw [List.mem_singleton.mp hq]; k_mem
          case stepCXz =>
            clear N4 F4 up4 B TT hE bL bW b2 b3 bfix bHs bls bws bkfix bkin J hxk
            rintro i ys nl hi ⟨rws, n', Ci, Bi, Ti, Hi, Ki, hxi, ekv, hys⟩ v I1 oI1 C1 oC1 D1 m2 h2 tk2 E2 hv2 hC hx F2 N2 off qn
            obtain ⟨u, hu, rfl⟩ := item_kvals hv2
            have hum : u ∈ xk := List.mem_of_getElem? hu
            have g1 := Bi.hfix _ hf2
            obtain ⟨ct, ctc, bc⟩ := Ci.hc
            have bcd := Ci.hcd
            have N3 := news_cons N2 (.head _) (news_cons N2 (.tail _ (.head _)) (news_cons N2 (.tail _ (.tail _ (.head _))) (news_cons N2 (.tail _ (.tail _ (.tail _ g1))) (news_cons N2 (.tail _ (.tail _ (.tail _ bc))) (news_cons N2 (.tail _ (.tail _ (.tail _ bcd))) N2)))))
            k_steps
            unfold Stop
            have Nn := news_mono (news' := nl) N2 fun q hq => .tail _ (.tail _ (.tail _ hq))
            have hom := LCg.Off3.mem off
            have hys2 : ∀ v, Ans ls rows u.1 v → AnsL ls rows ((kkeys xk).take (i + 1)) (ys ++ [v]) := fun v hv => by
              have e : (kkeys xk).take (i + 1) = (kkeys xk).take i ++ [u.1] := by rw [List.take_add_one, List.getElem?_map, hu]; rfl
              rw [e]; exact ansL_snoc hys hv
            rcases hb : hasK ls u.1 with _ | _
            · have hno := row_no (rl.trans (kv_keys ekv).symm) hb
              have C2 := Ci.mono fun q hq => memN2 N2 (.tail _ (.tail _ (.tail _ hq)))
              k_dflt (refine' getn_v (A₀ := callerA) (base := ghostOf s1.heap [(204, 202)]) (outer := []) ?k1Xz ?kuXz ?k2Xz ?k3Xz ?k4Xz ?k5Xz N2 C2 hno ((hxi u hum).mono fun q hq _ => .tail _ (.tail _ (.tail _ hq))) ?_)
              case k1Xz => (try simp only [depth_in1, depth_deeper, depth_caller]); omega
              case kuXz => exact Nat.le_of_ble_eq_true rfl
              case k2Xz => k_asm
              case k3Xz => k_asm
              case k4Xz => k_asm
              case k5Xz => k_asm
              k_whole
              intro h4 tk4 F4 N4
              refine LCg.CompEnd.intro F4 N4 nl (fun p hp => hp) off (Or.inr ⟨_, Ki, rfl, _, rfl⟩) ⟨rws, n', Ci, Bi, Ti, Hi, Ki, hxi, ekv, hys2 _ (.inr ⟨hb, _, rfl⟩)⟩
            · obtain ⟨r0, hr0, e0⟩ := row_of rl hb
              obtain ⟨r, hr, er, ev⟩ := ans_of_kv ekv.symm hr0
              have erk : r.key = u.1 := er.trans e0
              k_dflt (refine' getf_v (A₀ := callerA) (base := ghostOf s1.heap [(204, 202)]) (outer := []) (news := nl) ?k1Xz ?kuXz ?k2Xz ?k3Xz ?k4Xz ?k5Xz N2 (fun q hq => .tail _ (.tail _ (.tail _ hq))) Ci hr (erk ▸ (hxi u hum).mono fun q hq _ => .tail _ (.tail _ (.tail _ hq))) ?_)
              case k1Xz => (try simp only [depth_in1, depth_deeper, depth_caller]); omega
              case kuXz => exact Nat.le_of_ble_eq_true rfl
              case k2Xz => k_asm
              case k3Xz => k_asm
              case k4Xz => k_asm
              case k5Xz => k_asm
              k_whole
              intro h4 tk4 t4 nl4 F4 Na Nb C4 hfr had
              have hrl := (Ci.hrows r hr).2
              obtain ⟨o1, o2, o3⟩ := hom _ bc
              obtain ⟨p1', p2', p3'⟩ := hom _ hrl
              dsimp only at o1 o2 o3 p1' p2' p3' bc
              have m1 := hfr _ Ki (news_nec Nn Ki bc (by simp)) (news_ne Nn Ki hrl fun e => by
                have e2 := congrArg Obj.data e
                simp only [W.listOf, Data.seq.injEq] at e2
                have e3 := congrArg Array.size e2.1
                simp only [List.size_toArray, List.length_map, hx9, List.length_cons, List.length_nil] at e3
                omega)
              have m2 := hfr _ Hi (news_nec Nn Hi bc (by simp)) fun e => Ci.hoff r hr (e ▸ .head _)
              have S := stayC Nn Ci O Hi fun q hq a1 _ _ _ a5 => hfr q hq a1 (a5 r hr)
              have Nz := news_cons Nb (wo_mem (.head _) (by simp [Ne.symm o1, Ne.symm p1'])) (news_cons Nb (wo_mem (.tail _ (.head _)) (by simp [Ne.symm o2, Ne.symm p2'])) (news_cons Nb (wo_mem (.tail _ (.tail _ (.head _))) (by simp [Ne.symm o3, Ne.symm p3'])) Na))
              exact LCg.CompEnd.intro F4 Nz nl4 (fun p hp => hp) (off3_ofK fun p hp => (had p hp).elim fun o ho => hom (p.1, o) ho) (Or.inr ⟨_, m1, rfl, _, rfl⟩)
                ⟨_, _, C4, Bi.stay S.frz, Ti.stay S, m2, m1, KLN.mono2 hxi S.2, touch_kv.trans ekv, hys2 _ (.inl ⟨hb, r0, hr0, e0, ev⟩)⟩
          case doneCXz =>
            rintro ys nl ⟨rws, n', Ci, Bi, Ti, Hi, Ki, hxi, ekv, hys⟩
            unfold LCg.FinE
            intro D8 h8 tk8 F8 N8 hO8
            clear N4 F4 up4 B TT hE bL bW b2 b3 bfix bHs bls bws bpair bkL bkW bkfix bkin J hxk
            rw [List.size_toArray, List.length_map, show xk.length = (kkeys xk).length by rw [List.length_map], List.take_length, hxk9] at hys
            obtain ⟨⟨ol, tl, dl⟩, -, -, ⟨oH, tH, dH⟩, ⟨epD, tD⟩⟩ := id Ti
            obtain ⟨⟨epL, bL⟩, -, bfix, bHs, bls, -, bpair, -, -, -, -⟩ := id Bi
            dsimp only at tl tH tD
            have b3 := bfix _ hf3
            have b7 := bfix _ hf7
            have N9 := news_cons N8 (.head _) (news_cons N8 (.tail _ tl) (news_cons N8 (.tail _ b3) (news_cons N8 (.tail _ tH) (news_cons N8 (.tail _ bL) (news_cons N8 (.tail _ b7) (news_cons N8 (.tail _ Hi) (news_cons N8 (.tail _ tD) (news_mono N8 fun q hq => .tail _ hq))))))))
            have mD8 := memN2 N8 (.head _)
            clear N8
            k_steps
            unfold Stop
            k_dflt (refine' law_keys (A₀ := callerA) (base := ghostOf s1.heap [(204, 202)]) (outer := []) ?k1Xz ?k2Xz ?k3Xz ?k4Xz ?k5Xz ?k6Xz ?_)
            case k1Xz => (try simp only [depth_deeper, depth_caller]); omega
            case k2Xz => k_asm
            case k3Xz => k_asm
            case k4Xz => k_asm
            case k5Xz => k_asm
            case k6Xz => k_asm
            k_whole
            intro h10 tk10 LK2 ta2 tb2 xk2 ek2 F10 N10 hlt10 hca2 hcb2 hxk92 hxk2
            have hx92 : xk2.length = 9 := by have e := congrArg List.length hxk92; simpa [lawK] using e
            k_steps
            unfold Stop
            with_reducible rename News _ _ _ _ => N11
            with_reducible rename Fr _ _ _ _ => F11
            have nm11 : ∀ q ∈ nl, q ∈ _ := fun q hq => memN2 N11 (by repeat (first | exact hq | apply List.Mem.tail))
            have hxk3 := hxk2.mono fun q hq _ => memN2 N11 (q := q) (by
              rcases List.mem_cons.mp hq with rfl | hq
              · k_mem
              · rw [List.mem_singleton.mp hq]; k_mem)
            have bls2 := bls.mono fun q hq _ => nm11 q hq
            have bHs2 := bHs.mono fun q hq _ => nm11 q hq
            refine LCg.CompSrc.ledger (its := (kvals xk2).toArray) rfl F11 N11 (by k_mem) (by rw [sizeLine_eq, List.size_toArray, List.length_map]; omega) ?_
            intro gg2
            refine compRest_inv (NN := (kvals xk2).toArray.size) (J := fun i zs nz => nz = _ ∧ AnsL ls rows ((kkeys xk2).take i) zs) ?stepDXz ?doneDXz _ 0 [] _ (by simp) ⟨rfl, by simpa using ansL_nil⟩
            case stepDXz =>
              have pt : PassTail := trivial
              rintro i zs nz hi ⟨rfl, hzs⟩ v I1 oI1 C1 oC1 D1 m2 h2 tk2 E2 hv2 hC hx F2 N2 off qn
              obtain ⟨u, hu, rfl⟩ := item_kvals hv2
              have hum : u ∈ xk2 := List.mem_of_getElem? hu
              have hzs2 : ∀ v, Ans ls rows u.1 v → AnsL ls rows ((kkeys xk2).take (i + 1)) (zs ++ [v]) := fun v hv => by
                have e : (kkeys xk2).take (i + 1) = (kkeys xk2).take i ++ [u.1] := by rw [List.take_add_one, List.getElem?_map, hu]; rfl
                rw [e]; exact ansL_snoc hzs hv
              k_steps
              unfold Stop
              with_reducible refine IfExp_ ?_
              k_steps
              unfold Stop
              refine kl_in (by units_room) N2 (by k_mem) (bls2.mono fun q hq _ => .tail _ (.tail _ (.tail _ hq))) ((hxk3 u hum).mono fun q hq _ => .tail _ (.tail _ (.tail _ hq))) ?_
              rcases hb : hasK ls u.1 with _ | _
              · k_steps
                unfold Stop
                exact LCg.CompEnd.intro F2 N2 _ (fun p hp => hp) off (Or.inr ⟨_, by k_mem, rfl, _, rfl⟩) ⟨rfl, hzs2 _ (.inr ⟨hb, _, rfl⟩)⟩
              · k_steps
                unfold Stop
                obtain ⟨r0, hr0, e0⟩ := row_of rl hb
                have hat := rh r0 hr0
                rw [e0] at hat
                refine v_item (by units_room) N2 (by k_mem) dH (bHs2.mono fun q hq _ => .tail _ (.tail _ (.tail _ hq))) ((hxk3 u hum).mono fun q hq _ => .tail _ (.tail _ (.tail _ hq))) hat ?_
                exact LCg.CompEnd.intro F2 N2 _ (fun p hp => hp) off (Or.inr ⟨_, by k_mem, rfl, _, rfl⟩) ⟨rfl, hzs2 _ (.inl ⟨hb, r0, hr0, e0, rfl⟩)⟩
            case doneDXz =>
              rintro zs nz ⟨rfl, hzs⟩
              rw [List.size_toArray, List.length_map, show xk2.length = (kkeys xk2).length by rw [List.length_map], List.take_length, hxk92] at hzs
              unfold LCg.FinE
              intro D11 h11 tk11 F12 N12 hO11
              k_steps
              unfold Stop
              refine ansL_ne (by units_room) ⟨_, (N12 (D8, _) (by k_mem)).1, rfl, _, rfl⟩ ⟨_, (N12 _ (.head _)).1, rfl, _, rfl⟩ C.hkn vok hys hzs ?_
              have nm12 : ∀ q ∈ nl, q ∈ _ := fun q hq => memN2 N12 (.tail _ (nm11 q hq))
              k_steps
              unfold Stop
              have pt : PassTail := trivial
              with_reducible refine IfExp_ ?_
              rcases hjoin with rfl | rfl
              · k_steps
                unfold Stop
                with_reducible rename News _ _ _ _ => N13
                have hv0 : hv = [] := bpair.elim (fun h => h.2) fun h => nomatch h.1
                subst hv0
                refine pairs_eq (news := nl) (KF := KF) (hv := []) (dv := []) (by units_room) (news_mono (news' := nl) N13 fun q hq => .tail _ (nm12 q hq)) ⟨_, (N13 (hl, _) (by k_mem)).1, rfl, _, rfl⟩ ⟨_, (N13 _ (.head _)).1, rfl, _, rfl⟩ trivial ?_
                have g4 := memN2 N13 (.tail _ (nm12 _ (bfix _ hf4)))
                have N14 := news_cons N13 g4 N13
                clear N13
                k_steps
              · k_steps
                unfold Stop
                have hP : PairsL nl KF hv dv := bpair.elim (fun h => nomatch h.1) fun h => h.2
                refine pairs_eq (news := nl) (KF := KF) (hv := hv) (dv := dv) (by units_room) (news_mono (news' := nl) N12 fun q hq => nm12 q hq) ⟨_, (N12 (hl, _) (by k_mem)).1, rfl, _, rfl⟩ ⟨_, (N12 (DU, _) (by k_mem)).1, rfl, _, rfl⟩ hP ?_
                have g4 := memN2 N12 (nm12 _ (bfix _ hf4))
                have N14 := news_cons N12 g4 N12
                k_steps)
end Mine2
end
theorem PySem.Challenge.cw_eu0033_02_holds : PySem.Challenge.rw_eu0033_02.Holds := by
  exact Mine2.law
