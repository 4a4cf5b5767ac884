import PyProof.Rows.All
import Wide.All
import OpenK.AllK
import Wide.FinOn
import PyProof.MeetsSeq3
import PySem.Challenge.RW_eu0033_01
open PySem PySem.W PyProof.Rows
set_option Elab.async false
namespace Mine1
set_option maxRecDepth 100000 in
set_option maxHeartbeats 8000000 in
open_top hd for PySem.Challenge.rw_eu0033_01
end Mine1
section
open PySem PySem.W PyProof.Rows PySem.Calls
namespace MineS
set_option maxRecDepth 100000

section
variable {prog : Program} {w : World} {A : Around} {E : Value → Shared → Prop} {s : Shared}
theorem lookup_fn_bool : typeLookup (.type "function") "__bool__" = pure none := by rw [typeLookup_type, builtinLookup_eq_fast]; kernel_rfl
theorem lookup_fn_len : typeLookup (.type "function") "__len__" = pure none := by rw [typeLookup_type, builtinLookup_eq_fast]; kernel_rfl
theorem truthy_fn {a : Addr} {Q : Bool → Shared → Prop} (hT : s.TypeIs (.ref a) "function") (h : Q true s) : wpAny (model prog w) A (truthy (.ref a)) Q E s := by
  unfold truthy
  refine wpAny_bind (wpAny_callSpecial?_none hT lookup_fn_bool ?_)
  refine wpAny_bind (wpAny_specialOf hT lookup_fn_len ?_)
  exact wpAny_pure h
theorem call_bool_fn {a : Addr} {Q : Value → Shared → Prop} (hT : s.TypeIs (.ref a) "function") (h : Q (.bool true) s) : wpAny (model prog w) A (call (.type "bool") [.ref a]) Q E s := by
  refine call_bool_1 (S := fun _ R s => s.TypeIs (.ref a) "function" ∧ R (.ok (.ret (.bool true))) s) ?_ ⟨hT, rfl, h⟩
  refine Meets.of_wp fun prog w A R s hs => ?_
  obtain ⟨hp, g, d, tk, os⟩ := s
  have f1 := F.conv_sub_bool
  have hs1 := hs.1
  repeat (any_goals (first | assumption | (with_reducible refine truthy_fn hs1 ?_) | wp_step))
  all_goals first | exact ⟨_, rfl, hs.2⟩ | exact hs.2 | skip
end

/-- what a call that may catch an exception hands back: the ghost is turned (frames' slots alone) -/
def Back (A₀ : Around) (base : Heap) (outer : List Env) (K : Frag) (p : Program) (loose : List Str) (mean : ExcName → Option Value) (mg mb : Str → Option Value) (h₀ : Heap) (L : Addr) (m : Str → Option Value) (h' : Heap) (news' : List (Addr × Obj)) (h₀' : Heap) : Prop :=
  KtsTurn (outer.filterMap (·.frame)) h₀ h₀' ∧ Fr h₀' L h' m ∧ News h₀' L h' news' ∧ Below A₀ base outer h₀' ∧ K.In h₀' ∧ Top p loose mean mg mb h₀' ∧ KtsDicts (outer.filterMap (·.frame)) h₀'

def LeaveX (fs : List Addr) (A₀ : Around) (base : Heap) (outer : List Env) (K : Frag) (p : Program) (loose : List Str) (mean : ExcName → Option Value) (mg mb : Str → Option Value) (h₀ : Heap) (L : Addr) (m : Str → Option Value) (g : Heap) (R : Result → Shared → Prop) (v : Value) (s' : Shared) : Prop :=
  ∃ g' L'' m' news', KtsTurn fs g g' ∧ Fr g' L'' s'.heap m' ∧ News g' L'' s'.heap news' ∧ ∀ h₀', Back A₀ base outer K p loose mean mg mb h₀ L m s'.heap news' h₀' → R (.ok (.ret v)) s'

theorem leaveX_ {fs : List Addr} {A₀ : Around} {base : Heap} {outer : List Env} {K : Frag} {p : Program} {loose : List Str} {mean : ExcName → Option Value} {mg mb : Str → Option Value} {h₀ : Heap} {L : Addr} {m : Str → Option Value} {g : Heap} {R : Result → Shared → Prop} {v : Value} {s' : Shared}
    {g' : Heap} {L'' : Addr} {m' : Str → Option Value} {news' : List (Addr × Obj)} (F' : Fr g' L'' s'.heap m') (N' : News g' L'' s'.heap news') (T : KtsTurn fs g g') (k : ∀ h₀', Back A₀ base outer K p loose mean mg mb h₀ L m s'.heap news' h₀' → R (.ok (.ret v)) s') :
    LeaveX fs A₀ base outer K p loose mean mg mb h₀ L m g R v s' := ⟨g', L'', m', news', T, F', N', k⟩

theorem frames_mem {env : Env} {outer : List Env} {L b : Addr} (hf : env.frame = some L) (hm : b ∈ (env :: outer).filterMap (·.frame)) : b = L ∨ b ∈ outer.filterMap (·.frame) := by
  rw [List.filterMap_cons_some hf] at hm
  exact List.mem_cons.mp hm

section
variable {prog : Program} {w : World} {A₀ A : Around} {s : Shared} {base h₀ : Heap} {outer : List Env} {L : Addr} {m : Str → Option Value} {env : Env} {news : List (Addr × Obj)} {K : Frag} {p : Program} {loose : List Str} {mean : ExcName → Option Value} {mg mb : Str → Option Value}
  {R : Result → Shared → Prop} {name qual : Str} {params : Arguments} {body : List Stmt} {scope : Scope} {cl : List (Str × Addr)} {dV kV doc pm cdv ct : Value} {an : Option Addr} {fo : Obj} {f : Addr} {args : Args} {binds : List (Str × Value)}

theorem ghost_up (B : Below A₀ base outer h₀) (F : Fr h₀ L s.heap m) (N : News h₀ L s.heap news) (hA : A.frames = some (env :: outer)) (hf : env.frame = some L) (hke : env.scope.kind = .function) (D : KtsDicts (outer.filterMap (·.frame)) h₀) :
    ∃ g oL es ep, g = hideAll s.heap (news.map (·.1)) ∧ g.get? L = some oL ∧ oL.data = .dict es ep ∧ (∀ (sl : Array (Option Value)) h', Heap.get? h' L = some { oL with slots := sl } → Heap.Ns h' L m) ∧ h₀.StaysIn g ∧ Below A base (env :: outer) g ∧ KtsDicts ((env :: outer).filterMap (·.frame)) g := by
  obtain ⟨F', B', st, _⟩ := groundX (R := fun _ _ => True) B F N hA hf hke
  obtain ⟨oL, es, ep, hL, hLd, hLk, hLf⟩ := F'.ns
  refine ⟨_, oL, es, ep, rfl, hL, hLd, fun sl h' e => ⟨_, es, ep, e, hLd, hLk, hLf⟩, st, B', fun b hb => ?_⟩
  rcases frames_mem hf hb with rfl | hb
  · exact ⟨oL, es, ep, hL, hLd⟩
  · obtain ⟨o, es', n', ho', hd'⟩ := D b hb
    exact ⟨o, es', n', st b o ho', hd'⟩

theorem back_of {g g' : Heap} {oL : Obj} {L' : Addr} {m' : Str → Option Value} {news' : List (Addr × Obj)} {h' : Heap} (hf : env.frame = some L) (B : Below A₀ base outer h₀) (F : Fr h₀ L s.heap m) (XB : K.In base) (TB : Top p loose mean mg mb base) (D : KtsDicts (outer.filterMap (·.frame)) h₀)
    (hL : g.get? L = some oL) (hNs : ∀ (sl : Array (Option Value)) h', Heap.get? h' L = some { oL with slots := sl } → Heap.Ns h' L m) (st : h₀.StaysIn g)
    (T : KtsTurn ((env :: outer).filterMap (·.frame)) g g') (F' : Fr g' L' h' m') (N' : News g' L' h' news') : ∃ h₀', Back A₀ base outer K p loose mean mg mb h₀ L m h' news' h₀' := by
  have nL₀ : h₀.get? L = none := kts_self F
  have up : ∀ b o, h₀.get? b = some o → ∃ sl, h'.get? b = some { o with slots := sl } := fun b o e => by
    obtain ⟨sl, hs⟩ := T.up (st b o e)
    exact ⟨sl, F'.keep _ _ hs⟩
  obtain ⟨T₁, S₁⟩ := kts_turn_at (h := h') (fs := outer.filterMap (·.frame)) (g := h₀)
    (fun b hb => let ⟨_, o, ho', _⟩ := B.frames.mem hb; ⟨o, ho'⟩)
    (fun b o e nm => F'.keep b o (T.other b o (st b o e) fun q => by
      rcases frames_mem hf q with z | z
      · rw [z, nL₀] at e; cases e
      · exact nm z))
    (fun b o e _ => up b o e)
  have B₁ : Below A₀ base outer (ktsHeap h' (outer.filterMap (·.frame)) h₀) := ⟨B.stack, fun b o e => T₁.other b o (B.stays b o e) (fun hm => by rw [(B.frames.mem hm).1] at e; cases e),
    B.frames.of_keeps fun b o e _ => let ⟨sl', hs'⟩ := T₁.up e; ⟨_, hs', rfl⟩⟩
  obtain ⟨sl, hs⟩ := T.up hL
  refine ⟨_, T₁, ⟨hNs sl _ (F'.keep _ _ hs), S₁, by rw [T₁.size]; exact F.above⟩, fun q hq => ⟨(N' q hq).1, fun z => ?_, T₁.none_ _ ?_⟩, B₁, XB.keeps B₁.stays, TB.keeps B₁.stays, D.turn T₁⟩
  · have := (N' q hq).2.2; rw [z, hs] at this; cases this
  · cases z : h₀.get? q.1 with
    | none => rfl
    | some o =>
      obtain ⟨sl', hs'⟩ := T.up (st _ _ z)
      have := (N' q hq).2.2
      rw [hs'] at this; cases this

/-- a call of a def (closures too) whose body may catch: the callee runs over a ghost that may be turned -/
theorem call_SX (B : Below A₀ base outer h₀) (F : Fr h₀ L s.heap m) (N : News h₀ L s.heap news) (X₀ : K.In h₀) (T : Top p loose mean mg mb h₀) (XB : K.In base) (TB : Top p loose mean mg mb base) (D : KtsDicts (outer.filterMap (·.frame)) h₀)
    (hA : A.frames = some (env :: outer)) (hf : env.frame = some L) (hke : env.scope.kind = .function)
    (ho : s.heap.get? f = some fo) (hd : fo.data = .func (fnX name qual params body scope cl dV kV doc pm an cdv ct)) (hcd : s.heap.CodeRec cdv qual) (hroom : A.depth < recursionLimit)
    (hbind : BindsTo s (fnX name qual params body scope cl dV kV doc pm an cdv ct) args binds) (hloc : ∀ y ∈ binds, scope.names.lookup y.1 = some .local)
    (h : ∀ g L' h₁, Fr g L' h₁ (fun y => binds.reverse.lookup y) → News g L' h₁ news → Below A base (env :: outer) g → K.In g → Top p loose mean mg mb g → KtsDicts ((env :: outer).filterMap (·.frame)) g →
      wpAny (model prog w) (A.deeper (envX qual scope L' f cdv cl)) (execs body (envX qual scope L' f cdv cl))
        (fun fl s' => LeaveX ((env :: outer).filterMap (·.frame)) A₀ base outer K p loose mean mg mb h₀ L m g R (match fl with | .ret v => v | _ => .none) s')
        (fun e s' => wpAny (model prog w) (A.deeper (envX qual scope L' f cdv cl)) (leaving (envX qual scope L' f cdv cl) e) (fun _ s'' => R (.error e) s'') (fun e' s'' => R (.error e') s'') s')
        { s with heap := h₁, toks := s.toks + binds.length })
    (hcell : ∀ x ∈ scope.names, x.2 ≠ .cell) (hco : scope.isCoroutine = false := by rfl) (hgen : scope.isGenerator = false := by rfl) (hk : scope.kind = .function := by rfl) : codeAny (model prog w) A (.call (.ref f) args) R s := by
  obtain ⟨g, oL, es, ep, eg, hL, hLd, hNs, st, B', D'⟩ := ghost_up B F N hA hf hke D
  refine codeAny_call_def (fd := fnX name qual params body scope cl dV kV doc pm an cdv ct) (body := body) (binds := binds) hroom ho hd (T.nolimit.keeps F.keep) hcd rfl hbind hcell hloc (fun h₁ hns hk₁ => ?_) hco hgen hk
  have Fg : Fr g s.heap.objs.size h₁ (fun y => binds.reverse.lookup y) := ⟨hns, fun b o e => hk₁ b o (of_hideAll _ (eg ▸ e)), by rw [eg]; exact Nat.le_of_eq (hideAll_size _ _)⟩
  have Ng : News g s.heap.objs.size h₁ news := fun q hq => ⟨hk₁ _ _ (N q hq).1, Nat.ne_of_lt (Heap.lt_size (N q hq).1), by rw [eg]; exact hideAll_none _ (List.mem_map_of_mem hq)⟩
  refine wpAny_mono (h g s.heap.objs.size h₁ Fg Ng B' (X₀.keeps st) (T.keeps st) D') (fun fl s' hl => ?_) fun _ _ y => y
  obtain ⟨g', L'', m', news', T', F', N', k⟩ := hl
  obtain ⟨h₀', b⟩ := back_of (K := K) (p := p) (loose := loose) (mean := mean) (mg := mg) (mb := mb) hf B F XB TB D hL hNs st T' F' N'
  exact k h₀' b

theorem call_SK {oc : Value} {od : Option Addr} {osl : Array (Option Value)} (B : Below A₀ base outer h₀) (F : Fr h₀ L s.heap m) (X₀ : K.In h₀) (N : News h₀ L s.heap news) (T : Top p loose mean mg mb h₀) (XB : K.In base) (TB : Top p loose mean mg mb base) (D : KtsDicts (outer.filterMap (·.frame)) h₀)
    (hA : A.frames = some (env :: outer)) (hf : env.frame = some L) (hke : env.scope.kind = .function)
    (ho : K.lookup f = some ⟨oc, od, .func (fnOf name qual params body scope dV kV doc pm an cdv ct), osl⟩) (hcd : codeIn K cdv qual = true) (hroom : A.depth < recursionLimit)
    (hbind : BindsTo s (fnOf name qual params body scope dV kV doc pm an cdv ct) args binds) (hloc : ∀ y ∈ binds, scope.names.lookup y.1 = some .local)
    (h : ∀ g L' h₁, Fr g L' h₁ (fun y => binds.reverse.lookup y) → News g L' h₁ news → Below A base (env :: outer) g → K.In g → Top p loose mean mg mb g → KtsDicts ((env :: outer).filterMap (·.frame)) g →
      wpAny (model prog w) (A.deeper (envOf qual scope L' f cdv)) (execs body (envOf qual scope L' f cdv))
        (fun fl s' => LeaveX ((env :: outer).filterMap (·.frame)) A₀ base outer K p loose mean mg mb h₀ L m g R (match fl with | .ret v => v | _ => .none) s')
        (fun e s' => wpAny (model prog w) (A.deeper (envOf qual scope L' f cdv)) (leaving (envOf qual scope L' f cdv) e) (fun _ s'' => R (.error e) s'') (fun e' s'' => R (.error e') s'') s')
        { s with heap := h₁, toks := s.toks + binds.length })
    (hco : scope.isCoroutine = false) (hgen : scope.isGenerator = false) (hk : scope.kind = .function) (hcell : ∀ x ∈ scope.names, x.2 ≠ .cell) : codeAny (model prog w) A (.call (.ref f) args) R s :=
  call_SX (cl := []) B F N X₀ T XB TB D hA hf hke ((X₀.keeps F.keep) _ _ ho) rfl (codeRec_of (X₀.keeps F.keep) hcd) hroom hbind hloc h hcell hco hgen hk
end
end MineS
end
section
open PySem PySem.W PyProof.Rows
namespace MineP
set_option maxRecDepth 100000
/-! the sort's tree of questions, run by keys that are all different: it hands out the order of the keys -/
def krun {α : Type} (cmp : Nat → Nat → Bool) : KasT α → α
  | .ret a => a
  | .ask i j k => krun cmp (k (cmp i j))
theorem krun_bind {α β : Type} {cmp : Nat → Nat → Bool} {f : α → KasT β} : ∀ t : KasT α, krun cmp (t.bind f) = krun cmp (f (krun cmp t))
  | .ret _ => rfl
  | .ask i j k => by
    show krun cmp ((k (cmp i j)).bind f) = _
    rw [krun_bind (k (cmp i j))]; rfl
/-- every question on the way is a fair one -/
def kok {α : Type} (ok : Nat → Nat → Prop) (cmp : Nat → Nat → Bool) : KasT α → Prop
  | .ret _ => True
  | .ask i j k => ok i j ∧ kok ok cmp (k (cmp i j))
theorem kok_bind {α β : Type} {ok : Nat → Nat → Prop} {cmp : Nat → Nat → Bool} {f : α → KasT β} : ∀ t : KasT α, kok ok cmp t → kok ok cmp (f (krun cmp t)) → kok ok cmp (t.bind f)
  | .ret _, _, h => h
  | .ask i j k, h1, h2 => ⟨h1.1, kok_bind (k (cmp i j)) h1.2 h2⟩
theorem krun_wp {α : Type} {ask : Nat → Nat → (Bool → Shared → Prop) → Shared → Prop} {ok : Nat → Nat → Prop} {cmp : Nat → Nat → Bool} {I : Shared → Prop} {Q : α → Shared → Prop}
    (ha : ∀ i j s C, ok i j → I s → (∀ s', I s' → C (cmp i j) s') → ask i j C s) : ∀ (t : KasT α) (s : Shared), kok ok cmp t → I s → (∀ s', I s' → Q (krun cmp t) s') → t.kasWp ask Q s
  | .ret _, s, _, hs, h => h s hs
  | .ask i j k, s, o, hs, h => ha i j s _ o.1 hs fun s' hs' => krun_wp ha (k (cmp i j)) s' o.2 hs' h

section
variable (key : Nat → Int)
def Kp (p : Array Nat) (i : Nat) : Int := key (p.getD i 0)
abbrev kcmp (i j : Nat) : Bool := decide (key i < key j)
def Asc (p : Array Nat) (m : Nat) : Prop := ∀ i j, i < j → j < m → Kp key p i < Kp key p j
def Desc (p : Array Nat) (m : Nat) : Prop := ∀ i j, i < j → j < m → Kp key p j < Kp key p i
/-- keys that differ at all places below n -/
def Dis (p : Array Nat) (n : Nat) : Prop := ∀ i j, i < j → j < n → Kp key p i ≠ Kp key p j
variable {key}
variable {n₀ : Nat}
/-- the places that the array names lie below n₀ -/
def Rng (n₀ : Nat) (p : Array Nat) (N : Nat) : Prop := ∀ i, i < N → p.getD i 0 < n₀
variable (key n₀) in
abbrev Ok (i j : Nat) : Prop := i < n₀ ∧ j < n₀ ∧ key i ≠ key j
theorem Asc.snoc {p : Array Nat} {m : Nat} (h : Asc key p m) (h1 : ∀ i, i < m → Kp key p i < Kp key p m) : Asc key p (m + 1) := fun i j hij hj => by
  by_cases e : j = m
  · subst e; exact h1 i hij
  · exact h i j hij (by omega)
theorem Desc.snoc {p : Array Nat} {m : Nat} (h : Desc key p m) (h1 : ∀ i, i < m → Kp key p m < Kp key p i) : Desc key p (m + 1) := fun i j hij hj => by
  by_cases e : j = m
  · subst e; exact h1 i hij
  · exact h i j hij (by omega)
theorem asc_one {p : Array Nat} : Asc key p 1 := fun i j hij hj => by omega

theorem asc_run {p : Array Nat} {N : Nat} (D : Dis key p N) (R : Rng n₀ p N) : ∀ (f n : Nat), 1 ≤ n → n + f ≤ N → Asc key p n →
    kok (Ok key n₀) (kcmp key) (kas_asc p f n) ∧ ∃ m, krun (kcmp key) (kas_asc p f n) = m ∧ n ≤ m ∧ m ≤ n + f ∧ Asc key p m ∧ (m < n + f → Kp key p m < Kp key p (m - 1))
  | 0, n, _, _, h => ⟨trivial, n, rfl, Nat.le_refl _, Nat.le_refl _, h, fun h => by omega⟩
  | f + 1, n, h1, h2, h => by
    have o : Ok key n₀ (p.getD n 0) (p.getD (n - 1) 0) := ⟨R _ (by omega), R _ (by omega), (D (n - 1) n (by omega) (by omega)).symm⟩
    show (Ok key n₀ (p.getD n 0) (p.getD (n - 1) 0) ∧ kok (Ok key n₀) (kcmp key) (if kcmp key (p.getD n 0) (p.getD (n - 1) 0) = true then KasT.ret n else kas_asc p f (n + 1))) ∧ ∃ m, krun (kcmp key) (if kcmp key (p.getD n 0) (p.getD (n - 1) 0) = true then KasT.ret n else kas_asc p f (n + 1)) = m ∧ _
    by_cases c : Kp key p n < Kp key p (n - 1)
    · have c' : kcmp key (p.getD n 0) (p.getD (n - 1) 0) = true := decide_eq_true c
      rw [if_pos c']
      exact ⟨⟨o, trivial⟩, n, rfl, Nat.le_refl _, by omega, h, fun _ => c⟩
    · have c' : ¬ kcmp key (p.getD n 0) (p.getD (n - 1) 0) = true := fun e => c (of_decide_eq_true e)
      rw [if_neg c']
      have d := D (n - 1) n (by omega) (by omega)
      have hn : Asc key p (n + 1) := h.snoc fun i hi => by
        by_cases e : i = n - 1
        · subst e; omega
        · have := h i (n - 1) (by omega) (by omega); omega
      obtain ⟨k, m, e, a1, a2, a3, a4⟩ := asc_run D R f (n + 1) (by omega) (by omega) hn
      exact ⟨⟨o, k⟩, m, e, by omega, by omega, a3, fun q => a4 (by omega)⟩

theorem desc_run {p : Array Nat} {N : Nat} (D : Dis key p N) (R : Rng n₀ p N) : ∀ (f n : Nat), 2 ≤ n → n + f ≤ N → Desc key p n →
    kok (Ok key n₀) (kcmp key) (kas_desc f p n 0) ∧ ∃ m, krun (kcmp key) (kas_desc f p n 0) = (p, m, 0) ∧ n ≤ m ∧ m ≤ n + f ∧ Desc key p m
  | 0, n, _, _, h => ⟨trivial, n, rfl, Nat.le_refl _, Nat.le_refl _, h⟩
  | f + 1, n, h1, h2, h => by
    have d := D (n - 1) n (by omega) (by omega)
    have o : Ok key n₀ (p.getD n 0) (p.getD (n - 1) 0) := ⟨R _ (by omega), R _ (by omega), d.symm⟩
    show (Ok key n₀ (p.getD n 0) (p.getD (n - 1) 0) ∧ kok (Ok key n₀) (kcmp key) (if kcmp key (p.getD n 0) (p.getD (n - 1) 0) = true then (if 0 > 0 then kas_desc f (kas_rev p (n - (0 + 1)) n) (n + 1) 0 else kas_desc f p (n + 1) 0)
      else .ask (p.getD (n - 1) 0) (p.getD n 0) fun d => if d = true then .ret (p, n, 0) else kas_desc f p (n + 1) (0 + 1))) ∧
      ∃ m, krun (kcmp key) (if kcmp key (p.getD n 0) (p.getD (n - 1) 0) = true then (if 0 > 0 then kas_desc f (kas_rev p (n - (0 + 1)) n) (n + 1) 0 else kas_desc f p (n + 1) 0)
      else .ask (p.getD (n - 1) 0) (p.getD n 0) fun d => if d = true then .ret (p, n, 0) else kas_desc f p (n + 1) (0 + 1)) = (p, m, 0) ∧ _
    by_cases c : Kp key p n < Kp key p (n - 1)
    · have c' : kcmp key (p.getD n 0) (p.getD (n - 1) 0) = true := decide_eq_true c
      rw [if_pos c', if_neg (by omega)]
      have hn : Desc key p (n + 1) := h.snoc fun i hi => by
        by_cases e : i = n - 1
        · subst e; exact c
        · have := h i (n - 1) (by omega) (by omega); omega
      obtain ⟨k, m, e, a1, a2, a3⟩ := desc_run D R f (n + 1) (by omega) (by omega) hn
      exact ⟨⟨o, k⟩, m, e, by omega, by omega, a3⟩
    · have c' : ¬ kcmp key (p.getD n 0) (p.getD (n - 1) 0) = true := fun e => c (of_decide_eq_true e)
      rw [if_neg c']
      have c2 : kcmp key (p.getD (n - 1) 0) (p.getD n 0) = true := decide_eq_true (by unfold Kp at c d; omega)
      show (Ok key n₀ (p.getD n 0) (p.getD (n - 1) 0) ∧ Ok key n₀ (p.getD (n - 1) 0) (p.getD n 0) ∧ kok (Ok key n₀) (kcmp key) (if kcmp key (p.getD (n - 1) 0) (p.getD n 0) = true then KasT.ret (p, n, 0) else kas_desc f p (n + 1) (0 + 1))) ∧
        ∃ m, krun (kcmp key) (if kcmp key (p.getD (n - 1) 0) (p.getD n 0) = true then KasT.ret (p, n, 0) else kas_desc f p (n + 1) (0 + 1)) = (p, m, 0) ∧ _
      rw [if_pos c2]
      exact ⟨⟨o, ⟨o.2.1, o.1, d⟩, trivial⟩, n, rfl, Nat.le_refl _, by omega, h⟩

theorem getD_eq {p q : Array Nat} {i j : Nat} (h : p[i]? = q[j]?) : Kp key p i = Kp key q j := by
  unfold Kp; rw [Array.getD_eq_getD_getElem?, Array.getD_eq_getD_getElem?, h]
theorem getD_same {p q : Array Nat} {i j : Nat} (h : p[i]? = q[j]?) : p.getD i 0 = q.getD j 0 := by
  rw [Array.getD_eq_getD_getElem?, Array.getD_eq_getD_getElem?, h]
theorem rev_rng {p : Array Nat} {n N : Nat} (hn : n ≤ N) (hN : N ≤ p.size) (R : Rng n₀ p N) : Rng n₀ (kas_rev p 0 n) N := fun k hk => by
  have e := getElem?_mirror_all (xs := p) (i := 0) (j := n) (by omega) k
  unfold kas_rev
  by_cases h : k < n
  · rw [if_pos ⟨Nat.zero_le _, h⟩] at e
    rw [getD_same e]; exact R _ (by omega)
  · rw [if_neg (fun q => h q.2)] at e
    rw [getD_same e]; exact R _ hk
theorem rev_at {p : Array Nat} {n : Nat} (hn : n ≤ p.size) (k : Nat) : Kp key (kas_rev p 0 n) k = if k < n then Kp key p (n - 1 - k) else Kp key p k := by
  have e := getElem?_mirror_all (xs := p) (i := 0) hn k
  unfold kas_rev
  by_cases h : k < n
  · rw [if_pos h]
    refine getD_eq ?_
    rw [e, if_pos ⟨Nat.zero_le _, h⟩]
    congr 1; omega
  · rw [if_neg h]
    refine getD_eq ?_
    rw [e, if_neg (fun q => h q.2)]
theorem rev_size (p : Array Nat) (n : Nat) : (kas_rev p 0 n).size = p.size := mirror_size _ _ _ _
theorem rev_asc {p : Array Nat} {n : Nat} (hn : n ≤ p.size) (h : Desc key p n) : Asc key (kas_rev p 0 n) n := fun i j hij hj => by
  rw [rev_at hn, rev_at hn, if_pos (by omega), if_pos hj]
  exact h _ _ (by omega) (by omega)
theorem rev_dis {p : Array Nat} {n N : Nat} (hn : n ≤ N) (hN : N ≤ p.size) (D : Dis key p N) : Dis key (kas_rev p 0 n) N := fun i j hij hj => by
  rw [rev_at (by omega), rev_at (by omega)]
  by_cases h2 : j < n
  · rw [if_pos (by omega), if_pos h2]
    exact (D _ _ (by omega) (by omega)).symm
  · rw [if_neg h2]
    by_cases h1 : i < n
    · rw [if_pos h1]; exact D _ _ (by omega) hj
    · rw [if_neg h1]; exact D _ _ hij hj

theorem tail_run {p : Array Nat} {n N : Nat} (h1 : 1 ≤ n) (hn : n ≤ N) (hN : N ≤ p.size) (D : Dis key p N) (R : Rng n₀ p N) (h : Desc key p n) :
    kok (Ok key n₀) (kcmp key) (kas_tail3 n N p) ∧ ∃ m q, krun (kcmp key) (kas_tail3 n N p) = (m, q) ∧ q.Perm p ∧ q.size = p.size ∧ 1 ≤ m ∧ m ≤ N ∧ Asc key q m ∧ Rng n₀ q N := by
  have R' := rev_rng hn hN R
  obtain ⟨k, m, e, a1, a2, a3, _⟩ := asc_run (rev_dis hn hN D) R' (N - n) n h1 (by omega) (rev_asc (by omega) h)
  refine ⟨kok_bind _ k trivial, m, kas_rev p 0 n, ?_, mirror_perm _ _ _ _, rev_size _ _, by omega, by omega, a3, R'⟩
  unfold kas_tail3
  rw [krun_bind, e]; rfl

theorem count_run {p : Array Nat} {N : Nat} (h1 : 1 ≤ N) (hN : N ≤ p.size) (D : Dis key p N) (R : Rng n₀ p N) :
    kok (Ok key n₀) (kcmp key) (kas_count N p) ∧ ∃ m q, krun (kcmp key) (kas_count N p) = (m, q) ∧ q.Perm p ∧ q.size = p.size ∧ 1 ≤ m ∧ m ≤ N ∧ Asc key q m ∧ Rng n₀ q N := by
  obtain ⟨k0, n, e, a1, a2, a3, a4⟩ := asc_run D R (N - 1) 1 (Nat.le_refl _) (by omega) asc_one
  have bk : ∀ {β : Type} {t : KasT β} (f : Nat → KasT β), f n = t → kok (Ok key n₀) (kcmp key) t → kok (Ok key n₀) (kcmp key) ((kas_asc p (N - 1) 1).bind f) := fun f e1 h => kok_bind _ k0 (by rw [e, e1]; exact h)
  unfold kas_count
  rw [krun_bind, e]
  by_cases hn : n = N
  · refine ⟨bk _ (if_pos (by simp [hn])) trivial, ?_⟩
    rw [if_pos (by simp [hn])]
    exact ⟨n, p, rfl, Array.Perm.refl _, rfl, by omega, by omega, a3, R⟩
  · rw [if_neg (by simpa using hn)]
    by_cases h2 : n > 1
    · have c : kcmp key (p.getD 0 0) (p.getD (n - 1) 0) = true := decide_eq_true (a3 0 (n - 1) (by omega) (by omega))
      refine ⟨bk _ ((if_neg (by simpa using hn)).trans (if_pos h2)) ⟨⟨R _ (by omega), R _ (by omega), D 0 (n - 1) (by omega) (by omega)⟩, ?_⟩, ?_⟩
      · show kok _ _ (if kcmp key (p.getD 0 0) (p.getD (n - 1) 0) = true then KasT.ret (n, p) else _)
        rw [if_pos c]; trivial
      rw [if_pos h2]
      refine ⟨n, p, ?_, Array.Perm.refl _, rfl, by omega, by omega, a3, R⟩
      show krun _ (if kcmp key (p.getD 0 0) (p.getD (n - 1) 0) = true then KasT.ret (n, p) else _) = _
      rw [if_pos c]; rfl
    · have bk2 := bk (t := kas_descPart n N p) (fun n => if (n == N) = true then .ret (n, p) else if n > 1 then .ask (p.getD 0 0) (p.getD (n - 1) 0) fun c => if c = true then .ret (n, p) else kas_descPart n N (kas_rev p 0 n)
        else kas_descPart n N p) ((if_neg (by simpa using hn)).trans (if_neg h2))
      rw [if_neg h2]
      have e1 : n = 1 := by omega
      subst e1
      have hd : Desc key p 2 := fun i j hij hj => by
        have ei : i = 0 := by omega
        have ej : j = 1 := by omega
        subst ei; subst ej
        exact a4 (by omega)
      obtain ⟨k1, m, em, b1, b2, b3⟩ := desc_run D R (N - 2) 2 (Nat.le_refl _) (by omega) hd
      have em' : krun (kcmp key) (kas_desc (N - (1 + 1)) p (1 + 1) 0) = (p, m, 0) := em
      obtain ⟨k2, tr⟩ := tail_run (by omega) (by omega) hN D R b3
      constructor
      · refine bk2 ?_
        unfold kas_descPart
        refine kok_bind _ k1 ?_
        rw [em']
        show kok _ _ (if 0 > 0 then _ else kas_tail3 m N p)
        rw [if_neg (by omega)]; exact k2
      · unfold kas_descPart
        rw [krun_bind, em']
        show ∃ m' q, krun (kcmp key) (if 0 > 0 then _ else kas_tail3 m N p) = (m', q) ∧ _
        rw [if_neg (by omega)]
        exact tr

theorem place_run {p : Array Nat} {k N : Nat} (hk : k < N) (D : Dis key p N) (R : Rng n₀ p N) (h : Asc key p k) : ∀ (f l r : Nat), r ≤ l + f → l ≤ r → r ≤ k → (∀ i, i < l → Kp key p i < Kp key p k) → (∀ i, r ≤ i → i < k → Kp key p k < Kp key p i) →
    kok (Ok key n₀) (kcmp key) (kas_place p k f l r) ∧ ∃ x, krun (kcmp key) (kas_place p k f l r) = x ∧ x ≤ k ∧ (∀ i, i < x → Kp key p i < Kp key p k) ∧ (∀ i, x ≤ i → i < k → Kp key p k < Kp key p i)
  | 0, l, r, h1, h2, h3, hl, hr => ⟨trivial, l, rfl, by omega, hl, fun i a b => hr i (by omega) b⟩
  | f + 1, l, r, h1, h2, h3, hl, hr => by
    unfold kas_place
    by_cases hlr : l ≥ r
    · rw [if_pos hlr]
      exact ⟨trivial, l, rfl, by omega, hl, fun i a b => hr i (by omega) b⟩
    · rw [if_neg hlr]
      have o : Ok key n₀ (p.getD k 0) (p.getD ((l + r) / 2) 0) := ⟨R _ (by omega), R _ (by omega), (D ((l + r) / 2) k (by omega) (by omega)).symm⟩
      show (Ok key n₀ (p.getD k 0) (p.getD ((l + r) / 2) 0) ∧ kok (Ok key n₀) (kcmp key) (if kcmp key (p.getD k 0) (p.getD ((l + r) / 2) 0) = true then kas_place p k f l ((l + r) / 2) else kas_place p k f ((l + r) / 2 + 1) r)) ∧
        ∃ x, krun (kcmp key) (if kcmp key (p.getD k 0) (p.getD ((l + r) / 2) 0) = true then kas_place p k f l ((l + r) / 2) else kas_place p k f ((l + r) / 2 + 1) r) = x ∧ _
      have hm1 : l ≤ (l + r) / 2 := by omega
      have hm2 : (l + r) / 2 < r := by omega
      by_cases c : Kp key p k < Kp key p ((l + r) / 2)
      · have c' : kcmp key (p.getD k 0) (p.getD ((l + r) / 2) 0) = true := decide_eq_true c
        rw [if_pos c']
        have hx : ∀ i, (l + r) / 2 ≤ i → i < k → Kp key p k < Kp key p i := fun i a b => by
          by_cases e : i = (l + r) / 2
          · subst e; exact c
          · have := h ((l + r) / 2) i (by omega) b; omega
        have z := place_run hk D R h f l ((l + r) / 2) (by omega) hm1 (by omega) hl hx
        exact ⟨⟨o, z.1⟩, z.2⟩
      · have c' : ¬ kcmp key (p.getD k 0) (p.getD ((l + r) / 2) 0) = true := fun e => c (of_decide_eq_true e)
        rw [if_neg c']
        have d := D ((l + r) / 2) k (by omega) hk
        have hx : ∀ i, i < (l + r) / 2 + 1 → Kp key p i < Kp key p k := fun i a => by
          by_cases e : i = (l + r) / 2
          · subst e; omega
          · have := h i ((l + r) / 2) (by omega) (by omega); omega
        have z := place_run hk D R h f ((l + r) / 2 + 1) r (by omega) (by omega) h3 hx hr
        exact ⟨⟨o, z.1⟩, z.2⟩

theorem bubble_at {p : Array Nat} {k x : Nat} (hk : k < p.size) (hx : x ≤ k) (i : Nat) : Kp key (bubble p k (k - x)) i = if i = x then Kp key p k else if x < i ∧ i ≤ k then Kp key p (i - 1) else Kp key p i := by
  have e := getElem?_bubble hk (k - x) (by omega) i
  have ex : k - (k - x) = x := by omega
  rw [ex] at e
  by_cases h1 : i = x
  · rw [if_pos h1]; rw [if_pos h1] at e; exact getD_eq e
  · rw [if_neg h1]; rw [if_neg h1] at e
    by_cases h2 : x < i ∧ i ≤ k
    · rw [if_pos h2]; rw [if_pos h2] at e; exact getD_eq e
    · rw [if_neg h2]; rw [if_neg h2] at e; exact getD_eq e
theorem bubble_rng {p : Array Nat} {k x N : Nat} (hk : k < N) (hN : N ≤ p.size) (hx : x ≤ k) (R : Rng n₀ p N) : Rng n₀ (bubble p k (k - x)) N := fun i hi => by
  have e := getElem?_bubble (xs := p) (src := k) (by omega) (k - x) (by omega) i
  have ex : k - (k - x) = x := by omega
  rw [ex] at e
  by_cases h1 : i = x
  · rw [if_pos h1] at e; rw [getD_same e]; exact R _ hk
  · rw [if_neg h1] at e
    by_cases h2 : x < i ∧ i ≤ k
    · rw [if_pos h2] at e; rw [getD_same e]; exact R _ (by omega)
    · rw [if_neg h2] at e; rw [getD_same e]; exact R _ hi
theorem bubble_asc {p : Array Nat} {k x : Nat} (hk : k < p.size) (hx : x ≤ k) (h : Asc key p k) (h1 : ∀ i, i < x → Kp key p i < Kp key p k) (h2 : ∀ i, x ≤ i → i < k → Kp key p k < Kp key p i) :
    Asc key (bubble p k (k - x)) (k + 1) := fun i j hij hj => by
  rw [bubble_at hk hx, bubble_at hk hx]
  repeat' split
  all_goals first | omega | (apply h1; omega) | (apply h2 <;> omega) | (apply h <;> omega) | skip
theorem bubble_dis {p : Array Nat} {k x N : Nat} (hk : k < N) (hN : N ≤ p.size) (hx : x ≤ k) (D : Dis key p N) : Dis key (bubble p k (k - x)) N := fun i j hij hj => by
  rw [bubble_at (by omega) hx, bubble_at (by omega) hx]
  repeat' split
  all_goals first | omega | (apply D <;> omega) | (apply Ne.symm; apply D <;> omega) | skip

theorem bin_run {N : Nat} : ∀ (f : Nat) (p : Array Nat) (k : Nat), k + f = N → N ≤ p.size → Dis key p N → Rng n₀ p N → Asc key p k →
    kok (Ok key n₀) (kcmp key) (kas_bin f p k) ∧ ∃ q, krun (kcmp key) (kas_bin f p k) = q ∧ q.Perm p ∧ Asc key q N
  | 0, p, k, hk, hN, D, R, h => ⟨trivial, p, rfl, Array.Perm.refl _, by rw [← hk]; exact h⟩
  | f + 1, p, k, hk, hN, D, R, h => by
    obtain ⟨k1, x, e, a1, a2, a3⟩ := place_run (by omega) D R h k 0 k (by omega) (by omega) (Nat.le_refl _) (fun i hi => by omega) (fun i h1 h2 => by omega)
    obtain ⟨k2, q, eq, b1, b2⟩ := bin_run (N := N) f (bubble p k (k - x)) (k + 1) (by omega) (by rw [bubble_size]; exact hN) (bubble_dis (by omega) hN a1 D) (bubble_rng (by omega) hN a1 R) (bubble_asc (by omega) a1 h a2 a3)
    unfold kas_bin
    rw [krun_bind, e]
    exact ⟨kok_bind _ k1 (by rw [e]; exact k2), q, eq, b1.trans (bubble_perm _ _ _), b2⟩

theorem sort_run {n : Nat} (hn : 1 ≤ n) (D : ∀ i j, i < j → j < n → key i ≠ key j) :
    kok (Ok key n) (kcmp key) (kas_sort n) ∧ ∃ q : Array Nat, krun (kcmp key) (kas_sort n) = q ∧ q.Perm (List.toArray (List.range n)) ∧ Asc key q n := by
  have hs : (List.toArray (List.range n)).size = n := by simp
  have hD : Dis key (List.toArray (List.range n)) n := fun i j hij hj => by
    have e : ∀ k, k < n → Kp key (List.toArray (List.range n)) k = key k := fun k hk => by
      unfold Kp; simp [hk]
    rw [e i (by omega), e j hj]; exact D i j hij hj
  have hR : Rng n (List.toArray (List.range n)) n := fun i hi => by simp [hi]
  obtain ⟨k1, m, q, e, a1, a2, a3, a4, a5, a6⟩ := count_run hn (by omega) hD hR
  have hDq : Dis key q n := by
    intro i j hij hj he
    have hqs : q.size = n := by omega
    have nd : q.toList.Nodup := (Array.perm_iff_toList_perm.mp a1).nodup_iff.mpr (by simpa using List.nodup_range)
    have mem : ∀ k, k < n → q.getD k 0 < n := fun k hk => by
      have : q[k]'(by omega) ∈ q.toList := by simp
      have := (Array.perm_iff_toList_perm.mp a1).mem_iff.mp this
      rw [Array.getD_eq_getD_getElem?, Array.getElem?_eq_getElem (by omega)]
      simpa using this
    have ne : q.getD i 0 ≠ q.getD j 0 := fun e => by
      rw [Array.getD_eq_getD_getElem?, Array.getD_eq_getD_getElem?, Array.getElem?_eq_getElem (by omega), Array.getElem?_eq_getElem (by omega)] at e
      have := (List.getElem_inj (h₀ := by simp; omega) (h₁ := by simp; omega) nd).mp (by simpa using e : q.toList[i]'(by simp; omega) = q.toList[j]'(by simp; omega))
      omega
    unfold Kp at he
    rcases Nat.lt_or_gt_of_ne ne with l | l
    · exact D _ _ l (mem j hj) he
    · exact D _ _ l (mem i (by omega)) he.symm
  have em : max m 1 = m := by omega
  have key2 : kok (Ok key n) (kcmp key) (if m < n then kas_bin (n - max m 1) q (max m 1) else KasT.ret q) ∧ ∃ q', krun (kcmp key) (if m < n then kas_bin (n - max m 1) q (max m 1) else KasT.ret q) = q' ∧ q'.Perm (List.toArray (List.range n)) ∧ Asc key q' n := by
    rw [em]
    by_cases h : m < n
    · rw [if_pos h]
      obtain ⟨k2, q', eq, b1, b2⟩ := bin_run (N := n) (n - m) q m (by omega) (by omega) hDq a6 a5
      exact ⟨k2, q', eq, b1.trans a1, b2⟩
    · rw [if_neg h]
      have : m = n := by omega
      subst this
      exact ⟨trivial, q, rfl, a1, a5⟩
  unfold kas_sort
  rw [krun_bind, e]
  exact ⟨kok_bind _ k1 (by rw [e]; exact key2.1), key2.2⟩
end
end MineP
end
section
open PySem PySem.W PyProof.Rows
namespace MineP
set_option maxRecDepth 100000
open PySem.AutoSeq1 (wpAny_loadPart')
open PySem.MeetsSeq PySem.MeetsSeq3
/-! two lists of one int each, compared -/
theorem meets_list_lt1 (a b : Addr) (items items2 : Array Value) (x y : Int) (t u : Tok) (n k : Nat) (h1 : items[0]? = some (.int x t)) (h2 : items2[0]? = some (.int y u)) (hxy : x ≠ y) : Meets (Builtin.«list.__lt__» ⟨[.ref a, .ref b], []⟩)
    (fun _ R s => s.heap.get? a = some { cls := .type "list", dict := none, data := .seq items n, slots := #[] } ∧ s.heap.get? b = some { cls := .type "list", dict := none, data := .seq items2 k, slots := #[] } ∧ R (.ok (.ret (.bool (decide (x < y))))) s) := by
  intro prog w A R s h
  obtain ⟨hp, g, d, tk, os⟩ := s; obtain ⟨hl, hb, h⟩ := h
  have f3 := AutoSeq1.sub_list_list
  wp_walk using wpAny_loadPart' hl, wpAny_loadPart' hb
  refine ⟨plainId_quiet plain_eq_loop _, codeAny_builtin entry_eq_loop ?_⟩
  rw [Around.under_plainId plain_eq_loop _]
  have e1 : items[(0 : Int).toNat]? = some (.int x t) := h1
  have e2 : items2[(0 : Int).toNat]? = some (.int y u) := h2
  wp_walk using wpAny_loadPart' hl, wpAny_loadPart' hb
  rw [e1, e2]
  refine wpAny_bind (wpAny_eqBool_int ?_)
  rw [show (x == y) = false from by simp [hxy]]
  wp_walk using wpAny_loadPart' hl, wpAny_loadPart' hb
  rw [e1, e2]
  refine wpAny_bind ?_
  show wpAny _ _ (compareOp .Lt (.int x t) (.int y u)) _ _ _
  refine wpAny_lt_int ?_
  wp_walk
  exact h
section
variable {prog : Program} {w : World} {A : Around} {E : Value → Shared → Prop} {s : Shared}
theorem keyLt_list1 {a b : Addr} {x y : Int} {t u : Tok} {n k : Nat} {Q : Bool → Shared → Prop} (ha : s.heap.get? a = some (W.listOf #[.int x t] n)) (hb : s.heap.get? b = some (W.listOf #[.int y u] k)) (hxy : x ≠ y) (hu : A.units < cLine)
    (h : Q (decide (x < y)) s) : wpAny (model prog w) A (keyLt' oneType' (.ref a) (.ref b)) Q E s := by
  rw [keyLt'_oneType, oneLt'_eq]
  simp only [if_true]
  refine wpAny_bind (wpAny_cRoomFor hu ?_)
  refine wpAny_bind (wpAny_callSpecialIfBound?_slot (T := "list") ⟨_, ha, rfl⟩ PySem.F.slot_list_lt ?_)
  refine call_meetsIn PySem.F.slot_list_lt (T := "list") ⟨_, ha, rfl⟩ PySem.F.entry_list_lt (PySem.F.args_list_lt_2 _ _) (Meets.inModel (meets_list_lt1 a b #[.int x t] #[.int y u] x y t u n k rfl rfl hxy) prog w) ⟨ha, hb, ?_⟩
  exact wpAny_truthy_bool h
end
end MineP
end
section
open PySem PySem.W PyProof.Rows
namespace MineP
set_option maxRecDepth 100000
set_option maxHeartbeats 400000
/-! sorted(.., key=f, reverse=b) over values whose keys are lists of one int each, all different -/
section
variable {prog : Program} {w : World} {A : Around} {E : Value → Shared → Prop} {s : Shared} {h₀ : Heap} {L a kS : Addr} {m : Str → Option Value} {news : List (Addr × Obj)} {vs ks : List Value}

theorem small_rev {α : Type} {l : List α} (h : l.length < 2) : l.reverse = l := by
  rcases l with _ | ⟨x, _ | ⟨y, r⟩⟩
  · rfl
  · rfl
  · simp at h; omega
theorem small_zip {b : Bool} {ks vs : List Value} (h : vs.length < 2) (hl : ks.length = vs.length) :
    ((if b = true then ((List.toArray ks).zip vs.toArray).reverse else (List.toArray ks).zip vs.toArray)).map (·.2) = List.toArray vs := by
  have e : ((List.toArray ks).zip vs.toArray) = (ks.zip vs).toArray := by simp
  have e2 : (ks.zip vs).map (·.2) = vs := List.map_snd_zip (by omega)
  have e3 : (ks.zip vs).reverse = ks.zip vs := small_rev (by rw [List.length_zip]; omega)
  rw [e]
  cases b
  · simp [e2]
  · simp only [if_true, List.reverse_toArray, e3, List.map_toArray, e2]
theorem small_kat {b : Bool} {vs : List Value} (h : vs.length < 2) : katRev b vs = vs := by
  unfold katRev
  cases b
  · rfl
  · simp only [if_true]; exact small_rev h
theorem rest_small {b : Bool} {f : Value} {e1 : Nat} {P : PySem.Fin → Shared → Prop} (hk : s.heap.get? kS = some (seqObj "list" #[] 0)) (h1 : vs.length < 2)
    (h : KatKeys prog w A h₀ L m kS f (fun ks e s' => KatFin h₀ L m kS a ks e e1 vs (fun s'' => P (.done (.ret .none)) s'') s') vs [] 0 s) :
    wpAny (model prog w) A (ksk_rest a f b vs.toArray e1 (.ref kS)) P E s := by
  unfold ksk_rest
  refine wpAny_bind (wpAny_rule ?_)
  rw [List.forIn_toArray]
  refine wpAny_bind (wpAny_mono (kat_fold (prog := prog) (w := w) (A := A) (h₀ := h₀) (L := L) (m := m) (kS := kS) (f := f) (n := vs.length) (by omega) (fun x ks e s C hks hc => ?_) vs [] 0 s (by simp) (by simpa using hk) h) (fun _ s' q => ?_) fun _ _ x => x)
  · refine wpAny_bind (wpAny_attempt (wpAny_mono hc (fun k s' hb => ?_) fun _ _ x => x.elim))
    obtain ⟨news', g, F', N', U, kk⟩ := hb
    obtain ⟨pre, post, e0, hg, x1, x2⟩ := U.split
    rw [e0] at N'
    have nk := N' (kS, seqObj "list" (List.toArray ks) e) (List.mem_append_right _ (.head _))
    have s1 := Heap.SameBut.update s'.heap kS (Obj.mapSeq (·.push k))
    obtain ⟨ck, hck⟩ : ∃ ck, (s'.heap.update kS (Obj.mapSeq (·.push k))).get? kS = some (seqObj "list" ((List.toArray ks).push k) ck) := ⟨_, get?_update_seq nk.1 (·.push k)⟩
    have ea : (List.toArray ks).push k = List.toArray (ks ++ [k]) := by simp
    rw [ea] at hck
    try dsimp only
    refine wpAny_bind (listUpdate_at nk.1 rfl ?_ (by rw [List.size_toArray, sizeLine_eq]; omega) (by rw [Array.size_push, List.size_toArray, sizeLine_eq]; omega))
    exact wpAny_pure ⟨rfl, k, ck, hck, kk _ ck (kas_fr F' s1 nk.2.1 nk.2.2) (by rw [hg]; exact news_set N' x1 x2 s1 hck)⟩
  · obtain ⟨ks', e', hk', hl', hf⟩ := q
    refine wpAny_bind (listItems_at hk' rfl ?_)
    unfold ksk_end
    have hn : vs.toArray.size < 2 := by simpa using h1
    have step : ∀ t : Sem PySem.Fin, wpAny (model prog w) A t P E s' → wpAny (model prog w) A (if b = true then (do let _ ← rule "list.sort.reverse"; t) else t) P E s' := by
      intro t ht
      split
      · exact wpAny_bind (wpAny_rule ht)
      · exact ht
    refine step _ ?_
    rw [if_pos hn, if_pos hn]
    refine wpAny_bind (wpAny_pure ?_)
    simp only [StateT.run_pure]
    refine wpAny_bind (wpAny_pure ?_)
    try dsimp only
    refine kat_tail (h₀ := h₀) (L := L) (m := m) (ks := ks') (e := e') (out := vs) (st := SortSt.mk' general' (if b = true then ((List.toArray ks').zip vs.toArray).reverse else (List.toArray ks').zip vs.toArray) #[] 7 none) ?_ (by omega) (by omega) rfl ?_
    · exact small_zip h1 hl'
    · rw [small_kat h1]; exact hf
end

/-- what the tree's answer says of the values -/
def Srt (rows srt : List (Value × Int)) : Prop := srt.Perm rows ∧ srt.Pairwise fun p q => q.2 < p.2

theorem map_getD_range {α : Type} (l : List α) (d : α) : (List.range l.length).map (fun i => l.getD i d) = l := by
  apply List.ext_getElem
  · simp
  · intro i h1 h2
    simp at h1 ⊢
    simp [h1]
theorem srt_of {rows : List (Value × Int)} {q : Array Nat} (hp : q.Perm (List.toArray (List.range rows.length))) (ha : Asc (fun i => (rows.reverse.getD i (Value.none, 0)).2) q rows.length) :
    Srt rows ((q.toList.map fun i => rows.reverse.getD i (Value.none, 0)).reverse) := by
  have hl : q.toList.Perm (List.range rows.length) := by simpa using Array.perm_iff_toList_perm.mp hp
  constructor
  · refine (List.reverse_perm _).trans ?_
    refine (hl.map _).trans ?_
    have e := map_getD_range rows.reverse (Value.none, 0)
    rw [List.length_reverse] at e
    rw [e]
    exact List.reverse_perm _
  · rw [List.pairwise_reverse, List.pairwise_map, List.pairwise_iff_getElem]
    intro i j hi hj hij
    have hs : q.size = rows.length := by have := hp.size_eq; simpa using this
    have hi' : i < q.size := by simpa using hi
    have hj' : j < q.size := by simpa using hj
    have h := ha i j hij (by omega)
    unfold Kp at h
    rw [Array.getD_eq_getD_getElem?, Array.getD_eq_getD_getElem?, Array.getElem?_eq_getElem hi', Array.getElem?_eq_getElem hj'] at h
    simpa using h

section
variable {prog : Program} {w : World} {A : Around} {E : Value → Shared → Prop} {s : Shared} {h₀ : Heap} {L : Addr} {m : Str → Option Value} {news : List (Addr × Obj)}

/-- a key's list, somewhere in the ledger -/
def KeyAt (news : List (Addr × Obj)) (l : Addr) (c : Int) : Prop := ∃ t e, (l, W.listOf #[.int c t] e) ∈ news

theorem keys_run {A : Around} {kS : Addr} {f : Value} {Fin : List Value → Nat → Shared → Prop} {oD : Addr × Obj} (hkS : ∀ q ∈ oD :: news, q.1 ≠ kS) :
    ∀ (vs : List Value) (ls : List Addr) (ks : List Value) (e : Nat) (s : Shared), vs.length = ls.length → Fr h₀ L s.heap m → News h₀ L s.heap ((kS, seqObj "list" (List.toArray ks) e) :: oD :: news) →
    (∀ (i : Nat) (v : Value) (l : Addr), vs[i]? = some v → ls[i]? = some l → ∀ (h : Heap) (tk : Nat) (own : List (Addr × Obj)), Fr h₀ L h m → News h₀ L h (own ++ news) →
      wpAny (model prog w) A (call f [v]) (fun r s' => ∃ h' tk', r = .ref l ∧ s' = { s with heap := h', toks := tk' } ∧ Fr h₀ L h' m ∧ News h₀ L h' (own ++ news)) (fun _ _ => False) { s with heap := h, toks := tk }) →
    (∀ e' h' tk', Fr h₀ L h' m → News h₀ L h' ((kS, seqObj "list" (List.toArray (ks ++ ls.map Value.ref)) e') :: oD :: news) → Fin (ks ++ ls.map Value.ref) e' { s with heap := h', toks := tk' }) →
    KatKeys prog w A h₀ L m kS f Fin vs ks e s
  | [], [], ks, e, s, _, F, N, _, hf => by
    have := hf e s.heap s.toks F (by simpa using N)
    exact KatKeys.nil (by simpa using this)
  | v :: vs, l :: ls, ks, e, s, hl, F, N, turn, hf => by
    refine KatKeys.cons (wpAny_mono (turn 0 v l rfl rfl s.heap s.toks [(kS, seqObj "list" (List.toArray ks) e), oD] F (by simpa using N)) (fun r s' hr => ?_) fun _ _ x => x)
    obtain ⟨h', tk', rfl, rfl, F', N'⟩ := hr
    refine KatBack.intro F' (by simpa using N') (.head hkS) fun h'' c F'' N'' => ?_
    refine keys_run hkS vs ls (ks ++ [.ref l]) c { s with heap := h'', toks := tk' } (by simpa using hl) F'' N'' (fun i v' l' h1 h2 h tk own Fa Na => turn (i + 1) v' l' (by simpa using h1) (by simpa using h2) h tk own Fa Na) fun e' h3 tk3 F3 N3 => ?_
    have := hf e' h3 tk3 F3 (by simpa using N3)
    simpa using this

theorem tree_run {f : Value} {a : Addr} {n : Nat} {vs : List Value} {ls : List Addr} {cs : List Int} {P : PySem.Fin → Shared → Prop} (hu : A.units < cLine) (F : Fr h₀ L s.heap m) (N : News h₀ L s.heap news) (ho : s.heap.get? a = some (seqObj "list" vs.toArray n)) (haL : a ≠ L) (ha0 : h₀.get? a = none) (hna : ∀ p ∈ news, p.1 ≠ a)
    (h64 : vs.length < 64) (hvl : vs.length = ls.length) (hvc : vs.length = cs.length) (hkey : ∀ (i : Nat) (l : Addr) (c : Int), ls[i]? = some l → cs[i]? = some c → KeyAt news l c) (hnd : cs.Nodup)
    (turn : ∀ (i : Nat) (v : Value) (l : Addr), vs[i]? = some v → ls[i]? = some l → ∀ (h : Heap) (tk : Nat) (own : List (Addr × Obj)), Fr h₀ L h m → News h₀ L h (own ++ news) →
      wpAny (model prog w) A (call f [v]) (fun r s' => ∃ h' tk', r = .ref l ∧ s' = { s with heap := h', toks := tk' } ∧ Fr h₀ L h' m ∧ News h₀ L h' (own ++ news)) (fun _ _ => False) { s with heap := h, toks := tk })
    (h : ∀ h' tk c srt, Fr h₀ L h' m → News h₀ L h' ((a, listOf (List.toArray (srt.map Prod.fst)) c) :: news) → Srt (vs.zip cs) srt → P (.done (.ret .none)) { s with heap := h', toks := tk }) :
    wpAny (model prog w) A (ksk_tree a f true) P E s := by
  by_cases h2 : 2 ≤ vs.length
  · refine kat_keyed F N ho haL ha0 hna h2 h64 fun kS e1 h' F' N' l1 l2 => ?_
    refine keys_run (fun q hq => ?_) vs ls [] 0 { s with heap := h' } hvl F' N' (fun i v l h1 h2 => turn i v l h1 h2) fun e' h3 tk3 F3 N3 => ?_
    · rcases List.mem_cons.mp hq with rfl | hq
      · exact Nat.ne_of_lt l1
      · exact Nat.ne_of_lt (l2 q hq)
    · simp only [List.nil_append] at N3 ⊢
      have hget : ∀ q ∈ news, h3.get? q.1 = some q.2 := fun q hq => (N3 q (.tail _ (.tail _ hq))).1
      have hls : (ls.map Value.ref).length = vs.length := by simp [hvl]
      refine kas_kind (T := .type "list") (by rw [hls]; exact h2) (fun v hv => ?_) (by decide) (by decide) ?_
      · obtain ⟨l, hl, rfl⟩ := List.mem_map.mp hv
        obtain ⟨i, hi, e⟩ := List.mem_iff_getElem.mp hl
        obtain ⟨t, ep, hm⟩ := hkey i l (cs[i]'(by omega)) (by rw [List.getElem?_eq_getElem hi, e]) (List.getElem?_eq_getElem (by omega))
        exact (Looks.ld (hget _ hm)).andThen .now
      · let rows := vs.zip cs
        have hrl : rows.length = vs.length := by simp [rows, hvc]
        let key : Nat → Int := fun i => (rows.reverse.getD i (Value.none, 0)).2
        have keyIs : ∀ k (hk : k < vs.length), key k = cs[vs.length - 1 - k]'(by omega) := fun k hk => by
          show ((rows.reverse.getD k (Value.none, 0)).2) = _
          rw [List.getD_eq_getElem?_getD, List.getElem?_reverse (by omega), hrl, List.getElem?_eq_getElem (by omega)]
          simp [rows]
        have hkeyAt : ∀ i, i < vs.length → ∃ l t ep, ((ls.map Value.ref).reverse.getD i Value.none) = .ref l ∧ (l, W.listOf #[.int (key i) t] ep) ∈ news := fun i hi => by
          obtain ⟨l, hl⟩ : ∃ l, ls[vs.length - 1 - i]? = some l := ⟨_, List.getElem?_eq_getElem (by omega)⟩
          obtain ⟨t, ep, hm⟩ := hkey (vs.length - 1 - i) l (cs[vs.length - 1 - i]'(by omega)) hl (List.getElem?_eq_getElem (by omega))
          refine ⟨l, t, ep, ?_, ?_⟩
          · have e0 : (ls.map Value.ref).length - 1 - i = vs.length - 1 - i := by simp [hvl]
            rw [List.getD_eq_getElem?_getD, List.getElem?_reverse (by simp; omega), e0, List.getElem?_map, hl]
            rfl
          · rw [keyIs i hi]; exact hm
        have hdis : ∀ i j, i < j → j < vs.length → key i ≠ key j := fun i j hij hj he => by
          rw [keyIs i (by omega), keyIs j hj] at he
          have := (List.getElem_inj hnd).mp he
          omega
        obtain ⟨kk, q, eq, hp, hasc⟩ := sort_run (by omega) hdis
        refine krun_wp (cmp := kcmp key) (ok := Ok key vs.length) (I := fun s' => s' = { s with heap := h3, toks := tk3 }) (fun i j s' C ho hs hc => ?_) (kas_sort vs.length) _ kk rfl fun s' hs' => ?_
        · subst hs
          obtain ⟨l1, t1, ep1, e1, m1⟩ := hkeyAt i ho.1
          obtain ⟨l2, t2, ep2, e2, m2⟩ := hkeyAt j ho.2.1
          unfold kas_ask
          have er : katRev true (ls.map Value.ref) = (ls.map Value.ref).reverse := rfl
          rw [er, e1, e2]
          exact keyLt_list1 (hget _ m1) (hget _ m2) ho.2.2 hu (hc _ rfl)
        · subst hs'
          rw [eq]
          have hsrt : Srt rows ((q.toList.map fun i => rows.reverse.getD i (Value.none, 0)).reverse) := srt_of (by rw [hrl]; exact hp) (by rw [hrl]; exact hasc)
          have hout : katRev true (q.toList.map fun i => (katRev true vs).getD i Value.none) = ((q.toList.map fun i => rows.reverse.getD i (Value.none, 0)).reverse).map Prod.fst := by
            show (q.toList.map fun i => vs.reverse.getD i Value.none).reverse = _
            rw [List.map_reverse, List.map_map]
            congr 1
            refine List.map_congr_left fun i hi => ?_
            have hi' : i < vs.length := by
              have := (Array.perm_iff_toList_perm.mp hp).mem_iff.mp hi
              simpa using this
            show _ = (rows.reverse.getD i (Value.none, 0)).1
            rw [List.getD_eq_getElem?_getD, List.getD_eq_getElem?_getD, List.getElem?_reverse hi', List.getElem?_reverse (by omega), hrl, List.getElem?_eq_getElem (by omega), List.getElem?_eq_getElem (by omega)]
            simp [rows]
          rw [hout]
          refine KatFin.intro F3 N3 (.head fun p hp => ?_) fun h4 c F4 N4 => KasFin.intro F4 N4 (.tail ?_ (.head hna)) fun h5 c5 F5 N5 => ?_
          · rcases List.mem_cons.mp hp with rfl | hp
            · exact Nat.ne_of_lt l1
            · exact Nat.ne_of_lt (l2 p hp)
          · exact Nat.ne_of_gt l1
          · exact h h5 tk3 c5 _ F5 (fun p hp => N5 p (.tail _ hp)) hsrt
  · have hv : vs.length < 2 := by omega
    have ha : a < s.heap.objs.size := Heap.lt_size ho
    have s1 := Heap.SameBut.update s.heap a (Obj.mapSeq fun _ => (#[] : Array Value))
    obtain ⟨e1, ho1⟩ : ∃ e1, (s.heap.update a (Obj.mapSeq fun _ => (#[] : Array Value))).get? a = some (seqObj "list" #[] e1) := ⟨_, get?_update_seq ho fun _ => #[]⟩
    have F1 := kas_fr F s1 haL ha0
    have N1 := kas_news N s1 hna
    have N2 : News h₀ L (s.heap.update a (Obj.mapSeq fun _ => (#[] : Array Value))) ((a, seqObj "list" #[] e1) :: news) := fun q hq => by
      rcases List.mem_cons.mp hq with rfl | hq
      · exact ⟨ho1, haL, ha0⟩
      · exact N1 q hq
    have N3 := (N2.push F1 (seqObj "tuple" vs.toArray 0)).push (F1.push _) (seqObj "list" #[] 0)
    have F3 := (F1.push (seqObj "tuple" vs.toArray 0)).push (seqObj "list" #[] 0)
    unfold ksk_tree
    refine wpAny_bind (listItems_at ho rfl ?_)
    refine wpAny_bind (listUpdate_at ho rfl ?_ (by rw [List.size_toArray, sizeLine_eq]; omega) (Nat.zero_le _))
    refine wpAny_bind (seqEpoch_at ho1 rfl ?_)
    refine wpAny_bind (wpAny_newTuple ?_ (by show vs.length ≤ _; rw [sizeLine_eq]; omega))
    refine wpAny_bind (wpAny_newList ?_ (Nat.zero_le _))
    refine wpAny_holding ?_
    generalize hkS : ((s.heap.update a (Obj.mapSeq fun _ => (#[] : Array Value))).push (seqObj "tuple" vs.toArray 0)).objs.size = kS at N3 ⊢
    have hkl : ∀ q ∈ (a, seqObj "list" #[] e1) :: news, q.1 < kS := fun q hq => by
      rw [← hkS, Heap.size_push]; exact Nat.lt_succ_of_lt (Heap.lt_size (N2 q hq).1)
    refine rest_small (h₀ := h₀) (L := L) (m := m) (s := { s with heap := ((s.heap.update a (Obj.mapSeq fun _ => (#[] : Array Value))).push (seqObj "tuple" vs.toArray 0)).push (seqObj "list" #[] 0) }) (kS := kS) (N3 _ (.head _)).1 hv ?_
    refine keys_run (fun q hq => Nat.ne_of_lt (hkl q hq)) vs ls [] 0 _ hvl F3 (fun q hq => ?_) (fun i v l h1 h2 => turn i v l h1 h2) fun e' h3 tk3 F4 N4 => ?_
    · rcases List.mem_cons.mp hq with rfl | hq
      · exact N3 _ (.head _)
      · exact N3 _ (.tail _ (.tail _ hq))
    · simp only [List.nil_append] at N4 ⊢
      have hz : vs = (vs.zip cs).map Prod.fst := (List.map_fst_zip (by omega)).symm
      refine KatFin.intro F4 N4 (.head fun q hq => Nat.ne_of_lt (hkl q hq)) fun h5 c F5 N5 => KasFin.intro F5 N5 (.tail (Nat.ne_of_gt (hkl _ (.head _))) (.head hna)) fun h6 c6 F6 N6 => ?_
      refine h h6 tk3 c6 (vs.zip cs) F6 (fun p hp => ?_) ⟨.refl _, ?_⟩
      · rw [← hz] at hp
        exact N6 p (.tail _ hp)
      · have : (vs.zip cs).length < 2 := by rw [List.length_zip]; omega
        rcases hz2 : vs.zip cs with _ | ⟨x, _ | ⟨y, r⟩⟩
        · exact .nil
        · exact List.pairwise_singleton _ _
        · rw [hz2] at this; simp at this; omega

theorem sorted_values {K : Type} [DecidableEq K] {knd : PySem.KeyKind prog w K} {v dd : Addr} {od : Obj} {kvs : List (K × Value)} {f : Addr} {ls : List Addr} {cs : List Int} {Q : Value → Shared → Prop}
    (hu : A.in1.in1.units < cLine) (hh : A.handled = none) (F : Fr h₀ L s.heap m) (N : News h₀ L s.heap news) (hv : (v, ({ cls := .type "dict_values", data := .fields #[.ref dd] } : Obj)) ∈ news) (hp : (dd, od) ∈ news) (hd : od.IsDictOf knd kvs)
    (h64 : kvs.length < 64) (hvl : kvs.length = ls.length) (hvc : kvs.length = cs.length) (hkey : ∀ (i : Nat) (l : Addr) (c : Int), ls[i]? = some l → cs[i]? = some c → KeyAt news l c) (hnd : cs.Nodup)
    (turn : ∀ (i : Nat) (v : Value) (l : Addr), (kvs.map (·.2))[i]? = some v → ls[i]? = some l → ∀ (h : Heap) (tk : Nat) (own : List (Addr × Obj)), Fr h₀ L h m → News h₀ L h (own ++ news) →
      wpAny (model prog w) A.in1.in1 (call (.ref f) [v]) (fun r s' => ∃ h' tk', r = .ref l ∧ s' = { s with heap := h', toks := tk' } ∧ Fr h₀ L h' m ∧ News h₀ L h' (own ++ news)) (fun _ _ => False) { s with heap := h, toks := tk })
    (h : ∀ D h' tk c srt, Fr h₀ L h' m → News h₀ L h' ((D, listOf (List.toArray (srt.map Prod.fst)) c) :: news) → (∀ q ∈ news, q.1 < D) → Srt ((kvs.map (·.2)).zip cs) srt → Q (.ref D) { s with heap := h', toks := tk }) :
    wpAny (model prog w) A (call (.builtin "sorted") [.ref v] [(Str.ofString "key", .ref f), (Str.ofString "reverse", .bool true)]) Q E s := by
  refine call_function_entry_kw kind_sorted plain_sorted entry_sorted (ksk_s2 _ _ _) ?_
  unfold Builtin.«sorted»
  refine wpAny_bind (m := checkCount "sorted" 1 1 _) (wpAny_pure ?_)
  obtain ⟨ep, hat⟩ := (kda_dict N hp hd).dictAt
  have hn : kvs.length ≤ sizeLine := by rw [sizeLine_eq]; omega
  refine wpAny_bind (kdu_collect (A := A.in1) (kdl_values (knd := knd) (kvs := kvs) (ep := ep)) hh ⟨⟨_, (N _ hv).1, rfl, rfl⟩, hat⟩ hn fun h' tk acc hk hacc => ?_)
  have hl : acc.toList.length = kvs.length := by rw [Array.length_toList]; exact hacc.1
  have hvs : acc.toList = kvs.map (·.2) := kdl_vals_eq acc.toList hl fun j x e => hacc.2 j x (by rw [← Array.getElem?_toList]; exact e)
  rw [hvs]
  have F' := F.keeps hk
  have N' : News h₀ L h' news := fun q hq => ⟨hk _ _ (N q hq).1, (N q hq).2⟩
  refine wpAny_bind (wpAny_newList ?_ (by rw [List.length_map]; exact hn))
  have hD := News.push F' N' (seqObj "list" (kvs.map (·.2)).toArray 0)
  have hDlt : ∀ q ∈ news, q.1 < h'.objs.size := fun q hq => Heap.lt_size (N' q hq).1
  have hoL : (h'.push (seqObj "list" (kvs.map (·.2)).toArray 0)).get? h'.objs.size = some (seqObj "list" (kvs.map (·.2)).toArray 0) := (hD _ (.head _)).1
  refine wpAny_bind (wpAny_holding (wpAny_call_entry_kw slot_list_sort ⟨_, hoL, rfl⟩ entry_list_sort ?body (ksk_l2 _ _ _)))
  case body =>
    show wpAny (model prog w) A.in1.in1 (Builtin.«list.sort» ⟨[.ref h'.objs.size], [(Str.ofString "key", .ref f), (Str.ofString "reverse", .bool true)]⟩) _ _ _
    rw [ksk_t2]
    refine tree_run (s := { s with heap := h'.push (seqObj "list" (kvs.map (·.2)).toArray 0), toks := tk }) (ls := ls) (cs := cs) hu (F'.push _) (fun q hq => hD q (.tail _ hq)) hoL (hD _ (.head _)).2.1 (hD _ (.head _)).2.2
      (fun q hq => Nat.ne_of_lt (hDlt q hq)) (by rw [List.length_map]; exact h64) (by rw [List.length_map]; exact hvl) (by rw [List.length_map]; exact hvc) hkey hnd turn fun h4 tk4 c4 srt F4 N4 hs => ?_
    exact ⟨_, rfl, wpAny_pure ⟨_, rfl, h _ h4 tk4 c4 srt F4 N4 hDlt hs⟩⟩
end
end MineP
end
section
open PySem PySem.W PyProof.Rows
namespace MineP
set_option maxRecDepth 100000
set_option maxHeartbeats 400000
/-! lists of texts, sorted -/
abbrev txs (l : List (Str × Tok)) : List Value := l.map fun p => .str p.1 p.2
abbrev tlt (a b : Str) : Prop := a.cps.toList < b.cps.toList
theorem tlt_irrefl (a : Str) : ¬ tlt a a := List.lt_irrefl _
theorem tlt_trans {a b c : Str} (h : tlt a b) (h2 : tlt b c) : tlt a c := List.lt_trans h h2
theorem str_ext {a b : Str} (h : a.cps.toList = b.cps.toList) : a = b := by
  cases a; cases b
  simp only [Str.mk.injEq]
  exact Array.toList_inj.mp h
theorem tlt_tri {a b : Str} (h : a ≠ b) : tlt a b ∨ tlt b a := by
  by_cases h1 : a.cps.toList < b.cps.toList
  · exact .inl h1
  · by_cases h2 : b.cps.toList < a.cps.toList
    · exact .inr h2
    · exact absurd (str_ext (List.le_antisymm (List.not_lt.mp h2) (List.not_lt.mp h1))) h
def rank (l : List Str) (x : Str) : Int := ((l.filter fun y => decide (tlt y x)).length : Nat)
theorem rank_lt {l : List Str} {x y : Str} (hx : x ∈ l) (h : tlt x y) : rank l x < rank l y := by
  unfold rank
  have hs : (l.filter fun z => decide (tlt z x)).Sublist (l.filter fun z => decide (tlt z y)) := by
    have e : (l.filter fun z => decide (tlt z x)) = (l.filter fun z => decide (tlt z y)).filter fun z => decide (tlt z x) := by
      rw [List.filter_filter]
      refine List.filter_congr fun z _ => ?_
      by_cases q : tlt z x
      · simp [q, tlt_trans q h]
      · simp [q]
    rw [e]; exact List.filter_sublist
  have hl := hs.length_le
  have hne : (l.filter fun z => decide (tlt z x)).length ≠ (l.filter fun z => decide (tlt z y)).length := fun e => by
    have e2 := hs.eq_of_length e
    have hm : x ∈ l.filter fun z => decide (tlt z y) := List.mem_filter.mpr ⟨hx, by simpa using h⟩
    rw [← e2] at hm
    exact tlt_irrefl x (by simpa using (List.mem_filter.mp hm).2)
  omega
theorem rank_dec {l : List Str} {x y : Str} (hx : x ∈ l) (hy : y ∈ l) : decide (rank l x < rank l y) = decide (tlt x y) := by
  by_cases h : tlt x y
  · simp [h, rank_lt hx h]
  · by_cases e : x = y
    · subst e; simp [h]
    · rcases tlt_tri e with q | q
      · exact absurd q h
      · have := rank_lt hy q
        simp [h]; omega
theorem texts_uniq {l1 l2 : List Str} (hp : l1.Perm l2) (h1 : l1.Pairwise tlt) (h2 : l2.Pairwise tlt) : l1 = l2 := by
  induction l1 generalizing l2 with
  | nil => exact hp.nil_eq
  | cons a r ih =>
    cases l2 with
    | nil => exact absurd hp.symm.nil_eq (by simp)
    | cons b s =>
      have hab : a = b := by
        rcases List.mem_cons.mp (hp.mem_iff.mp (List.mem_cons_self ..)) with e | e
        · exact e
        · rcases List.mem_cons.mp (hp.symm.mem_iff.mp (List.mem_cons_self (a := b) (l := s))) with e' | e'
          · exact e'.symm
          · exact absurd (tlt_trans ((List.pairwise_cons.mp h2).1 a e) ((List.pairwise_cons.mp h1).1 b e')) (tlt_irrefl b)
      subst hab
      rw [ih hp.cons_inv (List.pairwise_cons.mp h1).2 (List.pairwise_cons.mp h2).2]
section
variable {prog : Program} {w : World} {A : Around} {E : Value → Shared → Prop} {s : Shared} {h₀ : Heap} {L a : Addr} {m : Str → Option Value} {news : List (Addr × Obj)}
def TSorted (l srt : List (Str × Tok)) : Prop := srt.Perm l ∧ (srt.map (·.1)).Pairwise tlt
theorem sort_small {n : Nat} {vs : List Value} {P : PySem.Fin → Shared → Prop} (F : Fr h₀ L s.heap m) (N : News h₀ L s.heap news) (ho : s.heap.get? a = some (seqObj "list" vs.toArray n)) (haL : a ≠ L) (ha0 : h₀.get? a = none) (hna : ∀ p ∈ news, p.1 ≠ a)
    (h2 : vs.length < 2)
    (h : ∀ h' c, Fr h₀ L h' m → News h₀ L h' ((a, listOf vs.toArray c) :: news) → P (.done (.ret .none)) { s with heap := h' }) :
    wpAny (model prog w) A (Builtin.«list.sort» ⟨[.ref a], []⟩) P E s := by
  have ha : a < s.heap.objs.size := Heap.lt_size ho
  have s1 := Heap.SameBut.update s.heap a (Obj.mapSeq fun _ => (#[] : Array Value))
  obtain ⟨e1, ho1⟩ : ∃ e1, (s.heap.update a (Obj.mapSeq fun _ => (#[] : Array Value))).get? a = some (seqObj "list" #[] e1) := ⟨_, get?_update_seq ho fun _ => #[]⟩
  have F3 : Fr h₀ L (((s.heap.update a (Obj.mapSeq fun _ => (#[] : Array Value))).push (seqObj "tuple" vs.toArray 0)).push (seqObj "list" #[] 0)) m := ((kas_fr F s1 haL ha0).push _).push _
  have N2 : News h₀ L (((s.heap.update a (Obj.mapSeq fun _ => (#[] : Array Value))).push (seqObj "tuple" vs.toArray 0)).push (seqObj "list" #[] 0)) news :=
    (kas_news N s1 hna).grown fun b x e => Heap.get?_push_of_some _ (Heap.get?_push_of_some _ e)
  have ho3 : (((s.heap.update a (Obj.mapSeq fun _ => (#[] : Array Value))).push (seqObj "tuple" vs.toArray 0)).push (seqObj "list" #[] 0)).get? a = some (seqObj "list" #[] e1) := Heap.get?_push_of_some _ (Heap.get?_push_of_some _ ho1)
  rw [list_sort_plain]
  refine wpAny_bind (listItems_at ho rfl ?_)
  refine wpAny_bind (listUpdate_at ho rfl ?_ (by rw [List.size_toArray, sizeLine_eq]; omega) (Nat.zero_le _))
  refine wpAny_bind (seqEpoch_at ho1 rfl ?_)
  refine wpAny_bind (wpAny_newTuple ?_ (by show vs.length ≤ _; rw [sizeLine_eq]; omega))
  refine wpAny_bind (wpAny_newList ?_ (Nat.zero_le _))
  refine wpAny_holding ?_
  dsimp only
  have hn2 : vs.toArray.size < 2 := by rw [List.size_toArray]; omega
  rw [if_pos hn2, if_pos hn2]
  refine wpAny_bind (wpAny_pure ?_)
  simp only [StateT.run_pure]
  refine wpAny_bind (wpAny_pure ?_)
  try dsimp only
  refine wpAny_bind (seqEpoch_at ho3 rfl ?_)
  have hout : Array.map (fun x => x.snd) (arrOf (SortSt.mk' general' (vs.toArray.zip vs.toArray) #[] 7 none)) = vs.toArray := by
    show Array.map (fun x => x.snd) (vs.toArray.zip vs.toArray) = vs.toArray
    apply Array.toList_inj.mp
    simp only [Array.toList_map, Array.toList_zip]
    exact List.map_snd_zip (Nat.le_refl _)
  rw [hout]
  have s2 := Heap.SameBut.update (((s.heap.update a (Obj.mapSeq fun _ => (#[] : Array Value))).push (seqObj "tuple" vs.toArray 0)).push (seqObj "list" #[] 0)) a (Obj.mapSeq fun _ => vs.toArray)
  obtain ⟨c2, hc2⟩ : ∃ c2, ((((s.heap.update a (Obj.mapSeq fun _ => (#[] : Array Value))).push (seqObj "tuple" vs.toArray 0)).push (seqObj "list" #[] 0)).update a (Obj.mapSeq fun _ => vs.toArray)).get? a = some (seqObj "list" vs.toArray c2) := ⟨_, get?_update_seq ho3 fun _ => vs.toArray⟩
  refine wpAny_bind (listUpdate_at ho3 rfl ?_ (Nat.zero_le _) (by rw [List.size_toArray, sizeLine_eq]; omega))
  simp only [bne_self_eq_false, Bool.false_eq_true, if_false]
  refine wpAny_pure (h _ c2 (kas_fr F3 s2 haL ha0) fun p hp => ?_)
  rcases List.mem_cons.mp hp with rfl | hp
  · exact ⟨hc2, haL, ha0⟩
  · exact kas_news N2 s2 hna p hp
theorem text_item {l : List (Str × Tok)} {i : Nat} (hi : i < l.length) : (txs l).getD i Value.none = .str (l[i]'hi).1 (l[i]'hi).2 := by
  rw [List.getD_eq_getElem?_getD, List.getElem?_map, List.getElem?_eq_getElem hi]; rfl
theorem sort_text {n : Nat} {l : List (Str × Tok)} {P : PySem.Fin → Shared → Prop} (F : Fr h₀ L s.heap m) (N : News h₀ L s.heap news) (ho : s.heap.get? a = some (seqObj "list" (txs l).toArray n)) (haL : a ≠ L) (ha0 : h₀.get? a = none) (hna : ∀ p ∈ news, p.1 ≠ a)
    (h64 : l.length < 64) (hnd : (l.map (·.1)).Nodup)
    (h : ∀ h' c srt, TSorted l srt → Fr h₀ L h' m → News h₀ L h' ((a, listOf (txs srt).toArray c) :: news) → P (.done (.ret .none)) { s with heap := h' }) :
    wpAny (model prog w) A (Builtin.«list.sort» ⟨[.ref a], []⟩) P E s := by
  by_cases h2 : 2 ≤ l.length
  · refine kas_list_sort (T := .type "str") F N ho haL ha0 hna (by rw [List.length_map]; exact h2) (by rw [List.length_map]; exact h64) (fun e1 h _ _ v hv => ?_) (by decide) (by decide) fun e1 h' F' N' => ?_
    · obtain ⟨p, _, rfl⟩ := List.mem_map.mp hv
      exact Looks.now
    · let key : Nat → Int := fun i => rank (l.map (·.1)) (l.getD i (Str.ofString "", 0)).1
      have hk : ∀ i (hi : i < l.length), key i = rank (l.map (·.1)) (l[i]'hi).1 := fun i hi => by
        show rank _ (l.getD i _).1 = _
        rw [List.getD_eq_getElem?_getD, List.getElem?_eq_getElem hi]; rfl
      have hmem : ∀ i (hi : i < l.length), (l[i]'hi).1 ∈ l.map (·.1) := fun i hi => List.mem_map.mpr ⟨_, List.getElem_mem hi, rfl⟩
      have hdis : ∀ i j, i < j → j < l.length → key i ≠ key j := fun i j hij hj he => by
        rw [hk i (by omega), hk j hj] at he
        have hne : (l[i]'(by omega)).1 ≠ (l[j]'hj).1 := fun e => by
          have hi' : i < (l.map (·.1)).length := by rw [List.length_map]; omega
          have hj' : j < (l.map (·.1)).length := by rw [List.length_map]; exact hj
          have e2 : (l.map (·.1))[i]'hi' = (l.map (·.1))[j]'hj' := by simpa using e
          have := (List.getElem_inj hnd).mp e2
          omega
        rcases tlt_tri hne with q | q
        · have := rank_lt (hmem i (by omega)) q; omega
        · have := rank_lt (hmem j hj) q; omega
      obtain ⟨kk, q, eq, hp, hasc⟩ := sort_run (by omega) hdis
      rw [List.length_map]
      refine krun_wp (cmp := kcmp key) (ok := Ok key l.length) (I := fun s' => s' = { s with heap := h' }) (fun i j s' C ho hs hc => ?_) (kas_sort l.length) _ kk rfl fun s' hs' => ?_
      · subst hs
        unfold kas_ask
        rw [text_item ho.1, text_item ho.2.1]
        refine kas_lt_str ?_
        have q := hc _ rfl
        have e : kcmp key i j = decide (tlt (l[i]'ho.1).1 (l[j]'ho.2.1).1) := by
          rw [← rank_dec (hmem i ho.1) (hmem j ho.2.1), ← hk i ho.1, ← hk j ho.2.1]
        rw [e] at q
        exact q
      · subst hs'
        rw [eq]
        have hq : ∀ i ∈ q.toList, i < l.length := fun i hi => by
          have := (Array.perm_iff_toList_perm.mp hp).mem_iff.mp hi
          simpa using this
        have hl : q.toList.Perm (List.range l.length) := by simpa using Array.perm_iff_toList_perm.mp hp
        have hout : q.toList.map (fun i => (txs l).getD i Value.none) = txs (q.toList.map fun i => l.getD i (Str.ofString "", 0)) := by
          show _ = List.map (fun p : Str × Tok => Value.str p.1 p.2) (List.map _ _)
          rw [List.map_map]
          refine List.map_congr_left fun i hi => ?_
          rw [text_item (hq i hi)]
          simp only [Function.comp, List.getD_eq_getElem?_getD, List.getElem?_eq_getElem (hq i hi), Option.getD_some]
        rw [hout]
        refine KasFin.intro F' N' (.head hna) fun h'' c F'' N'' => h h'' c _ ⟨?_, ?_⟩ F'' N''
        · refine (hl.map _).trans ?_
          rw [map_getD_range]
        · rw [List.map_map, List.pairwise_map, List.pairwise_iff_getElem]
          intro i j hi hj hij
          have hs : q.size = l.length := by have := hp.size_eq; simpa using this
          have hi' : i < q.size := by simpa using hi
          have hj' : j < q.size := by simpa using hj
          have h := hasc i j hij (by omega)
          unfold Kp at h
          rw [Array.getD_eq_getD_getElem?, Array.getD_eq_getD_getElem?, Array.getElem?_eq_getElem hi', Array.getElem?_eq_getElem hj'] at h
          simp only [Option.getD_some] at h
          have m1 : q[i] ∈ q.toList := by simp
          have m2 : q[j] ∈ q.toList := by simp
          rw [hk _ (hq _ m1), hk _ (hq _ m2)] at h
          have hd := rank_dec (hmem _ (hq _ m1)) (hmem _ (hq _ m2))
          simp only [h, decide_true] at hd
          have := of_decide_eq_true hd.symm
          simpa only [Function.comp, Array.getElem_toList, List.getD_eq_getElem?_getD, List.getElem?_eq_getElem (hq _ m1), List.getElem?_eq_getElem (hq _ m2), Option.getD_some] using this
  · refine sort_small F N ho haL ha0 hna (by rw [List.length_map]; omega) fun h' c F' N' => h h' c l ⟨.refl _, ?_⟩ F' N'
    rcases l with _ | ⟨x, _ | ⟨y, r⟩⟩
    · exact .nil
    · exact List.pairwise_singleton _ _
    · simp at h2
theorem sorted_list {l : Addr} {vs : List (Str × Tok)} {Q : Value → Shared → Prop} (F : Fr h₀ L s.heap m) (N : News h₀ L s.heap news) (hl : s.heap.IsList l (txs vs).toArray) (h64 : vs.length < 64) (hnd : (vs.map (·.1)).Nodup)
    (h : ∀ D h' c srt, TSorted vs srt → Fr h₀ L h' m → News h₀ L h' ((D, listOf (txs srt).toArray c) :: news) → (∀ q ∈ news, q.1 < D) → Q (.ref D) { s with heap := h' }) :
    wpAny (model prog w) A (call (.builtin "sorted") [.ref l]) Q E s := by
  refine Calls.call_function_entry kind_sorted plain_sorted entry_sorted (args_sorted1 _) ?_
  unfold Builtin.«sorted»
  have hz : (txs vs).length = vs.length := List.length_map ..
  refine wpAny_bind (m := checkCount "sorted" 1 1 _) (wpAny_pure ?_)
  refine wpAny_bind (collect_list hl ?_ (by rw [sizeLine_eq]; omega))
  refine wpAny_bind (wpAny_newList ?_ (by rw [sizeLine_eq]; omega))
  have hsz : ((s.heap.push (seqObj "list" #[] 0)).update s.heap.objs.size (Obj.mapSeq (· ++ (txs vs).toArray))).objs.size = s.heap.objs.size + 1 := by
    rw [Heap.size_update, size_push']
  have hoL : (((s.heap.push (seqObj "list" #[] 0)).update s.heap.objs.size (Obj.mapSeq (· ++ (txs vs).toArray))).push (seqObj "list" (txs vs).toArray 0)).get? (s.heap.objs.size + 1) = some (seqObj "list" (txs vs).toArray 0) := by
    rw [← hsz]; exact Heap.get?_push_size _ rfl
  have keep : ∀ b o, s.heap.get? b = some o → (((s.heap.push (seqObj "list" #[] 0)).update s.heap.objs.size (Obj.mapSeq (· ++ (txs vs).toArray))).push (seqObj "list" (txs vs).toArray 0)).get? b = some o := fun b o q => by
    have hlt : b < s.heap.objs.size := Heap.lt_size q
    rw [Heap.get?_push_ne _ _ _ (by rw [hsz]; exact Nat.ne_of_lt (Nat.lt_succ_of_lt hlt)), Heap.get?_update_ne _ _ _ _ (Nat.ne_of_lt hlt), Heap.get?_push_ne _ _ _ (Nat.ne_of_lt hlt)]
    exact q
  have hL : L < s.heap.objs.size := F.ns.lt
  show wpAny _ _ _ _ _ { s with heap := ((s.heap.push (seqObj "list" #[] 0)).update s.heap.objs.size (Obj.mapSeq (· ++ (txs vs).toArray))).push (seqObj "list" (txs vs).toArray 0) }
  rw [hsz]
  have hNlt : ∀ q ∈ news, q.1 < s.heap.objs.size + 1 := fun q hq => Nat.lt_succ_of_lt (Heap.lt_size (N q hq).1)
  refine wpAny_bind (wpAny_holding (wpAny_call_entry slot_list_sort ⟨_, hoL, rfl⟩ entry_list_sort ?body (args_list_sort _)))
  case body =>
    refine sort_text (s := { s with heap := ((s.heap.push (seqObj "list" #[] 0)).update s.heap.objs.size (Obj.mapSeq (· ++ (txs vs).toArray))).push (seqObj "list" (txs vs).toArray 0) })
      (F.kept keep) (N.grown keep) hoL (Nat.ne_of_gt (Nat.lt_succ_of_lt hL)) (Heap.get?_none_of_le (Nat.le_trans F.above (Nat.le_succ_of_le (Nat.le_of_lt hL))))
      (fun p hp => Nat.ne_of_lt (hNlt p hp)) h64 hnd fun h' c srt hs F' N' => ⟨_, rfl, wpAny_pure ⟨_, rfl, h _ h' c srt hs F' N' hNlt⟩⟩
end
section
variable {prog : Program} {w : World} {A : Around} {E : Value → Shared → Prop} {s : Shared} {h₀ : Heap} {L a c fi fl dd C : Addr} {m : Str → Option Value} {news : List (Addr × Obj)} {K : Frag} {oc od : Obj} {ox : Option Obj}
variable {KK : Type} [DecidableEq KK] {knd : PySem.KeyKind prog w KK} {kvs : List (KK × Value)}
/-- collect(x) of an own class whose __iter__ hands a dict's iterator out -/
theorem own_collect {R : List Value → Shared → Prop} (hh : A.handled = none) (F : Fr h₀ L s.heap m) (N : News h₀ L s.heap news) (X₀ : K.In h₀) (hI : ∀ h, News h₀ L h news → InstAt h c oc C ox)
    (hdm : (dd, od) ∈ news)
    (hs1 : findIn K (.ref C) "__iter__" = some (some (.ref fi))) (hf1 : isFn K (.ref fi) = true) (hs2 : findIn K (.ref C) "__len__" = some (some (.ref fl)))
    (hcm : ∃ o, (c, o) ∈ news) (hn : kvs.length ≤ 1000)
    (ci : ∀ (s1 : Shared) news1 (Q' E' : Value → Shared → Prop), (∀ q ∈ news, q ∈ news1) → Fr h₀ L s1.heap m → News h₀ L s1.heap news1 →
      (∀ h' tk' I o ep, Fr h₀ L h' m → News h₀ L h' ((I, o) :: news1) → (∀ q ∈ news1, q.1 < I) → KdkIter o dd 0 kvs.length ep → KdkAt knd od kvs ep → Q' (.ref I) { s1 with heap := h', toks := tk' }) → wpAny (model prog w) A.in1 (call (.ref fi) [.ref c]) Q' E' s1)
    (cl : ∀ (s1 : Shared) news1 (Q' E' : Value → Shared → Prop), (∀ q ∈ news, q ∈ news1) → Fr h₀ L s1.heap m → News h₀ L s1.heap news1 →
      (∀ h' tk' t', Fr h₀ L h' m → News h₀ L h' news1 → Q' (.int kvs.length t') { s1 with heap := h', toks := tk' }) → wpAny (model prog w) A.in1 (call (.builtin "len") [.ref c]) Q' E' s1)
    (h : ∀ h' tk' (vs : List Value), Fr h₀ L h' m → News h₀ L h' news → vs.length = kvs.length → (∀ (j : Nat) (v : Value), vs[j]? = some v → ∃ k x, kvs[j]? = some (k, x) ∧ knd.is k v = true) → R vs { s with heap := h', toks := tk' }) :
    wpAny (model prog w) A (collect (.ref c)) R E s := by
  unfold collect
  refine wpAny_bind (wpAny_runValue (codeAny_builtin entry_proto_collect' ?_))
  rw [Around.under_plainId PySem.F.plain_proto_collect _]
  show wpAny _ A.in1 (newList [] >>= fun l => again (.builtin "list.__iadd__" ⟨[l, .ref c], []⟩)) _ _ s
  refine wpAny_bind (wpAny_newObj_type ?_)
  refine wpAny_pure ⟨plainId_quiet PySem.F.plain_list_iadd _, codeAny_builtin entry_list_iadd' ?_⟩
  rw [Around.under_plainId PySem.F.plain_list_iadd _]
  have N1 := News.push F N (seqObj "list" #[] 0)
  have F1 := F.push (seqObj "list" #[] 0)
  have hlt : ∀ q ∈ news, q.1 < s.heap.objs.size := fun q hq => Heap.lt_size (N q hq).1
  show wpAny _ A.in1 (Builtin.List.listExtendWith (.ref s.heap.objs.size) (.ref c) (.ref s.heap.objs.size)) _ _ _
  generalize hS : s.heap.objs.size = S at *
  unfold Builtin.List.listExtendWith
  obtain ⟨oc', hcm⟩ := hcm
  have hne : S ≠ c := Nat.ne_of_gt (hlt _ hcm)
  refine wpAny_bind ((hI _ fun q hq => N1 q (.tail _ hq)).type.here ?_)
  have h1 : Builtin.List.listSameRef (.ref S) (.ref c) = false := by simp [Builtin.List.listSameRef, hne]
  have h2 : (Value.ref C == Value.type "list") = false := rfl
  have h3 : (Value.ref C == Value.type "tuple") = false := rfl
  simp only [h1, h2, h3, Bool.or_false, Bool.false_eq_true, if_false]
  refine wpAny_bind (owit_iter (s := { s with heap := s.heap.push (seqObj "list" #[] 0) }) F1 X₀ (hI _ fun q hq => N1 q (.tail _ hq)) hs1 hf1 (ci _ _ _ _ (fun q hq => .tail _ hq) F1 N1 fun h2 tk2 I oI ep F2 N2 hI2 hit hat => ?_))
  unfold OwitIt
  have hit2 := KdkIter.at hit (N2 _ (.head _)).1
  refine wpAny_specialOf hit2.typeIs PySem.F.slot_dict_keyiterator_next.lookup ?_
  refine wpAny_bind (wpAny_holding ?_)
  unfold Builtin.List.listLengthHint
  refine wpAny_bind ?_
  unfold specialOf
  have N2' : News h₀ L h2 news := fun q hq => N2 q (.tail _ (.tail _ hq))
  refine wpAny_bind ((hI _ N2').type.here ((looks_findIn (X₀.keeps F2.keep) hs2).here ?_))
  dsimp only
  refine wpAny_ite_split (fun hab => (Bool.false_ne_true hab).elim) (fun _ => ?_)
  refine wpAny_ite_split (fun _ => ?_) (fun hab => absurd rfl hab)
  refine wpAny_bind (wpAny_rule ?_)
  refine wpAny_bind (wpAny_attempt (cl { s with heap := h2, toks := tk2 } _ _ _ (fun q hq => .tail _ (.tail _ hq)) F2 N2 fun h3 tk3 t3 F3 N3 => ?_))
  dsimp only
  refine wpAny_bind (wpAny_pure ?_)
  dsimp only
  have hbig : ¬ Builtin.List.listTooLong (kvs.length : Int).toNat = true := by
    unfold Builtin.List.listTooLong
    rw [sizeLine_eq, decide_eq_true_eq, Int.toNat_natCast]; omega
  rw [if_neg hbig]
  refine wpAny_pure ?_
  have hSm := N3 (S, seqObj "list" #[] 0) (.tail _ (.head _))
  have hit3 := KdkIter.at hit (N3 _ (.head _)).1
  have hat3 := KdkAt.dictAt hat (N3 (dd, od) (.tail _ (.tail _ hdm))).1
  have hdI : dd ≠ I := Nat.ne_of_lt (hI2 _ (.tail _ hdm))
  have hSI : S ≠ I := Nat.ne_of_lt (hI2 _ (.head _))
  have hSd : S ≠ dd := Nat.ne_of_gt (hlt _ hdm)
  have hSf : S ∉ [I, dd] := by simp [hSI, hSd]
  have key : ∀ (h : Heap) (c₁ tk : Nat), (∀ b o, b ≠ S → h3.get? b = some o → h.get? b = some o) → h.get? S = some { cls := .type "list", data := .seq #[] c₁ } →
      codeAny (model prog w) A (.builtin "list.extend.loop" ⟨[.ref S, .ref I, .ref S], []⟩) (fun q s' => ∃ (h' : Heap) (tk : Nat) (acc' : Array Value) (c' : Nat), q = .ok (.ret (.ref S)) ∧ s' = { s with heap := h', toks := tk } ∧
      (∀ b o, b ≠ S → b ≠ I → h3.get? b = some o → h'.get? b = some o) ∧ h'.get? S = some { cls := .type "list", dict := none, data := .seq acc' c', slots := #[] } ∧ ItemsOf (fun i v => ∃ k x, kvs[i]? = some (k, x) ∧ knd.is k v = true) acc' kvs.length) { s with heap := h, toks := tk } := by
    intro h c₁ tk hk hS₁
    refine codeAny_extend_loopS (Walks.dictKeys (A := A.in1) (knd := knd) hh I dd hdI kvs ep).toS (by rw [sizeLine_eq]; omega) S hSf (.ref S) kvs.length 0 _ #[] c₁ rfl (Nat.zero_le _) ⟨hit3.at fun o e => hk I o (Ne.symm hSI) e, hat3.at' fun o e => hk dd o (Ne.symm hSd) e⟩ hS₁ (ItemsOf.nil _) fun s' acc' c' hm hS' hacc => ?_
    rw [Moved.eq_with hm]
    exact ⟨s'.heap, s'.toks, acc', c', rfl, rfl, fun b o b1 b2 e => hm.heap b o (by simp [b1, b2]) (hk b o b1 e), hS', hacc⟩
  have post : ∀ (q : Result) (s' : Shared), (∃ (h' : Heap) (tk : Nat) (acc' : Array Value) (c' : Nat), q = .ok (.ret (.ref S)) ∧ s' = { s with heap := h', toks := tk } ∧
      (∀ b o, b ≠ S → b ≠ I → h3.get? b = some o → h'.get? b = some o) ∧ h'.get? S = some { cls := .type "list", dict := none, data := .seq acc' c', slots := #[] } ∧ ItemsOf (fun i v => ∃ k x, kvs[i]? = some (k, x) ∧ knd.is k v = true) acc' kvs.length) →
      ∃ v, q = .ok (.ret v) ∧ ∃ a, v = .ref a ∧ ∃ o xs ep, s'.heap.get? a = some o ∧ o.data = .seq xs ep ∧ R xs.toList s' := by
    rintro q s' ⟨h', tk, acc', c', rfl, rfl, hk, hS', hacc⟩
    refine ⟨_, rfl, S, rfl, _, acc', c', hS', rfl, ?_⟩
    refine h h' tk acc'.toList ?_ (fun p hp => ?_) (by rw [Array.length_toList]; exact hacc.1) fun j v e => hacc.2 j v (by rw [← Array.getElem?_toList]; exact e)
    · have hIL := (N3 _ (.head _)).2
      have hSL := hSm.2
      refine ⟨?_, fun b x e => hk b x (fun e2 => by rw [e2] at e; have := hSL.2; dsimp only at this; rw [this] at e; cases e) (fun e2 => by rw [e2] at e; have := hIL.2; dsimp only at this; rw [this] at e; cases e) (F3.keep b x e), F3.above⟩
      obtain ⟨oL, es, eL, hoL, r⟩ := F3.ns
      exact ⟨oL, es, eL, hk L oL (Ne.symm hSL.1) (Ne.symm hIL.1) hoL, r⟩
    · have q := N3 p (.tail _ (.tail _ hp))
      exact ⟨hk _ _ (Nat.ne_of_lt (hlt p hp)) (Nat.ne_of_lt (hI2 p (.tail _ hp))) q.1, q.2⟩
  have go : ∀ (h : Heap) (c₁ tk : Nat), (∀ b o, b ≠ S → h3.get? b = some o → h.get? b = some o) → h.get? S = some { cls := .type "list", data := .seq #[] c₁ } →
      codeAny (model prog w) A (.builtin "list.extend.loop" ⟨[.ref S, .ref I, .ref S], []⟩) (fun r s' => match r with
        | Except.ok (Flow.ret v) => wpAny (model prog w) A (match v with | Value.ref a => (do (match (← load a).data with | Data.seq xs epoch => pure xs.toList | x => unsupported "internal:collect")) | x => unsupported "internal:collect") R E s'
        | Except.ok a => False
        | Except.error e => E e s') { s with heap := h, toks := tk } := fun h c₁ tk hk hS₁ => codeAny_mono (key h c₁ tk hk hS₁) fun q s' hq => by
    obtain ⟨v, rfl, a, rfl, o, xs, ep, ho, hd, hR⟩ := post q s' hq
    dsimp only
    refine wpAny_bind (wpAny_load ho ?_)
    rw [hd]
    exact wpAny_pure hR
  refine wpAny_ite_split (fun _ => ?_) (fun _ => wpAny_pure ⟨plainId_quiet PySem.F.plain_extend_loop _, go h3 0 tk3 (fun b o _ e => e) hSm.1⟩)
  refine wpAny_bind (wpAny_rule ?_)
  refine wpAny_bind ?_
  show wpAny _ _ (updateSeq S (·.push .none) >>= fun _ => updateSeq S (·.pop)) _ _ _
  refine wpAny_bind (wpAny_updateSeq hSm.1 rfl ?_)
  have hS₂ := Heap.get?_update_self (Obj.mapSeq (·.push Value.none)) hSm.1 rfl
  refine wpAny_updateSeq (hz := by seq_fits) hS₂ rfl ?_
  have hS₃ := Heap.get?_update_self (Obj.mapSeq (·.pop)) hS₂ rfl
  refine wpAny_pure ⟨plainId_quiet PySem.F.plain_extend_loop _, go _ _ _ (fun b o hb e => ?_) hS₃⟩
  exact (Heap.get?_update_other _ _ (Ne.symm hb)).trans ((Heap.get?_update_other _ _ (Ne.symm hb)).trans e)

/-- sorted(x) of such a class, the keys texts -/
theorem sorted_own {kvs : List (Str × Value)} {Q : Value → Shared → Prop} (hh : A.handled = none) (F : Fr h₀ L s.heap m) (N : News h₀ L s.heap news) (X₀ : K.In h₀) (hI : ∀ h, News h₀ L h news → InstAt h c oc C ox)
    (hdm : (dd, od) ∈ news)
    (hs1 : findIn K (.ref C) "__iter__" = some (some (.ref fi))) (hf1 : isFn K (.ref fi) = true) (hs2 : findIn K (.ref C) "__len__" = some (some (.ref fl)))
    (hcm : ∃ o, (c, o) ∈ news) (hn : kvs.length < 64) (hnd : (kvs.map (·.1)).Nodup)
    (ci : ∀ (s1 : Shared) news1 (Q' E' : Value → Shared → Prop), (∀ q ∈ news, q ∈ news1) → Fr h₀ L s1.heap m → News h₀ L s1.heap news1 →
      (∀ h' tk' I o ep, Fr h₀ L h' m → News h₀ L h' ((I, o) :: news1) → (∀ q ∈ news1, q.1 < I) → KdkIter o dd 0 kvs.length ep → KdkAt (PySem.strKind prog w) od kvs ep → Q' (.ref I) { s1 with heap := h', toks := tk' }) → wpAny (model prog w) A.in1.in1 (call (.ref fi) [.ref c]) Q' E' s1)
    (cl : ∀ (s1 : Shared) news1 (Q' E' : Value → Shared → Prop), (∀ q ∈ news, q ∈ news1) → Fr h₀ L s1.heap m → News h₀ L s1.heap news1 →
      (∀ h' tk' t', Fr h₀ L h' m → News h₀ L h' news1 → Q' (.int kvs.length t') { s1 with heap := h', toks := tk' }) → wpAny (model prog w) A.in1.in1 (call (.builtin "len") [.ref c]) Q' E' s1)
    (h : ∀ D h' tk' e srt, (srt.map (·.1)).Perm (kvs.map (·.1)) → (srt.map (·.1)).Pairwise tlt → Fr h₀ L h' m → News h₀ L h' ((D, listOf (txs srt).toArray e) :: news) → (∀ q ∈ news, q.1 < D) → Q (.ref D) { s with heap := h', toks := tk' }) :
    wpAny (model prog w) A (call (.builtin "sorted") [.ref c]) Q E s := by
  refine Calls.call_function_entry kind_sorted plain_sorted entry_sorted (args_sorted1 _) ?_
  unfold Builtin.«sorted»
  refine wpAny_bind (m := checkCount "sorted" 1 1 _) (wpAny_pure ?_)
  refine wpAny_bind (own_collect (A := A.in1) (knd := PySem.strKind prog w) hh F N X₀ hI hdm hs1 hf1 hs2 hcm (by omega) ci cl fun h' tk' vs F' N' hl hv => ?_)
  obtain ⟨l, rfl, hkeys⟩ : ∃ l : List (Str × Tok), vs = txs l ∧ l.map (·.1) = kvs.map (·.1) := by
    clear N N' F F' ci cl h hnd hn
    induction vs generalizing kvs with
    | nil =>
      rcases kvs with _ | ⟨x, r⟩
      · exact ⟨[], rfl, rfl⟩
      · simp at hl
    | cons v vs ih =>
      rcases kvs with _ | ⟨x, r⟩
      · simp at hl
      · obtain ⟨l, rfl, e2⟩ := ih (kvs := r) (by simpa using hl) fun j u hu => by simpa using hv (j + 1) u (by simpa using hu)
        obtain ⟨k, y, e, hk⟩ := hv 0 v rfl
        simp only [List.getElem?_cons_zero, Option.some.injEq] at e
        subst e
        obtain ⟨t, rfl⟩ : ∃ t, v = .str k t := PyProof.V.Flat.str_inv (kdl_flat_str hk)
        exact ⟨(k, t) :: l, rfl, by rw [List.map_cons, List.map_cons, e2]⟩
  have hll : l.length = kvs.length := by simpa using hl
  have hz : (txs l).length = l.length := List.length_map ..
  refine wpAny_bind (wpAny_newList ?_ (by rw [sizeLine_eq]; omega))
  have hoL : (h'.push (seqObj "list" (txs l).toArray 0)).get? h'.objs.size = some (seqObj "list" (txs l).toArray 0) := Heap.get?_push_size _ rfl
  have keep : ∀ b o, h'.get? b = some o → (h'.push (seqObj "list" (txs l).toArray 0)).get? b = some o := fun b o q => Heap.get?_push_of_some _ q
  have hL : L < h'.objs.size := F'.ns.lt
  have hNlt : ∀ q ∈ news, q.1 < h'.objs.size := fun q hq => Heap.lt_size (N' q hq).1
  refine wpAny_bind (wpAny_holding (wpAny_call_entry slot_list_sort ⟨_, hoL, rfl⟩ entry_list_sort ?body (args_list_sort _)))
  case body =>
    refine sort_text (s := { s with heap := h'.push (seqObj "list" (txs l).toArray 0), toks := tk' })
      (F'.kept keep) (N'.grown keep) hoL (Nat.ne_of_gt hL) (Heap.get?_none_of_le (Nat.le_trans F'.above (Nat.le_of_lt hL)))
      (fun p hp => Nat.ne_of_lt (hNlt p hp)) (by omega) (by rw [hkeys]; exact hnd) fun h2 e srt hs F2 N2 => ⟨_, rfl, wpAny_pure ⟨_, rfl, h _ h2 tk' e srt ((hs.1.map _).trans (by rw [hkeys])) hs.2 F2 N2 hNlt⟩⟩
end
/-! equality of two lists of texts -/
section
variable {prog : Program} {w : World} {A : Around} {E : Value → Shared → Prop} {s : Shared} {a b : Addr} {xs ys : List (Str × Tok)} {Q : Value → Shared → Prop}
theorem ne_texts (ha : s.heap.IsList a (txs xs).toArray) (hb : s.heap.IsList b (txs ys).toArray) (e : xs.map (·.1) = ys.map (·.1)) (hu : A.units < cLine) (h : Q (.bool false) s) :
    wpAny (model prog w) A (compareOp .NotEq (.ref a) (.ref b)) Q E s := by
  have hl : xs.length = ys.length := by simpa using congrArg List.length e
  have key := PySem.SeqAt.RcNeAt.lists (A := A) (e := fun _ => true) ha hb (by simp [hl]) hu (fun j h1 h2 => by
    have j1 : j < xs.length := by simpa using h1
    have j2 : j < ys.length := by simpa using h2
    have e1 : (txs xs).toArray[j] = .str (xs[j]).1 (xs[j]).2 := by simp
    have e2 : (txs ys).toArray[j] = .str (ys[j]).1 (ys[j]).2 := by simp
    have e3 : (xs[j]).1 = (ys[j]).1 := by
      have q : (xs.map (·.1))[j]? = (ys.map (·.1))[j]? := by rw [e]
      simpa [List.getElem?_map, List.getElem?_eq_getElem j1, List.getElem?_eq_getElem j2] using q
    rw [e1, e2, e3]
    have := PySem.SeqAt.EqAt.str_str (A := A.in1) (s := s) (ys[j]).1 (xs[j]).2 (ys[j]).1 (ys[j]).2
    rwa [beq_self_eq_true] at this)
  have ef : (!(List.range (txs xs).toArray.size).all fun _ => true) = false := by simp
  rw [ef] at key
  exact key prog w E Q h
end
end MineP
end
section
open PySem PySem.W PyProof.Rows
namespace Mine1

/-- the ledger without some addresses -/
def wo (xs : List Addr) (news : List (Addr × Obj)) : List (Addr × Obj) := news.filter fun p => !xs.contains p.1
theorem wo_ne {xs : List Addr} {news : List (Addr × Obj)} {a : Addr} (ha : a ∈ xs) : ∀ p ∈ wo xs news, p.1 ≠ a := by
  intro p hp e
  have := (List.mem_filter.mp hp).2
  rw [e] at this
  simp [ha] at this
theorem wo_mem {xs : List Addr} {news : List (Addr × Obj)} {p : Addr × Obj} (hp : p ∈ news) (h : p.1 ∉ xs) : p ∈ wo xs news := List.mem_filter.mpr ⟨hp, by simp [h]⟩
theorem wo_sub {xs : List Addr} {news : List (Addr × Obj)} {p : Addr × Obj} (hp : p ∈ wo xs news) : p ∈ news := (List.mem_filter.mp hp).1
theorem wo_not {xs : List Addr} {news : List (Addr × Obj)} {p : Addr × Obj} (hp : p ∈ wo xs news) : p.1 ∉ xs := by
  have := (List.mem_filter.mp hp).2; simpa using this
theorem news_mono {h₀ h : Heap} {L : Addr} {news news' : List (Addr × Obj)} (N : News h₀ L h news) (hs : ∀ p ∈ news', p ∈ news) : News h₀ L h news' := fun p hp => N p (hs p hp)
theorem news_cons {h₀ h : Heap} {L : Addr} {p : Addr × Obj} {news news' : List (Addr × Obj)} (N : News h₀ L h news) (hp : p ∈ news) (N' : News h₀ L h news') : News h₀ L h (p :: news') := fun q hq => by
  rcases List.mem_cons.mp hq with rfl | hq
  · exact N _ hp
  · exact N' q hq
theorem news_ne {h₀ h : Heap} {L a b : Addr} {o o' : Obj} {news : List (Addr × Obj)} (N : News h₀ L h news) (h1 : (a, o) ∈ news) (h2 : (b, o') ∈ news) (hne : o ≠ o') : a ≠ b := fun e => by
  have q := (N _ h1).1
  have q' := (N _ h2).1
  subst e
  dsimp only at q q'
  rw [q] at q'
  exact hne (Option.some.inj q')
theorem news_nec {h₀ h : Heap} {L a b : Addr} {o o' : Obj} {news : List (Addr × Obj)} (N : News h₀ L h news) (h1 : (a, o) ∈ news) (h2 : (b, o') ∈ news) (hne : o.cls ≠ o'.cls) : a ≠ b :=
  news_ne N h1 h2 fun e => hne (congrArg Obj.cls e)
theorem dict_cls {prog : Program} {w : World} {K : Type} [DecidableEq K] {knd : KeyKind prog w K} {o : Obj} {kvs : List (K × Value)} (h : o.IsDictOf knd kvs) : o.cls = .type "dict" := let ⟨_, _, e, _⟩ := h; e.1
theorem allLt_mem {a : Addr} {l : List (Addr × Obj)} (h : AllLt a l) : ∀ q ∈ l, q.1 < a := by
  induction l with
  | nil => intro q hq; cases hq
  | cons p r ih =>
    intro q hq
    rcases List.mem_cons.mp hq with e | hq
    · rw [e]; exact h.1
    · exact ih h.2 q hq
theorem allLt_ne {a b : Addr} {l : List (Addr × Obj)} (h : AllLt a l) (hb : @LT.lt Nat _ a b) : ∀ q ∈ l, q.1 ≠ b := fun q hq => Nat.ne_of_lt (Nat.lt_trans (allLt_mem h q hq) hb)
theorem allLt_ne' {a : Addr} {l : List (Addr × Obj)} (h : AllLt a l) : ∀ q ∈ l, q.1 ≠ a := fun q hq => Nat.ne_of_lt (allLt_mem h q hq)
theorem lt_ne {a b : Addr} {l : List (Addr × Obj)} (h : ∀ p ∈ l, p.1 < a) (hb : @LT.lt Nat _ a b) : ∀ q ∈ l, q.1 ≠ b := fun q hq => Nat.ne_of_lt (Nat.lt_trans (h q hq) hb)
theorem lt_ne' {a : Addr} {l : List (Addr × Obj)} (h : ∀ p ∈ l, p.1 < a) : ∀ q ∈ l, q.1 ≠ a := fun q hq => Nat.ne_of_lt (h q hq)
theorem wo_lt {xs : List Addr} {news : List (Addr × Obj)} {a : Addr} (h1 : ∀ x ∈ xs, x < a) (h2 : AllLt a (wo xs news)) : ∀ q ∈ news, q.1 < a := fun q hq => by
  by_cases h : q.1 ∈ xs
  · exact h1 _ h
  · exact allLt_mem h2 _ (wo_mem hq h)
theorem news_same {h₀ h : Heap} {L a : Addr} {o : Obj} {news : List (Addr × Obj)} {q : Addr × Obj} (N : News h₀ L h news) (h1 : (a, o) ∈ news) (hq : q ∈ news) (e : q.1 = a) : q = (a, o) := by
  have e1 := (N _ h1).1
  have e2 := (N _ hq).1
  rw [e] at e2
  exact Prod.ext e (Option.some.inj (e2.symm.trans e1))
theorem updF_front {a : Addr} {o : Obj} {news : List (Addr × Obj)} {g : Obj → List (Addr × Obj)} (U : UpdF a o news g) :
    ∃ T : List (Addr × Obj), (∀ p ∈ T, p.1 ≠ a) ∧ (∀ p, p ∈ news ↔ p = (a, o) ∨ p ∈ T) ∧ ∀ o' p, p ∈ g o' ↔ p = (a, o') ∨ p ∈ T := by
  obtain ⟨pre, post, e, hg, h1, h2⟩ := U.split
  refine ⟨pre ++ post, fun p hp => (List.mem_append.mp hp).elim (h1 p) (h2 p), fun p => ?_, fun o' p => ?_⟩
  · rw [e]; simp only [List.mem_append, List.mem_cons]; constructor <;> (intro h; rcases h with h | h | h <;> simp_all)
  · rw [hg]; simp only [List.mem_append, List.mem_cons]; constructor <;> (intro h; rcases h with h | h | h <;> simp_all)
section
variable {prog : Program} {w : World} {A : Around} {E : Value → Shared → Prop} {s : Shared} {K : Frag} {x C L f : Addr} {h₀ : Heap} {m : Str → Option Value} {ox : Obj} {od : Option Obj} {v : Value}
theorem delItem_own {Q : Unit → Shared → Prop} (F : Fr h₀ L s.heap m) (X₀ : K.In h₀) (I : InstAt s.heap x ox C od) (hq : noSeq K C = true) (hs : findIn K (.ref C) "__delitem__" = some (some (.ref f))) (hf : isFn K (.ref f) = true)
    (h : wpAny (model prog w) A (call (.ref f) [.ref x, v]) (fun _ => Q ()) E s) : wpAny (model prog w) A (delItem (.ref x) v) Q E s := by
  have X := X₀.keeps F.keep
  unfold delItem sequenceKey
  refine wpAny_holding (wpAny_bind (wpAny_bind (I.type.here ?_)))
  refine wpAny_bind ((anyM_none X hq).here ?_)
  rw [if_pos (show (!false) = true from rfl)]
  exact wpAny_pure (wpAny_bind (special_fn X I hs (beq_iff_eq.mp hf) (wpAny_mono h (fun _ _ z => wpAny_pure z) fun _ _ z => z)))
end
section
variable {prog : Program} {w : World} {K : Type} [DecidableEq K] {knd : KeyKind prog w K} {A : Around} {E : Value → Shared → Prop} {s : Shared} {h₀ : Heap} {L dd : Addr} {news : List (Addr × Obj)} {od : Obj} {kvs : List (K × Value)} {k : K} {key : Value}
theorem getItem_missing {Q : Value → Shared → Prop} (N : News h₀ L s.heap news) (hp : (dd, od) ∈ news) (hd : od.IsDictOf knd kvs) (lo : (dd == sysModules) = false) (hkey : knd.is k key = true) (hh : A.handled = none) (hv : valueAt kvs k = none)
    (h : ∀ h' e, Heap.NewExc s.heap h' e "KeyError" → E (.ref e) { s with heap := h', toks := s.toks + 1 }) : wpAny (model prog w) A (getItem (.ref dd) key) Q E s :=
  wpAny_getItem_missing_of hkey lo hh (kda_dict N hp hd).mapOf hv h
theorem item_missing {value slice : PySem.Expr} {Q : Value → Shared → Prop} (N : News h₀ L s.heap news) (hp : (dd, od) ∈ news) (hd : od.IsDictOf knd kvs) (lo : (dd == sysModules) = false) (hkey : knd.is k key = true) (hh : A.handled = none) (hv : valueAt kvs k = none)
    (h : ∀ h' e, Heap.NewExc s.heap h' e "KeyError" → E (.ref e) { s with heap := h', toks := s.toks + 1 })
    (hs : subscripted slice false (.ref dd) key = operate [.ref dd, key] (getItem (.ref dd) key) := by with_unfolding_all rfl) (hg : ∀ r, letTemporaryGo value (.ref dd) r = pure () := by intro _; with_unfolding_all rfl) :
    wpAny (model prog w) A (subscriptTail value slice (.ref dd) key) Q E s :=
  subscriptTail_builtin (kda_dict N hp hd).typeIs slot_dict_getitem.lookup (getItem_missing N hp hd lo hkey hh hv h) hs hg
theorem delItem_missing {Q : Unit → Shared → Prop} (N : News h₀ L s.heap news) (hp : (dd, od) ∈ news) (hd : od.IsDictOf knd kvs) (lo : (dd == sysModules) = false) (hkey : knd.is k key = true) (hh : A.handled = none) (hv : valueAt kvs k = none)
    (h : ∀ h' e, Heap.NewExc s.heap h' e "KeyError" → E (.ref e) { s with heap := h', toks := s.toks + 1 }) : wpAny (model prog w) A (delItem (.ref dd) key) Q E s := by
  have hD := kda_dict N hp hd
  unfold delItem
  try with_reducible refine wpAny_holding ?_
  refine wpAny_bind (wpAny_sequenceKey hD.typeIs (by decide) ?_)
  exact wpAny_bind (wpAny_callSpecial?_slot (name := Str.ofString "__delitem__") hD.typeIs PySem.F.slot_dict_delitem
    (call_meetsIn PySem.F.slot_dict_delitem hD.typeIs PySem.F.entry_dict_delitem (PySem.F.args_dict_delitem_2 _ _) (meets_dict_delitem_missing knd dd hkey lo) ⟨hh, kvs, hD, hv, h⟩))
end

/-! rows of the cache -/
structure Row (α : Type) where
  key : α
  kv : Value
  val : Value
  ctr : Int
  ctok : Tok
  ep : Nat
  tup : Addr
  lst : Addr
abbrev Row.tupO {α : Type} (r : Row α) : Obj := { cls := .type "tuple", data := .seq [r.kv, r.val, .ref r.lst].toArray }
abbrev Row.lstO {α : Type} (r : Row α) : Obj := PySem.W.listOf #[.int r.ctr r.ctok] r.ep
def RowsIn {α : Type} (news : List (Addr × Obj)) (rows : List (Row α)) : Prop := ∀ r ∈ rows, (r.tup, r.tupO) ∈ news ∧ (r.lst, r.lstO) ∈ news
def kvsOf {α : Type} (rows : List (Row α)) : List (α × Value) := rows.map fun r => (r.key, .ref r.tup)
theorem perm_map_inv {α β : Type} {f : α → β} {l' : List β} {m : List β} (h : m.Perm l') : ∀ {l : List α}, m = l.map f → ∃ l₂ : List α, l₂.Perm l ∧ l₂.map f = l' := by
  induction h with
  | nil => intro l e; exact ⟨l, .refl _, e.symm⟩
  | cons x _ ih =>
    intro l e
    rcases l with _ | ⟨a, l⟩
    · cases e
    · obtain ⟨e1, e2⟩ := List.cons.inj e
      obtain ⟨l₂, p, q⟩ := ih e2
      exact ⟨a :: l₂, p.cons a, by rw [List.map_cons, q, e1]⟩
  | swap x y l =>
    intro l0 e
    rcases l0 with _ | ⟨a, _ | ⟨b, l1⟩⟩
    · cases e
    · cases e
    · obtain ⟨e1, e2⟩ := List.cons.inj e
      obtain ⟨e3, e4⟩ := List.cons.inj e2
      exact ⟨b :: a :: l1, .swap _ _ _, by rw [List.map_cons, List.map_cons, ← e1, ← e3, ← e4]⟩
  | trans _ _ ih1 ih2 =>
    intro l e
    obtain ⟨l₂, p, q⟩ := ih1 e
    obtain ⟨l₃, p', q'⟩ := ih2 q.symm
    exact ⟨l₃, p'.trans p, q'⟩
end Mine1
end
section
open PySem PySem.W PyProof.Rows
namespace Mine1
set_option maxRecDepth 100000
set_option maxHeartbeats 8000000
local macro_rules | `(tactic| k_all) => `(tactic| first | assumption)
local macro_rules | `(tactic| k_ne) => `(tactic| (refine neN ?_; (try dsimp only); first | assumption | (apply Ne.symm; assumption)))
local macro_rules | `(tactic| k_room) => `(tactic| ((try simp only [depth_under_make, depth_under_kw, depth_in1, depth_deeper, depth_caller]); show _ < 1000; omega))
local macro_rules | `(tactic| walk_at "delItem ref") => `(tactic| (k_dflt (refine' delItem_own ?k1 ?k2 ?k3 ?k4 ?k5 ?k6 ?_; (case k1 => k_asm); (case k2 => k_asm); (case k3 => k_inst); (case k4 => k_is); (case k5 => k_is); (case k6 => k_is); k_whole)))
variable {w : World} {A₀ : Around} {d u : Nat} {gs : Option (List Code)} {nm : List (Str × NameKind)} {mo : List (Str × PySem.Const)} {gl : Addr} {cl : List (Str × Addr)} {ql : Str} {fn : Option Addr} {co : Value} {bi : Addr} {outer : List Env}
  {base h₀ : Heap} {L : Addr} {s : Shared} {m mg mb : Str → Option Value} {mean : ExcName → Option Value} {loose : List Str} {p : Program} {news : List (Addr × Obj)} {Q : Value → Shared → Prop} {E : Value → Shared → Prop} {keep : List Addr}
abbrev AA (d u : Nat) (gs : Option (List Code)) (nm : List (Str × NameKind)) (mo : List (Str × PySem.Const)) (gl : Addr) (cl : List (Str × Addr)) (ql : Str) (fn : Option Addr) (co : Value) (bi L : Addr) (outer : List Env) : Around :=
  ⟨none, d, some ((⟨⟨.function, nm, false, false, mo⟩, L, gl, cl, ql, fn, co, some L, bi⟩ : Env) :: outer), gs, u⟩
abbrev lockObj (md : Addr) : Obj := instObj 46 md
abbrev heldDict (hs : Int) (tk : Tok) (b : Bool) : Obj := dictOf [⟨hs, .str (PySem.Str.ofString "held") tk, .bool b⟩] 1
abbrev cacheObj (cd d mx : Addr) (n : Int) (t : Tok) (cap al thr : Value) : Obj :=
  ⟨.ref 178, some cd, .plain, #[some (.int n t), some (.ref d), some (.ref mx), some cap, some al, some thr]⟩
variable {c cd dd mx md : Addr} {n : Int} {t : Tok} {cap al thr : Value}

theorem acquire_free {hs : Int} {tk : Tok} {g : Obj → List (Addr × Obj)} : d ≤ 600 → Below A₀ base outer h₀ → (hd.heap_39 w.params).In h₀ → Top p loose mean mg mb h₀ → Fr h₀ L s.heap m → News h₀ L s.heap news →
    UpdF md (heldDict hs tk false) news g → (mx, lockObj md) ∈ news → 
    (∀ h' tk', Fr h₀ L h' m → News h₀ L h' (g (heldDict hs tk true)) → Q (.bool true) { s with heap := h', toks := tk' }) →
    wpAny (model PySem.Challenge.rw_eu0033_01.row.prog w) (AA d u gs nm mo gl cl ql fn co bi L outer) (call (.ref 36) [.ref mx, .bool false]) Q E s := by
  k_fill
  intro hdp B X T F N U h1 K
  obtain ⟨R, hR, e1, e2⟩ := updF_front U
  have hne : mx ≠ md := news_ne N h1 ((e1 _).mpr (.inl rfl)) (by intro q; cases q)
  have N1 : News h₀ L s.heap ((mx, lockObj md) :: (md, heldDict hs tk false) :: R) := news_cons N h1 (news_mono N fun q hq => (e1 q).mpr (by simpa using hq))
  clear N h1
  k_steps
  exact K _ _ (by assumption) (news_mono (by assumption) fun q hq => by rcases (e2 _ q).mp hq with rfl | h <;> simp_all)

theorem acquire_held {hs : Int} {tk : Tok} : d ≤ 600 → Below A₀ base outer h₀ → (hd.heap_39 w.params).In h₀ → Top p loose mean mg mb h₀ → Fr h₀ L s.heap m → News h₀ L s.heap news →
    (md, heldDict hs tk true) ∈ news → (mx, lockObj md) ∈ news →
    (∀ h' tk', Fr h₀ L h' m → News h₀ L h' news → Q (.bool false) { s with heap := h', toks := tk' }) →
    wpAny (model PySem.Challenge.rw_eu0033_01.row.prog w) (AA d u gs nm mo gl cl ql fn co bi L outer) (call (.ref 36) [.ref mx, .bool false]) Q E s := by
  k_fill
  intro hdp B X T F N h2 h1 K
  have N1 : News h₀ L s.heap ((mx, lockObj md) :: (md, heldDict hs tk true) :: news) := news_cons N h1 (news_cons N h2 N)
  clear N h1
  k_steps
  exact K _ _ (by assumption) (news_mono (by assumption) fun q hq => by simp_all)

theorem release_ {hs : Int} {tk : Tok} {b : Bool} {g : Obj → List (Addr × Obj)} : d ≤ 600 → Below A₀ base outer h₀ → (hd.heap_39 w.params).In h₀ → Top p loose mean mg mb h₀ → Fr h₀ L s.heap m → News h₀ L s.heap news →
    UpdF md (heldDict hs tk b) news g → (mx, lockObj md) ∈ news →
    (∀ h' tk', Fr h₀ L h' m → News h₀ L h' (g (heldDict hs tk false)) → Q .none { s with heap := h', toks := tk' }) →
    wpAny (model PySem.Challenge.rw_eu0033_01.row.prog w) (AA d u gs nm mo gl cl ql fn co bi L outer) (call (.ref 43) [.ref mx]) Q E s := by
  k_fill
  intro hdp B X T F N U h1 K
  obtain ⟨R, hR, e1, e2⟩ := updF_front U
  have hne : mx ≠ md := news_ne N h1 ((e1 _).mpr (.inl rfl)) (by intro q; cases q)
  have N1 : News h₀ L s.heap ((mx, lockObj md) :: (md, heldDict hs tk b) :: R) := news_cons N h1 (news_mono N fun q hq => (e1 q).mpr (by simpa using hq))
  clear N h1
  k_steps
  exact K _ _ (by assumption) (news_mono (by assumption) fun q hq => by rcases (e2 _ q).mp hq with rfl | h <;> simp_all)

theorem inc_counter {g : Obj → List (Addr × Obj)} : d ≤ 600 → Below A₀ base outer h₀ → (hd.heap_39 w.params).In h₀ → Top p loose mean mg mb h₀ → Fr h₀ L s.heap m → News h₀ L s.heap news →
    UpdF c (cacheObj cd dd mx n t cap al thr) news g → (cd, dictOf [] 0) ∈ news →
    (∀ h' tk' t', Fr h₀ L h' m → News h₀ L h' (g (cacheObj cd dd mx (n + 1) t' cap al thr)) → Q (.int (n + 1) t') { s with heap := h', toks := tk' }) →
    wpAny (model PySem.Challenge.rw_eu0033_01.row.prog w) (AA d u gs nm mo gl cl ql fn co bi L outer) (call (.ref 116) [.ref c]) Q E s := by
  k_fill
  intro hdp B X T F N U h1 K
  obtain ⟨R, hR, e1, e2⟩ := updF_front U
  have hne : cd ≠ c := news_ne N h1 ((e1 _).mpr (.inl rfl)) (by intro q; cases q)
  have N1 : News h₀ L s.heap ((cd, dictOf [] 0) :: (c, cacheObj cd dd mx n t cap al thr) :: R) := news_cons N h1 (news_mono N fun q hq => (e1 q).mpr (by simpa using hq))
  clear N h1
  k_steps
  exact K _ _ _ (by assumption) (news_mono (by assumption) fun q hq => by rcases (e2 _ q).mp hq with rfl | h <;> simp_all)
end Mine1
end
section
open PySem PySem.W PyProof.Rows
namespace Mine1
set_option maxRecDepth 100000
set_option maxHeartbeats 8000000
local macro_rules | `(tactic| k_all) => `(tactic| first | assumption)
local macro_rules | `(tactic| k_ne) => `(tactic| (refine neN ?_; (try dsimp only); first | assumption | (apply Ne.symm; assumption)))
local macro_rules | `(tactic| k_room) => `(tactic| ((try simp only [depth_under_make, depth_under_kw, depth_in1, depth_deeper, depth_caller]); show _ < 1000; omega))
local macro_rules | `(tactic| walk_at "delItem ref") => `(tactic| (k_dflt (refine' delItem_own ?k1 ?k2 ?k3 ?k4 ?k5 ?k6 ?_; (case k1 => k_asm); (case k2 => k_asm); (case k3 => k_inst); (case k4 => k_is); (case k5 => k_is); (case k6 => k_is); k_whole)))
variable {w : World} {A₀ : Around} {d u : Nat} {gs : Option (List Code)} {nm : List (Str × NameKind)} {mo : List (Str × PySem.Const)} {gl : Addr} {cl : List (Str × Addr)} {ql : Str} {fn : Option Addr} {co : Value} {bi : Addr} {outer : List Env}
  {base h₀ : Heap} {L : Addr} {s : Shared} {m mg mb : Str → Option Value} {mean : ExcName → Option Value} {loose : List Str} {p : Program} {news : List (Addr × Obj)} {Q : Value → Shared → Prop} {E : Value → Shared → Prop} {keep : List Addr}
local macro_rules | `(tactic| walk_at "call ref") => `(tactic| (k_dflt (refine' inc_counter ?k1 ?k2 ?k3 ?k4 ?k5 ?k6 ?k7 ?k8 ?_; (case k1 => (try simp only [depth_deeper]); omega); (case k2 => k_asm); (case k3 => k_asm); (case k4 => k_asm); (case k5 => k_asm); (case k6 => k_asm); (case k7 => k_updF); (case k8 => k_mem); k_whole); intro h' tk' t' F' N'; (try dsimp only at N'); (try k_sweep)))
local macro_rules | `(tactic| walk_at "subscriptTail") => `(tactic| ((with_reducible show wpAny _ _ (subscriptTail _ _ (Value.ref _) (Value.str _ _)) _ _ _); k_dflt (refine item_missing (knd := PySem.strKind _ _) (by k_asm) (by k_mem) (by k_asm) (by k_asm) (strKind_is _ _ _ _) (by rfl) (by assumption) ?_); intro h' e' x'))
local macro_rules | `(tactic| walk_at "call builtin:dict.get") => `(tactic| (k_dflt (refine kdg_get1 (knd := PySem.strKind _ _) (by k_asm) (by k_mem) (by k_asm) (by k_asm) (strKind_is _ _ _ _) _ (by assumption) ?_); (try dsimp only [Option.getD])))
local macro_rules | `(tactic| walk_at "getItem ref str") => `(tactic| (k_dflt (refine kdt_getItem (knd := PySem.strKind _ _) (by k_asm) (by k_mem) (by k_asm) (strKind_is _ _ _ _) (by assumption) ?_)))
local macro_rules | `(tactic| walk_at "getItem ref str") => `(tactic| (k_dflt (refine getItem_missing (knd := PySem.strKind _ _) (by k_asm) (by k_mem) (by k_asm) (by k_asm) (strKind_is _ _ _ _) (by rfl) (by assumption) ?_); intro h' e' x'))
local macro_rules | `(tactic| walk_at "delItem ref str") => `(tactic| (k_dflt (refine' kob_del (knd := PySem.strKind _ _) ?F ?N ?U ?d (strKind_is _ _ _ _) ?l ?z ?_; (case F => k_asm); (case N => k_asm); (case U => k_updF); (case d => k_asm); (case l => assumption); (case z => rw [sizeLine_eq]; omega)); intro h' o' F' N' hd'; (try dsimp only at N')))
local macro_rules | `(tactic| walk_at "delItem ref str") => `(tactic| (k_dflt (refine delItem_missing (knd := PySem.strKind _ _) (by k_asm) (by k_mem) (by k_asm) (by k_asm) (strKind_is _ _ _ _) (by rfl) (by assumption) ?_); intro h' e' x'))
variable {c cd dd mx md tup lst : Addr} {n : Int} {t : Tok} {cap al thr : Value} {od : Obj} {kvs : List (Str × Value)} {key : Str} {kt : Tok} {ctr : Int} {ct : Tok} {ep : Nat} {v kv dflt : Value}
abbrev tupObj (vs : List Value) : Obj := { cls := .type "tuple", data := .seq vs.toArray }

theorem get_found : d ≤ 500 → Below A₀ base outer h₀ → (hd.heap_39 w.params).In h₀ → Top p loose mean mg mb h₀ → Fr h₀ L s.heap m → News h₀ L s.heap news →
    (c, cacheObj cd dd mx n t cap al thr) ∈ news → (cd, dictOf [] 0) ∈ news → (dd, od) ∈ news → od.IsDictOf (PySem.strKind PySem.Challenge.rw_eu0033_01.row.prog w) kvs → (dd == sysModules) = false →
    valueAt kvs key = some (.ref tup) → (tup, tupObj [kv, v, .ref lst]) ∈ news → (lst, listOf #[.int ctr ct] ep) ∈ news →
    (∀ h' tk' t', Fr h₀ L h' m → News h₀ L h' ((c, cacheObj cd dd mx (n + 1) t' cap al thr) :: (lst, listOf #[.int (n + 1) t'] ep) :: wo [c, lst] news) → Q v { s with heap := h', toks := tk' }) →
    wpAny (model PySem.Challenge.rw_eu0033_01.row.prog w) (AA d u gs nm mo gl cl ql fn co bi L outer) (call (.ref 124) [.ref c, .str key kt, dflt]) Q E s := by
  k_fill
  intro hdp B X T F N h1 h2 h3 hdi lo hv h4 h5 K
  have hc := dict_cls hdi
  have n1 : cd ≠ c := news_nec N h2 h1 (by simp)
  have n2 : lst ≠ c := news_nec N h5 h1 (by simp)
  have n3 : lst ≠ cd := news_nec N h5 h2 (by simp)
  have n4 : tup ≠ c := news_nec N h4 h1 (by simp)
  have n5 : tup ≠ lst := news_nec N h4 h5 (by simp)
  have n6 : dd ≠ c := news_nec N h3 h1 (by rw [hc]; simp)
  have n7 : dd ≠ lst := news_nec N h3 h5 (by rw [hc]; simp)
  have hR1 : ∀ q ∈ wo [c, lst] news, q.1 ≠ c := wo_ne (by simp)
  have hR2 : ∀ q ∈ wo [c, lst] news, q.1 ≠ lst := wo_ne (by simp)
  have N1 : News h₀ L s.heap ((c, cacheObj cd dd mx n t cap al thr) :: (cd, dictOf [] 0) :: (dd, od) :: (tup, tupObj [kv, v, .ref lst]) :: (lst, listOf #[.int ctr ct] ep) :: wo [c, lst] news) :=
    news_cons N h1 (news_cons N h2 (news_cons N h3 (news_cons N h4 (news_cons N h5 (news_mono N fun _ h => wo_sub h)))))
  generalize wo [c, lst] news = R at *
  clear N h1 h2 h3 h4 h5
  k_steps
  with_reducible rename News _ _ _ _ => N9
  exact K _ _ _ (by assumption) (news_cons N9 (.head _) (news_cons N9 (by k_mem) (news_mono N9 fun q hq => by simp [hq])))
theorem getitem_found : d ≤ 500 → Below A₀ base outer h₀ → (hd.heap_39 w.params).In h₀ → Top p loose mean mg mb h₀ → Fr h₀ L s.heap m → News h₀ L s.heap news →
    (c, cacheObj cd dd mx n t cap al thr) ∈ news → (cd, dictOf [] 0) ∈ news → (dd, od) ∈ news → od.IsDictOf (PySem.strKind PySem.Challenge.rw_eu0033_01.row.prog w) kvs → (dd == sysModules) = false →
    valueAt kvs key = some (.ref tup) → (tup, tupObj [kv, v, .ref lst]) ∈ news → (lst, listOf #[.int ctr ct] ep) ∈ news →
    (∀ h' tk' t', Fr h₀ L h' m → News h₀ L h' ((c, cacheObj cd dd mx (n + 1) t' cap al thr) :: (lst, listOf #[.int (n + 1) t'] ep) :: wo [c, lst] news) → Q v { s with heap := h', toks := tk' }) →
    wpAny (model PySem.Challenge.rw_eu0033_01.row.prog w) (AA d u gs nm mo gl cl ql fn co bi L outer) (call (.ref 131) [.ref c, .str key kt]) Q E s := by
  k_fill
  intro hdp B X T F N h1 h2 h3 hdi lo hv h4 h5 K
  have hc := dict_cls hdi
  have n1 : cd ≠ c := news_nec N h2 h1 (by simp)
  have n2 : lst ≠ c := news_nec N h5 h1 (by simp)
  have n3 : lst ≠ cd := news_nec N h5 h2 (by simp)
  have n4 : tup ≠ c := news_nec N h4 h1 (by simp)
  have n5 : tup ≠ lst := news_nec N h4 h5 (by simp)
  have n6 : dd ≠ c := news_nec N h3 h1 (by rw [hc]; simp)
  have n7 : dd ≠ lst := news_nec N h3 h5 (by rw [hc]; simp)
  have hR1 : ∀ q ∈ wo [c, lst] news, q.1 ≠ c := wo_ne (by simp)
  have hR2 : ∀ q ∈ wo [c, lst] news, q.1 ≠ lst := wo_ne (by simp)
  have N1 : News h₀ L s.heap ((c, cacheObj cd dd mx n t cap al thr) :: (cd, dictOf [] 0) :: (dd, od) :: (tup, tupObj [kv, v, .ref lst]) :: (lst, listOf #[.int ctr ct] ep) :: wo [c, lst] news) :=
    news_cons N h1 (news_cons N h2 (news_cons N h3 (news_cons N h4 (news_cons N h5 (news_mono N fun _ h => wo_sub h)))))
  generalize wo [c, lst] news = R at *
  clear N h1 h2 h3 h4 h5
  k_steps
  with_reducible rename News _ _ _ _ => N9
  exact K _ _ _ (by assumption) (news_cons N9 (.head _) (news_cons N9 (by k_mem) (news_mono N9 fun q hq => by simp [hq])))
theorem get_none : d ≤ 500 → Below A₀ base outer h₀ → (hd.heap_39 w.params).In h₀ → Top p loose mean mg mb h₀ → Fr h₀ L s.heap m → News h₀ L s.heap news →
    (c, cacheObj cd dd mx n t cap al thr) ∈ news → (cd, dictOf [] 0) ∈ news → (dd, od) ∈ news → od.IsDictOf (PySem.strKind PySem.Challenge.rw_eu0033_01.row.prog w) kvs → (dd == sysModules) = false →
    valueAt kvs key = none →
    (∀ h' tk', Fr h₀ L h' m → News h₀ L h' news → Q dflt { s with heap := h', toks := tk' }) →
    wpAny (model PySem.Challenge.rw_eu0033_01.row.prog w) (AA d u gs nm mo gl cl ql fn co bi L outer) (call (.ref 124) [.ref c, .str key kt, dflt]) Q E s := by
  k_fill
  intro hdp B X T F N h1 h2 h3 hdi lo hv K
  have N1 : News h₀ L s.heap ((c, cacheObj cd dd mx n t cap al thr) :: (cd, dictOf [] 0) :: (dd, od) :: news) := news_cons N h1 (news_cons N h2 (news_cons N h3 N))
  clear N h1 h2 h3
  k_steps
  with_reducible rename News _ _ _ _ => N9
  exact K _ _ (by assumption) (news_mono N9 fun q hq => by simp [hq])
theorem delitem_found : d ≤ 500 → Below A₀ base outer h₀ → (hd.heap_39 w.params).In h₀ → Top p loose mean mg mb h₀ → Fr h₀ L s.heap m → News h₀ L s.heap news →
    (c, cacheObj cd dd mx n t cap al thr) ∈ news → (cd, dictOf [] 0) ∈ news → (dd, od) ∈ news → cd ≠ dd → od.IsDictOf (PySem.strKind PySem.Challenge.rw_eu0033_01.row.prog w) kvs →
    (valueAt kvs key).isSome = true → kvs.length ≤ 1000 →
    (∀ h' tk' od', Fr h₀ L h' m → od'.IsDictOf (PySem.strKind PySem.Challenge.rw_eu0033_01.row.prog w) (without kvs key) → News h₀ L h' ((dd, od') :: wo [dd] news) → Q .none { s with heap := h', toks := tk' }) →
    wpAny (model PySem.Challenge.rw_eu0033_01.row.prog w) (AA d u gs nm mo gl cl ql fn co bi L outer) (call (.ref 159) [.ref c, .str key kt]) Q E s := by
  k_fill
  intro hdp B X T F N h1 h2 h3 n2 hdi hv hz K
  have hc := dict_cls hdi
  have n6 : dd ≠ c := news_nec N h3 h1 (by rw [hc]; simp)
  have n1 : cd ≠ c := news_nec N h2 h1 (by simp)
  have hR1 : ∀ q ∈ wo [dd] news, q.1 ≠ dd := wo_ne (by simp)
  have N1 : News h₀ L s.heap ((c, cacheObj cd dd mx n t cap al thr) :: (cd, dictOf [] 0) :: (dd, od) :: wo [dd] news) :=
    news_cons N h1 (news_cons N h2 (news_cons N h3 (news_mono N fun _ h => wo_sub h)))
  generalize wo [dd] news = R at *
  clear N h1 h2 h3
  k_steps
  with_reducible rename News _ _ _ _ => N9
  exact K _ _ _ (by assumption) (by assumption) (news_cons N9 (by k_mem) (news_mono N9 fun q hq => by simp [hq]))
end Mine1
end
section
open PySem PySem.W PyProof.Rows
namespace Mine1
open MineS
set_option maxRecDepth 100000
set_option maxHeartbeats 8000000
local macro_rules | `(tactic| k_all) => `(tactic| first | assumption)
local macro_rules | `(tactic| k_ne) => `(tactic| (refine neN ?_; (try dsimp only); first | assumption | (apply Ne.symm; assumption)))
local macro_rules | `(tactic| k_room) => `(tactic| ((try simp only [depth_under_make, depth_under_kw, depth_in1, depth_deeper, depth_caller]); show _ < 1000; omega))
local macro_rules | `(tactic| walk_at "delItem ref") => `(tactic| (k_dflt (refine' delItem_own ?k1 ?k2 ?k3 ?k4 ?k5 ?k6 ?_; (case k1 => k_asm); (case k2 => k_asm); (case k3 => k_inst); (case k4 => k_is); (case k5 => k_is); (case k6 => k_is); k_whole)))
variable {w : World} {A₀ : Around} {d u : Nat} {gs : Option (List Code)} {nm : List (Str × NameKind)} {mo : List (Str × PySem.Const)} {gl : Addr} {cl : List (Str × Addr)} {ql : Str} {fn : Option Addr} {co : Value} {bi : Addr} {outer : List Env}
  {base h₀ : Heap} {L : Addr} {s : Shared} {m mg mb : Str → Option Value} {mean : ExcName → Option Value} {loose : List Str} {p : Program} {news : List (Addr × Obj)} {Q : Value → Shared → Prop} {E : Value → Shared → Prop} {keep : List Addr}
local macro_rules | `(tactic| walk_at "subscriptTail") => `(tactic| ((with_reducible show wpAny _ _ (subscriptTail _ _ (Value.ref _) (Value.str _ _)) _ _ _); k_dflt (refine item_missing (knd := PySem.strKind _ _) (by k_asm) (by k_mem) (by k_asm) (by k_asm) (strKind_is _ _ _ _) (by rfl) (by assumption) ?_); intro h' e' x'))
local macro_rules | `(tactic| walk_at "call builtin:dict.get") => `(tactic| (k_dflt (refine kdg_get1 (knd := PySem.strKind _ _) (by k_asm) (by k_mem) (by k_asm) (by k_asm) (strKind_is _ _ _ _) _ (by assumption) ?_); (try dsimp only [Option.getD])))
local macro_rules | `(tactic| walk_at "getItem ref str") => `(tactic| (k_dflt (refine kdt_getItem (knd := PySem.strKind _ _) (by k_asm) (by k_mem) (by k_asm) (strKind_is _ _ _ _) (by assumption) ?_)))
local macro_rules | `(tactic| walk_at "getItem ref str") => `(tactic| (k_dflt (refine getItem_missing (knd := PySem.strKind _ _) (by k_asm) (by k_mem) (by k_asm) (by k_asm) (strKind_is _ _ _ _) (by rfl) (by assumption) ?_); intro h' e' x'))
local macro_rules | `(tactic| walk_at "delItem ref str") => `(tactic| (k_dflt (refine' kob_del (knd := PySem.strKind _ _) ?F ?N ?U ?d (strKind_is _ _ _ _) ?l ?z ?_; (case F => k_asm); (case N => k_asm); (case U => k_updF); (case d => k_asm); (case l => assumption); (case z => rw [sizeLine_eq]; omega)); intro h' o' F' N' hd'; (try dsimp only at N')))
local macro_rules | `(tactic| walk_at "delItem ref str") => `(tactic| (k_dflt (refine delItem_missing (knd := PySem.strKind _ _) (by k_asm) (by k_mem) (by k_asm) (by k_asm) (strKind_is _ _ _ _) (by rfl) (by assumption) ?_); intro h' e' x'))
local macro_rules | `(tactic| walk_at "enterS") => `(tactic| (refine wpAny_call ?_; (refine' call_SK ?k1 ?k2 ?k3 ?k4 ?k5 ?XB ?TB ?D ?kA ?kf ?kK ?k6 ?k7 ?k8 ?k9 ?kB ?_ ?c2 ?c3 ?c4 ?c5; (case kA => exact rfl); (case kf => exact rfl); (case kK => exact rfl); (case k1 => k_asm); (case k2 => k_asm); (case k3 => k_asm); (case k4 => k_asm); (case k5 => k_asm); (case XB => assumption); (case TB => assumption); (case D => assumption); (case k6 => k_is); (case k7 => k_is); (case k8 => k_room); (case k9 => first | exact binds_K (by k_in) rfl (by k_is) rfl rfl rfl | exact BindsTo.of_eq rfl); (case kB => exact locs rfl); (case c2 => exact rfl); (case c3 => exact rfl); (case c4 => exact rfl); (case c5 => decide); intro g' L' h' F' N' B' X' T' D'; (try dsimp only); (try k_lift B'); (try k_fold))))
local macro_rules | `(tactic| walk_at "LeaveX") => `(tactic| (k_dflt (refine' leaveX_ ?F ?N ?T ?_; (case F => k_asm); (case N => k_asm); (case T => first | assumption | exact KtsTurn.refl); k_whole); intro h₀' b'; (try dsimp only)))
local macro_rules | `(tactic| k_mem) => `(tactic| assumption)
local macro_rules | `(tactic| walk_at "call ref") => `(tactic| (k_dflt (first
  | (refine' get_found ?k1 ?k2 ?k3 ?k4 ?k5 ?k6 ?h1 ?h2 ?h3 ?h4 ?h5 ?h6 ?h7 ?h8 ?_; (case k1 => (try simp only [depth_deeper]); omega); (case k2 => k_asm); (case k3 => k_asm); (case k4 => k_asm); (case k5 => k_asm); (case k6 => k_asm); (case h1 => assumption); (case h2 => assumption); (case h3 => assumption); (case h4 => assumption); (case h5 => assumption); (case h6 => assumption); (case h7 => assumption); (case h8 => assumption); k_whole; intro h' tk' t' F' N')
  | (refine' get_none ?k1 ?k2 ?k3 ?k4 ?k5 ?k6 ?h1 ?h2 ?h3 ?h4 ?h5 ?h6 ?_; (case k1 => (try simp only [depth_deeper]); omega); (case k2 => k_asm); (case k3 => k_asm); (case k4 => k_asm); (case k5 => k_asm); (case k6 => k_asm); (case h1 => assumption); (case h2 => assumption); (case h3 => assumption); (case h4 => assumption); (case h5 => assumption); (case h6 => assumption); k_whole; intro h' tk' F' N')
  | (refine' getitem_found ?k1 ?k2 ?k3 ?k4 ?k5 ?k6 ?h1 ?h2 ?h3 ?h4 ?h5 ?h6 ?h7 ?h8 ?_; (case k1 => (try simp only [depth_deeper]); omega); (case k2 => k_asm); (case k3 => k_asm); (case k4 => k_asm); (case k5 => k_asm); (case k6 => k_asm); (case h1 => assumption); (case h2 => assumption); (case h3 => assumption); (case h4 => assumption); (case h5 => assumption); (case h6 => assumption); (case h7 => assumption); (case h8 => assumption); k_whole; intro h' tk' t' F' N')
  | (refine' delitem_found ?k1 ?k2 ?k3 ?k4 ?k5 ?k6 ?h1 ?h2 ?h3 ?h4 ?h5 ?h6 ?h7 ?_; (case k1 => (try simp only [depth_deeper]); omega); (case k2 => k_asm); (case k3 => k_asm); (case k4 => k_asm); (case k5 => k_asm); (case k6 => k_asm); (case h1 => assumption); (case h2 => assumption); (case h3 => assumption); (case h4 => assumption); (case h5 => assumption); (case h6 => assumption); (case h7 => assumption); k_whole; intro h' tk' od' F' hdi' N')); (try k_sweep)))
variable {c cd dd mx md tup lst : Addr} {n : Int} {t : Tok} {cap al thr : Value} {od : Obj} {kvs : List (Str × Value)} {key : Str} {kt : Tok} {ctr : Int} {ct : Tok} {ep : Nat} {v kv dflt : Value} {way : Int} {wt : Tok}

theorem asked_found : d ≤ 400 → Below A₀ base outer h₀ → (hd.heap_39 w.params).In h₀ → Top p loose mean mg mb h₀ → Fr h₀ L s.heap m → News h₀ L s.heap news →
    (c, cacheObj cd dd mx n t cap al thr) ∈ news → (cd, dictOf [] 0) ∈ news → (dd, od) ∈ news → od.IsDictOf (PySem.strKind PySem.Challenge.rw_eu0033_01.row.prog w) kvs → (dd == sysModules) = false →
    valueAt kvs key = some (.ref tup) → (tup, tupObj [kv, v, .ref lst]) ∈ news → (lst, listOf #[.int ctr ct] ep) ∈ news →
    (∀ h' tk' t', Fr h₀ L h' m → News h₀ L h' ((c, cacheObj cd dd mx (n + 1) t' cap al thr) :: (lst, listOf #[.int (n + 1) t'] ep) :: wo [c, lst] news) → Q v { s with heap := h', toks := tk' }) →
    wpAny (model PySem.Challenge.rw_eu0033_01.row.prog w) (AA d u gs nm mo gl cl ql fn co bi L outer) (call (.ref 200) [.ref c, .str key kt, .int way wt]) Q E s := by
  k_fill
  intro hdp B X T F N h1 h2 h3 hdi lo hv h4 h5 K
  k_steps
  all_goals (with_reducible rename News _ _ _ _ => N9)
  all_goals exact K _ _ _ (by assumption) N9
theorem asked_none : d ≤ 400 → Below A₀ base outer h₀ → (hd.heap_39 w.params).In base → Top p loose mean mg mb base → KtsDicts (outer.filterMap (·.frame)) h₀ → (hd.heap_39 w.params).In h₀ → Top p loose mean mg mb h₀ → Fr h₀ L s.heap m → News h₀ L s.heap news →
    (c, cacheObj cd dd mx n t cap al thr) ∈ news → (cd, dictOf [] 0) ∈ news → (dd, od) ∈ news → od.IsDictOf (PySem.strKind PySem.Challenge.rw_eu0033_01.row.prog w) kvs → (dd == sysModules) = false →
    valueAt kvs key = none →
    (∀ h' tk' t' h₀', Back A₀ base outer (hd.heap_39 w.params) p loose mean mg mb h₀ L m h' news h₀' → Q (.str (PySem.Str.ofString "none") t') { s with heap := h', toks := tk' }) →
    wpAny (model PySem.Challenge.rw_eu0033_01.row.prog w) (AA d u gs nm mo gl cl ql fn co bi L outer) (call (.ref 200) [.ref c, .str key kt, .int way wt]) Q E s := by
  k_fill
  intro hdp B XB TB D X T F N h1 h2 h3 hdi lo hv K
  walk_at "enterS"
  k_steps
  all_goals exact K _ _ _ _ (by assumption)
theorem taken_found : d ≤ 400 → Below A₀ base outer h₀ → (hd.heap_39 w.params).In h₀ → Top p loose mean mg mb h₀ → Fr h₀ L s.heap m → News h₀ L s.heap news →
    (c, cacheObj cd dd mx n t cap al thr) ∈ news → (cd, dictOf [] 0) ∈ news → (dd, od) ∈ news → cd ≠ dd → od.IsDictOf (PySem.strKind PySem.Challenge.rw_eu0033_01.row.prog w) kvs →
    (valueAt kvs key).isSome = true → kvs.length ≤ 1000 →
    (∀ h' tk' od', Fr h₀ L h' m → od'.IsDictOf (PySem.strKind PySem.Challenge.rw_eu0033_01.row.prog w) (without kvs key) → News h₀ L h' ((dd, od') :: wo [dd] news) → Q (.bool true) { s with heap := h', toks := tk' }) →
    wpAny (model PySem.Challenge.rw_eu0033_01.row.prog w) (AA d u gs nm mo gl cl ql fn co bi L outer) (call (.ref 207) [.ref c, .str key kt]) Q E s := by
  k_fill
  intro hdp B X T F N h1 h2 h3 n2 hdi hv hz K
  k_steps
  exact K _ _ _ (by assumption) (by assumption) (by assumption)
theorem taken_none : d ≤ 400 → Below A₀ base outer h₀ → (hd.heap_39 w.params).In base → Top p loose mean mg mb base → KtsDicts (outer.filterMap (·.frame)) h₀ → (hd.heap_39 w.params).In h₀ → Top p loose mean mg mb h₀ → Fr h₀ L s.heap m → News h₀ L s.heap news →
    (c, cacheObj cd dd mx n t cap al thr) ∈ news → (cd, dictOf [] 0) ∈ news → (dd, od) ∈ news → od.IsDictOf (PySem.strKind PySem.Challenge.rw_eu0033_01.row.prog w) kvs → (dd == sysModules) = false →
    valueAt kvs key = none →
    (∀ h' tk' h₀', Back A₀ base outer (hd.heap_39 w.params) p loose mean mg mb h₀ L m h' news h₀' → Q (.bool false) { s with heap := h', toks := tk' }) →
    wpAny (model PySem.Challenge.rw_eu0033_01.row.prog w) (AA d u gs nm mo gl cl ql fn co bi L outer) (call (.ref 207) [.ref c, .str key kt]) Q E s := by
  k_fill
  intro hdp B XB TB D X T F N h1 h2 h3 hdi lo hv K
  walk_at "enterS"
  k_steps
  all_goals exact K _ _ _ (by assumption)
end Mine1
end
section
open PySem PySem.W PyProof.Rows
namespace Mine1
open MineS
set_option maxRecDepth 100000
set_option maxHeartbeats 8000000
local macro_rules | `(tactic| k_all) => `(tactic| first | assumption)
local macro_rules | `(tactic| k_ne) => `(tactic| (refine neN ?_; (try dsimp only); first | assumption | (apply Ne.symm; assumption)))
local macro_rules | `(tactic| k_room) => `(tactic| ((try simp only [depth_under_make, depth_under_kw, depth_in1, depth_deeper, depth_caller]); show _ < 1000; omega))
local macro_rules | `(tactic| walk_at "delItem ref") => `(tactic| (k_dflt (refine' delItem_own ?k1 ?k2 ?k3 ?k4 ?k5 ?k6 ?_; (case k1 => k_asm); (case k2 => k_asm); (case k3 => k_inst); (case k4 => k_is); (case k5 => k_is); (case k6 => k_is); k_whole)))
variable {w : World} {A₀ : Around} {d u : Nat} {gs : Option (List Code)} {nm : List (Str × NameKind)} {mo : List (Str × PySem.Const)} {gl : Addr} {cl : List (Str × Addr)} {ql : Str} {fn : Option Addr} {co : Value} {bi : Addr} {outer : List Env}
  {base h₀ : Heap} {L : Addr} {s : Shared} {m mg mb : Str → Option Value} {mean : ExcName → Option Value} {loose : List Str} {p : Program} {news : List (Addr × Obj)} {Q : Value → Shared → Prop} {E : Value → Shared → Prop} {keep : List Addr}
local macro_rules | `(tactic| walk_at "subscriptTail") => `(tactic| ((with_reducible show wpAny _ _ (subscriptTail _ _ (Value.ref _) (Value.str _ _)) _ _ _); k_dflt (refine item_missing (knd := PySem.strKind _ _) (by k_asm) (by k_mem) (by k_asm) (by k_asm) (strKind_is _ _ _ _) (by rfl) (by assumption) ?_); intro h' e' x'))
local macro_rules | `(tactic| walk_at "call builtin:dict.get") => `(tactic| (k_dflt (refine kdg_get1 (knd := PySem.strKind _ _) (by k_asm) (by k_mem) (by k_asm) (by k_asm) (strKind_is _ _ _ _) _ (by assumption) ?_); (try dsimp only [Option.getD])))
local macro_rules | `(tactic| walk_at "getItem ref str") => `(tactic| (k_dflt (refine kdt_getItem (knd := PySem.strKind _ _) (by k_asm) (by k_mem) (by k_asm) (strKind_is _ _ _ _) (by assumption) ?_)))
local macro_rules | `(tactic| walk_at "getItem ref str") => `(tactic| (k_dflt (refine getItem_missing (knd := PySem.strKind _ _) (by k_asm) (by k_mem) (by k_asm) (by k_asm) (strKind_is _ _ _ _) (by rfl) (by assumption) ?_); intro h' e' x'))
local macro_rules | `(tactic| walk_at "delItem ref str") => `(tactic| (k_dflt (refine' kob_del (knd := PySem.strKind _ _) ?F ?N ?U ?d (strKind_is _ _ _ _) ?l ?z ?_; (case F => k_asm); (case N => k_asm); (case U => k_updF); (case d => k_asm); (case l => assumption); (case z => rw [sizeLine_eq]; omega)); intro h' o' F' N' hd'; (try dsimp only at N')))
local macro_rules | `(tactic| walk_at "delItem ref str") => `(tactic| (k_dflt (refine delItem_missing (knd := PySem.strKind _ _) (by k_asm) (by k_mem) (by k_asm) (by k_asm) (strKind_is _ _ _ _) (by rfl) (by assumption) ?_); intro h' e' x'))
local macro_rules | `(tactic| walk_at "enterS") => `(tactic| (refine wpAny_call ?_; (refine' call_SK ?k1 ?k2 ?k3 ?k4 ?k5 ?XB ?TB ?D ?kA ?kf ?kK ?k6 ?k7 ?k8 ?k9 ?kB ?_ ?c2 ?c3 ?c4 ?c5; (case kA => exact rfl); (case kf => exact rfl); (case kK => exact rfl); (case k1 => k_asm); (case k2 => k_asm); (case k3 => k_asm); (case k4 => k_asm); (case k5 => k_asm); (case XB => assumption); (case TB => assumption); (case D => assumption); (case k6 => k_is); (case k7 => k_is); (case k8 => k_room); (case k9 => first | exact binds_K (by k_in) rfl (by k_is) rfl rfl rfl | exact BindsTo.of_eq rfl); (case kB => exact locs rfl); (case c2 => exact rfl); (case c3 => exact rfl); (case c4 => exact rfl); (case c5 => decide); intro g' L' h' F' N' B' X' T' D'; (try dsimp only); (try k_lift B'); (try k_fold))))
local macro_rules | `(tactic| walk_at "LeaveX") => `(tactic| (k_dflt (refine' leaveX_ ?F ?N ?T ?_; (case F => k_asm); (case N => k_asm); (case T => first | assumption | exact KtsTurn.refl); k_whole); intro h₀' b'; (try dsimp only)))
local macro_rules | `(tactic| walk_at "call ref") => `(tactic| (k_dflt (first
  | (refine' inc_counter ?k1 ?k2 ?k3 ?k4 ?k5 ?k6 ?k7 ?k8 ?_; (case k1 => (try simp only [depth_deeper]); omega); (case k2 => k_asm); (case k3 => k_asm); (case k4 => k_asm); (case k5 => k_asm); (case k6 => k_asm); (case k7 => k_updF); (case k8 => k_mem); k_whole; intro h' tk' t' F' N'; (try dsimp only at N'))
  | (refine' acquire_held ?k1 ?k2 ?k3 ?k4 ?k5 ?k6 ?k7 ?k8 ?_; (case k1 => (try simp only [depth_deeper]); omega); (case k2 => k_asm); (case k3 => k_asm); (case k4 => k_asm); (case k5 => k_asm); (case k6 => k_asm); (case k7 => k_mem); (case k8 => k_mem); k_whole; intro h' tk' F' N')); (try k_sweep)))
local macro_rules | `(tactic| walk_at "setItem ref str") => `(tactic| (k_dflt (refine' kda_set (knd := PySem.strKind _ _) ?F ?N ?U ?d (strKind_is _ _ _ _) ?z ?_; (case F => k_asm); (case N => k_asm); (case U => k_updF); (case d => k_asm); (case z => rw [sizeLine_eq]; omega)); intro h' o' F' N' hd'; (try dsimp only at N')))
variable {c cd dd mx md tup lst : Addr} {n : Int} {t : Tok} {cap al thr : Value} {od : Obj} {kvs : List (Str × Value)} {key : Str} {kt : Tok} {v : Value} {hs : Int} {tk : Tok}

theorem setitem_held : d ≤ 400 → Below A₀ base outer h₀ → (hd.heap_39 w.params).In h₀ → Top p loose mean mg mb h₀ → Fr h₀ L s.heap m → News h₀ L s.heap news →
    (c, cacheObj cd dd mx n t cap al thr) ∈ news → (cd, dictOf [] 0) ∈ news → (dd, od) ∈ news → cd ≠ dd → od.IsDictOf (PySem.strKind PySem.Challenge.rw_eu0033_01.row.prog w) kvs → kvs.length ≤ 1000 →
    (mx, lockObj md) ∈ news → (md, heldDict hs tk true) ∈ news → md ≠ dd →
    (∀ h' tk' t' od' tup' lst', Fr h₀ L h' m → od'.IsDictOf (PySem.strKind PySem.Challenge.rw_eu0033_01.row.prog w) (stored kvs key (.ref tup')) → (∀ q ∈ news, q.1 < lst') → lst' < tup' →
      News h₀ L h' ((c, cacheObj cd dd mx (n + 1) t' cap al thr) :: (dd, od') :: (tup', tupObj [.str key kt, v, .ref lst']) :: (lst', listOf #[.int (n + 1) t'] 0) :: wo [c, dd] news) → Q .none { s with heap := h', toks := tk' }) →
    wpAny (model PySem.Challenge.rw_eu0033_01.row.prog w) (AA d u gs nm mo gl cl ql fn co bi L outer) (call (.ref 152) [.ref c, .str key kt, v]) Q E s := by
  k_fill
  intro hdp B X T F N h1 h2 h3 n2 hdi hz h4 h5 n7 K
  have hc := dict_cls hdi
  have n6 : dd ≠ c := news_nec N h3 h1 (by rw [hc]; simp)
  have n1 : cd ≠ c := news_nec N h2 h1 (by simp)
  have n3 : mx ≠ c := news_nec N h4 h1 (by simp)
  have n4 : mx ≠ dd := news_nec N h4 h3 (by rw [hc]; simp)
  have hR1 : ∀ q ∈ wo [c, dd] news, q.1 ≠ dd := wo_ne (by simp)
  have hR2 : ∀ q ∈ wo [c, dd] news, q.1 ≠ c := wo_ne (by simp)
  have n5 : md ≠ c := news_nec N h5 h1 (by simp)
  have N1 : News h₀ L s.heap ((c, cacheObj cd dd mx n t cap al thr) :: (cd, dictOf [] 0) :: (dd, od) :: (mx, lockObj md) :: (md, heldDict hs tk true) :: wo [c, dd] news) :=
    news_cons N h1 (news_cons N h2 (news_cons N h3 (news_cons N h4 (news_cons N h5 (news_mono N fun _ h => wo_sub h)))))
  have hlt : ∀ a : Addr, c < a → dd < a → AllLt a (wo [c, dd] news) → ∀ q ∈ news, q.1 < a := fun a x y z => wo_lt (by simp; exact ⟨x, y⟩) z
  generalize wo [c, dd] news = R at *
  clear N h1 h2 h3 h4
  k_steps
  with_reducible rename News _ _ _ _ => N9
  with_reducible rename _ ∧ _ => c1
  obtain ⟨q1, -⟩ := c1
  with_reducible rename _ ∧ _ => c2
  obtain ⟨q2, q3, q4, q5, q6, q7⟩ := c2
  refine K _ _ _ _ _ _ (by assumption) (by assumption) ?_ ?_ (news_cons N9 (by k_mem) (news_cons N9 (by k_mem) (news_cons N9 (.head _) (news_cons N9 (.tail _ (.head _)) (news_mono N9 fun q hq => by simp [hq])))))
  · exact hlt _ q2 q4 q7
  · exact q1
end Mine1
end
section
open PySem PySem.W PyProof.Rows
namespace Mine1
set_option maxRecDepth 100000
set_option maxHeartbeats 8000000
local macro_rules | `(tactic| k_all) => `(tactic| first | assumption)
local macro_rules | `(tactic| k_ne) => `(tactic| (refine neN ?_; (try dsimp only); first | assumption | (apply Ne.symm; assumption)))
local macro_rules | `(tactic| k_room) => `(tactic| ((try simp only [depth_under_make, depth_under_kw, depth_in1, depth_deeper, depth_caller]); show _ < 1000; omega))
local macro_rules | `(tactic| walk_at "delItem ref") => `(tactic| (k_dflt (refine' delItem_own ?k1 ?k2 ?k3 ?k4 ?k5 ?k6 ?_; (case k1 => k_asm); (case k2 => k_asm); (case k3 => k_inst); (case k4 => k_is); (case k5 => k_is); (case k6 => k_is); k_whole)))
variable {w : World} {A₀ : Around} {d u : Nat} {gs : Option (List Code)} {nm : List (Str × NameKind)} {mo : List (Str × PySem.Const)} {gl : Addr} {cl : List (Str × Addr)} {ql : Str} {fn : Option Addr} {co : Value} {bi : Addr} {outer : List Env}
  {base h₀ : Heap} {L : Addr} {s : Shared} {m mg mb : Str → Option Value} {mean : ExcName → Option Value} {loose : List Str} {p : Program} {news : List (Addr × Obj)} {Q : Value → Shared → Prop} {E : Value → Shared → Prop} {keep : List Addr}
local macro_rules | `(tactic| k_all) => `(tactic| first | exact allLt_ne (by assumption) (by assumption) | exact allLt_ne' (by assumption) | exact lt_ne (by assumption) (by assumption) | exact lt_ne' (by assumption))
abbrev igObj (igd it : Addr) : Obj := ⟨.ref 90, some igd, .plain, #[some (.ref it)]⟩
variable {ig igd it tup lst : Addr} {t2 : Tok} {kv v : Value}
theorem ig_new : d ≤ 500 → Below A₀ base outer h₀ → (hd.heap_39 w.params).In h₀ → Top p loose mean mg mb h₀ → Fr h₀ L s.heap m → News h₀ L s.heap news →
    (∀ h' tk' ig igd it, Fr h₀ L h' m → News h₀ L h' ((ig, igObj igd it) :: (igd, dictOf [] 0) :: (it, tupObj [.int 2 t2]) :: news) → (∀ q ∈ news, q.1 < igd) → igd < ig → ig < it → Q (.ref ig) { s with heap := h', toks := tk' }) →
    wpAny (model PySem.Challenge.rw_eu0033_01.row.prog w) (AA d u gs nm mo gl cl ql fn co bi L outer) (call (.ref 90) [.int 2 t2]) Q E s := by
  k_fill
  intro hdp B X T F N K
  k_steps
  with_reducible rename News _ _ _ _ => N9
  with_reducible rename _ ∧ _ => c1
  obtain ⟨-, q2, -⟩ := c1
  exact K _ _ _ _ _ (by assumption) (news_cons N9 (.tail _ (.tail _ (.head _))) (news_cons N9 (by k_mem) (news_cons N9 (by k_mem) (news_mono N9 fun q hq => by simp [hq])))) (by assumption) (by assumption) q2
theorem ig_call : d ≤ 500 → Below A₀ base outer h₀ → (hd.heap_39 w.params).In h₀ → Top p loose mean mg mb h₀ → Fr h₀ L s.heap m → News h₀ L s.heap news →
    (ig, igObj igd it) ∈ news → (igd, dictOf [] 0) ∈ news → (it, tupObj [.int 2 t2]) ∈ news → (tup, tupObj [kv, v, .ref lst]) ∈ news →
    (∀ h' tk', Fr h₀ L h' m → News h₀ L h' news → Q (.ref lst) { s with heap := h', toks := tk' }) →
    wpAny (model PySem.Challenge.rw_eu0033_01.row.prog w) (AA d u gs nm mo gl cl ql fn co bi L outer) (call (.ref ig) [.ref tup]) Q E s := by
  k_fill
  intro hdp B X T F N h1 h2 h3 h4 K
  have N1 : News h₀ L s.heap ((ig, igObj igd it) :: (igd, dictOf [] 0) :: (it, tupObj [.int 2 t2]) :: (tup, tupObj [kv, v, .ref lst]) :: news) := news_cons N h1 (news_cons N h2 (news_cons N h3 (news_cons N h4 N)))
  clear N h1 h2 h3 h4
  k_steps
  with_reducible rename News _ _ _ _ => N9
  exact K _ _ (by assumption) (news_mono N9 fun q hq => by simp [hq])
end Mine1
end
section
open PySem PySem.W PyProof.Rows
namespace Mine1
open MineS MineP
set_option maxRecDepth 100000
set_option maxHeartbeats 8000000
local macro_rules | `(tactic| k_all) => `(tactic| first | assumption)
local macro_rules | `(tactic| k_ne) => `(tactic| (refine neN ?_; (try dsimp only); first | assumption | (apply Ne.symm; assumption)))
local macro_rules | `(tactic| k_room) => `(tactic| ((try simp only [depth_under_make, depth_under_kw, depth_in1, depth_deeper, depth_caller]); show _ < 1000; omega))
local macro_rules | `(tactic| walk_at "delItem ref") => `(tactic| (k_dflt (refine' delItem_own ?k1 ?k2 ?k3 ?k4 ?k5 ?k6 ?_; (case k1 => k_asm); (case k2 => k_asm); (case k3 => k_inst); (case k4 => k_is); (case k5 => k_is); (case k6 => k_is); k_whole)))
variable {w : World} {A₀ : Around} {d u : Nat} {gs : Option (List Code)} {nm : List (Str × NameKind)} {mo : List (Str × PySem.Const)} {gl : Addr} {cl : List (Str × Addr)} {ql : Str} {fn : Option Addr} {co : Value} {bi : Addr} {outer : List Env}
  {base h₀ : Heap} {L : Addr} {s : Shared} {m mg mb : Str → Option Value} {mean : ExcName → Option Value} {loose : List Str} {p : Program} {news : List (Addr × Obj)} {Q : Value → Shared → Prop} {E : Value → Shared → Prop} {keep : List Addr}
theorem srows_of {α : Type} {rows : List (Row α)} {srt : List (Value × Int)} (hs : Srt (((kvsOf rows).map (·.2)).zip (rows.map (·.ctr))) srt) :
    ∃ srows : List (Row α), srows.Perm rows ∧ srt.map Prod.fst = srows.map (fun r => .ref r.tup) ∧ srows.Pairwise fun a b => b.ctr < a.ctr := by
  have hz : ((kvsOf rows).map (·.2)).zip (rows.map (·.ctr)) = rows.map fun r => (Value.ref r.tup, r.ctr) := by
    simp [kvsOf, List.zip_map']
  rw [hz] at hs
  obtain ⟨h1, h2⟩ := hs
  obtain ⟨sr, p, e⟩ := perm_map_inv h1.symm rfl
  refine ⟨sr, p, by rw [← e, List.map_map]; rfl, ?_⟩
  rw [← e, List.pairwise_map] at h2
  exact h2
variable {ig igd it dd v : Addr} {t2 : Tok} {od : Obj} {α : Type} [DecidableEq α] {knd : PySem.KeyKind PySem.Challenge.rw_eu0033_01.row.prog w α} {rows : List (Row α)}
theorem sorted_rows : d ≤ 400 → u ≤ 9000 → Below A₀ base outer h₀ → (hd.heap_39 w.params).In h₀ → Top p loose mean mg mb h₀ → Fr h₀ L s.heap m → News h₀ L s.heap news →
    (v, ({ cls := .type "dict_values", data := .fields #[.ref dd] } : Obj)) ∈ news → (dd, od) ∈ news → od.IsDictOf knd (kvsOf rows) → RowsIn news rows → (rows.map (·.ctr)).Nodup → rows.length ≤ 60 →
    (ig, igObj igd it) ∈ news → (igd, dictOf [] 0) ∈ news → (it, tupObj [.int 2 t2]) ∈ news →
    (∀ h' tk' D ep (srows : List (Row α)), Fr h₀ L h' m → News h₀ L h' ((D, listOf (List.toArray (srows.map fun r => Value.ref r.tup)) ep) :: news) → (∀ q ∈ news, q.1 < D) → srows.Perm rows → srows.Pairwise (fun a b : Row α => b.ctr < a.ctr) → Q (.ref D) { s with heap := h', toks := tk' }) →
    wpAny (model PySem.Challenge.rw_eu0033_01.row.prog w) (AA d u gs nm mo gl cl ql fn co bi L outer) (call (.builtin "sorted") [.ref v] [(Str.ofString "key", .ref ig), (Str.ofString "reverse", .bool true)]) Q E s := by
  intro hdp hu B X T F N h1 h2 hdi hrows hnd hz h3 h4 h5 K
  have hkl : (kvsOf rows).length = rows.length := by simp [kvsOf]
  refine sorted_values (ls := rows.map (·.lst)) (cs := rows.map (·.ctr)) (by show u + 1 + 1 < _; unfold cLine; omega) rfl F N h1 h2 hdi (by omega) (by simp [kvsOf]) (by simp [kvsOf]) (fun i l c e1 e2 => ?_) hnd (fun i x l e1 e2 h tk own Fa Na => ?_) fun D h' tk c srt F' N' hlt hs => ?_
  · rw [List.getElem?_map] at e1 e2
    rcases hr : rows[i]? with _ | r
    · rw [hr] at e1; cases e1
    · rw [hr] at e1 e2
      cases e1; cases e2
      exact ⟨_, _, (hrows r (List.mem_of_getElem? hr)).2⟩
  · rw [List.getElem?_map] at e1 e2
    rcases hr : rows[i]? with _ | r
    · rw [hr] at e2; cases e2
    · rw [hr] at e2
      cases e2
      simp only [kvsOf, List.getElem?_map, hr, Option.map_some, Option.some.injEq] at e1
      subst e1
      have hm := hrows r (List.mem_of_getElem? hr)
      refine ig_call (s := { s with heap := h, toks := tk }) (d := d) (gs := gs) (u := u + 1 + 1) (news := own ++ news) (by omega) B X T Fa Na (List.mem_append_right _ h3) (List.mem_append_right _ h4) (List.mem_append_right _ h5) (List.mem_append_right _ hm.1) ?_
      intro h' tk' F' N'
      exact ⟨h', tk', rfl, rfl, F', N'⟩
  · obtain ⟨sr, hp, e, ho⟩ := srows_of hs
    rw [e] at N'
    exact K h' tk D c sr F' N' hlt hp ho
section
variable {prog : Program} {A : Around} {value slice : PySem.Expr} {l sl : Addr} {xs : List Value} {ep : Nat} {cap : Int} {tc : Tok}
theorem slice_tail {Q : Value → Shared → Prop} (F : Fr h₀ L s.heap m) (N : News h₀ L s.heap news) (h1 : (l, listOf xs.toArray ep) ∈ news) (h2 : (sl, ({ cls := .type "slice", data := .fields #[.int cap tc, .none, .none] } : Obj)) ∈ news)
    (h0 : 0 ≤ cap) (hle : cap ≤ xs.length) (hsz : xs.length ≤ 1000)
    (h : ∀ h' a, Fr h₀ L h' m → News h₀ L h' ((a, listOf (xs.drop cap.toNat).toArray 0) :: news) → (∀ q ∈ news, q.1 < a) → Q (.ref a) { s with heap := h' })
    (hs : subscripted slice false (.ref l) (.ref sl) = operate [.ref sl, .ref l] (getItem (.ref l) (.ref sl)) := by with_unfolding_all rfl)
    (ht : ∀ r, letTemporaryGo value (.ref l) r = pure () := by intro _; with_unfolding_all rfl) :
    wpAny (model prog w) A (subscriptTail value slice (.ref l) (.ref sl)) Q E s := by
  have hl : s.heap.IsList l xs.toArray := ⟨_, (N _ h1).1, rfl, _, rfl⟩
  have hsl : s.heap.IsSliceOf sl (.int cap tc) .none .none := ⟨_, (N _ h2).1, rfl, rfl⟩
  refine subscriptTail_ops (Heap.IsList.typeIs hl) list_getitem_lookup (wpAny_getItem_list_slice hl hsl (.int _ _) .none .none (by simp) ?_ (by rw [List.size_toArray, sizeLine_eq]; omega)) hs ht
  have e : slicePick xs.toArray (some cap) none none = (xs.drop cap.toNat).toArray := by
    obtain ⟨k, rfl⟩ : ∃ k : Nat, cap = (k : Int) := ⟨cap.toNat, by omega⟩
    rw [slicePick_from xs.toArray k (by simp; omega)]
    simp
  rw [e]
  exact h _ _ (F.push _) (News.push F N _) fun q hq => Heap.lt_size (N q hq).1
end
section
variable {prog : Program} {A : Around} {env : Env} {x : Str} {body : List Stmt} {QF : Flow → Shared → Prop} {I : Addr} {lp : Addr × Obj} {m0 : Str → Option Value} {β : Type} {f : β → Value} {J : List β → List (Addr × Obj) → Prop}
theorem listRest_rows (hm0 : m0 x = none)
    (step : ∀ a r n, lp ∈ n → J (a :: r) n → ∀ o (it : Obj) h tk, it.cls = .type "list_iterator" → Fr h₀ env.locals h (fun y => if y = x then some (f a) else if y = x then o else m0 y) → News h₀ env.locals h ((I, it) :: n) →
      wpAny (model prog w) A (execs body env) (UnrPost h₀ env.locals { s with heap := h, toks := tk } I it (fun m' n' => lp ∈ n' ∧ (m' = fun y => if y = x then some (f a) else if y = x then o else m0 y) ∧ J r n') QF) E { s with heap := h, toks := tk })
    (done : ∀ o n, J [] n → ∀ h tk, Fr h₀ env.locals h (fun y => if y = x then o else m0 y) → News h₀ env.locals h n → QF .next { s with heap := h, toks := tk })
    (rs : List β) (n : List (Addr × Obj)) (hlp : lp ∈ n) (hJ : J rs n) : ListRest prog w A E h₀ env x body QF s I lp (rs.map f) m0 n := by
  suffices H : ∀ (rs : List β) (n : List (Addr × Obj)) (o : Option Value), lp ∈ n → J rs n → ListRest prog w A E h₀ env x body QF s I lp (rs.map f) (fun y => if y = x then o else m0 y) n by
    have e : (fun y => if y = x then none else m0 y) = m0 := funext fun y => by
      by_cases h : y = x
      · subst h; simp [hm0]
      · simp [h]
    have := H rs n none hlp hJ
    rw [e] at this
    exact this
  intro rs
  induction rs with
  | nil => intro n o hlp hj; exact ListRest.zero fun h tk F N => done o n hj h tk F N
  | cons a r ih =>
    intro n o hlp hj
    refine ListRest.succ fun it h tk hc F N => wpAny_mono (step a r n hlp hj o it h tk hc F N) (fun fl s' hp => ?_) fun _ _ e => e
    have fin : UnrEnd h₀ env.locals { s with heap := h, toks := tk } I it (fun m' n' => lp ∈ n' ∧ (m' = fun y => if y = x then some (f a) else if y = x then o else m0 y) ∧ J r n') s' →
        UnrEnd h₀ env.locals { s with heap := h, toks := tk } I it (fun m' n' => lp ∈ n' ∧ ListRest prog w A E h₀ env x body QF s I lp (r.map f) m' n') s' := by
      rintro ⟨h', tk', m', n', e, F', N', ho, hlp, rfl, hj'⟩
      refine ⟨h', tk', _, n', e, F', N', ho, hlp, ?_⟩
      have e2 : (fun y => if y = x then some (f a) else if y = x then o else m0 y) = fun y => if y = x then some (f a) else m0 y := funext fun y => by
        by_cases h : y = x <;> simp [h]
      rw [e2]
      exact ih n' _ hlp hj'
    cases fl with
    | ret v => exact hp
    | brk => exact hp
    | next => exact fin hp
    | cont => exact fin hp
end
theorem unrEnd_wo {I : Addr} {it : Obj} {rest : (Str → Option Value) → List (Addr × Obj) → Prop} {s₁ : Shared} {h' : Heap} {tk : Nat} {m' : Str → Option Value} {all : List (Addr × Obj)} (F : Fr h₀ L h' m') (N : News h₀ L h' all) (hI : (I, it) ∈ all) (r : rest m' (wo [I] all)) :
    UnrEnd h₀ L s₁ I it rest { s₁ with heap := h', toks := tk } :=
  UnrEnd.intro F N (wo [I] all) (fun p hp => by
    rcases List.mem_cons.mp hp with rfl | hp
    · exact hI
    · exact wo_sub hp) (wo_ne (by simp)) r
theorem without_rows {α : Type} [DecidableEq α] (rows : List (Row α)) (p : Row α → Bool) (k : α) : without (kvsOf (rows.filter p)) k = kvsOf (rows.filter fun r => p r && decide (r.key ≠ k)) := by
  unfold without kvsOf
  rw [List.filter_map, List.filter_filter]
  congr 1
  refine List.filter_congr fun r _ => ?_
  simp [Bool.and_comm]
theorem rows_value {α : Type} [DecidableEq α] {rows : List (Row α)} {r : Row α} (hr : r ∈ rows) : (valueAt (kvsOf rows) r.key).isSome = true := by
  unfold valueAt kvsOf
  rw [Option.isSome_map, List.find?_isSome]
  exact ⟨_, List.mem_map.mpr ⟨r, hr, rfl⟩, by simp⟩
/-- the rows that are left when the rows of 'gone' have been taken -/
def left {α : Type} [DecidableEq α] (rows gone : List (Row α)) : List (Row α) := rows.filter fun r => decide (r.key ∉ gone.map (·.key))
theorem left_nil {α : Type} [DecidableEq α] (rows : List (Row α)) : left rows [] = rows := by simp [left]
theorem left_snoc {α : Type} [DecidableEq α] (rows gone : List (Row α)) (a : Row α) : kvsOf (left rows (gone ++ [a])) = without (kvsOf (left rows gone)) a.key := by
  unfold left
  rw [without_rows]
  congr 1
  refine List.filter_congr fun r _ => ?_
  simp [not_or]
theorem left_mem {α : Type} [DecidableEq α] {rows gone rest kept : List (Row α)} {a : Row α} (hnd : (rows.map (·.key)).Nodup) (hp : (kept ++ (gone ++ a :: rest)).Perm rows) : a ∈ left rows gone := by
  have hn : ((kept ++ (gone ++ a :: rest)).map (·.key)).Nodup := (hp.map _).nodup_iff.mpr hnd
  refine List.mem_filter.mpr ⟨hp.mem_iff.mp (by simp), ?_⟩
  simp only [List.map_append, List.map_cons] at hn
  have h1 := (List.nodup_append.mp hn).2.1
  have h2 := (List.nodup_append.mp h1).2.2
  simp only [decide_eq_true_eq]
  intro hm
  exact h2 _ hm _ (List.mem_cons_self ..) rfl
theorem left_perm {α : Type} [DecidableEq α] {rows kept gone : List (Row α)} (hnd : (rows.map (·.key)).Nodup) (hp : (kept ++ gone).Perm rows) : (left rows gone).Perm kept := by
  have hn : ((kept ++ gone).map (·.key)).Nodup := (hp.map _).nodup_iff.mpr hnd
  simp only [List.map_append] at hn
  have h2 := (List.nodup_append.mp hn).2.2
  refine (hp.symm.filter _).trans ?_
  rw [List.filter_append]
  have e1 : kept.filter (fun r => decide (r.key ∉ gone.map (·.key))) = kept := List.filter_eq_self.mpr fun r hr => by
    simp only [decide_eq_true_eq]
    intro hm
    exact h2 _ (List.mem_map_of_mem hr) _ hm rfl
  have e2 : gone.filter (fun r => decide (r.key ∉ gone.map (·.key))) = [] := List.filter_eq_nil_iff.mpr fun r hr => by
    simp only [decide_eq_true_eq]
    exact fun h => h (List.mem_map_of_mem hr)
  rw [e1, e2, List.append_nil]
end Mine1
end
section
open PySem PySem.W PyProof.Rows
namespace Mine1
open MineS MineP
set_option maxRecDepth 100000
set_option maxHeartbeats 8000000
local macro_rules | `(tactic| k_all) => `(tactic| first | assumption)
local macro_rules | `(tactic| k_ne) => `(tactic| (refine neN ?_; (try dsimp only); first | assumption | (apply Ne.symm; assumption)))
local macro_rules | `(tactic| k_room) => `(tactic| ((try simp only [depth_under_make, depth_under_kw, depth_in1, depth_deeper, depth_caller]); show _ < 1000; omega))
local macro_rules | `(tactic| walk_at "delItem ref") => `(tactic| (k_dflt (refine' delItem_own ?k1 ?k2 ?k3 ?k4 ?k5 ?k6 ?_; (case k1 => k_asm); (case k2 => k_asm); (case k3 => k_inst); (case k4 => k_is); (case k5 => k_is); (case k6 => k_is); k_whole)))
variable {w : World} {A₀ : Around} {d u : Nat} {gs : Option (List Code)} {nm : List (Str × NameKind)} {mo : List (Str × PySem.Const)} {gl : Addr} {cl : List (Str × Addr)} {ql : Str} {fn : Option Addr} {co : Value} {bi : Addr} {outer : List Env}
  {base h₀ : Heap} {L : Addr} {s : Shared} {m mg mb : Str → Option Value} {mean : ExcName → Option Value} {loose : List Str} {p : Program} {news : List (Addr × Obj)} {Q : Value → Shared → Prop} {E : Value → Shared → Prop} {keep : List Addr}
theorem rangeRest_inv {prog : Program} {A : Around} {env : Env} {x : Str} {body : List Stmt} {QF : Flow → Shared → Prop} {I : Addr} {a : Int} {nn : Nat} {J : Nat → (Str → Option Value) → List (Addr × Obj) → Prop}
    (step : ∀ k m n, J (k + 1) m n → ∀ (i : Nat) t h tk, Fr h₀ env.locals h (fun y => if y = x then some (.int (a + (i : Int)) t) else m y) → News h₀ env.locals h ((I, itR (a + ((i + 1 : Nat) : Int)) ((nn : Int) - ((i + 1 : Nat) : Int))) :: n) →
      wpAny (model prog w) A (execs body env) (UnrPost h₀ env.locals { s with heap := h, toks := tk } I (itR (a + ((i + 1 : Nat) : Int)) ((nn : Int) - ((i + 1 : Nat) : Int))) (fun m' n' => J k m' n') QF) E { s with heap := h, toks := tk })
    (done : ∀ m n, J 0 m n → ∀ h tk, Fr h₀ env.locals h m → News h₀ env.locals h n → QF .next { s with heap := h, toks := tk }) :
    ∀ (k i : Nat) m n, J k m n → RangeRest prog w A E h₀ env x body QF s I a nn k i m n := by
  intro k
  induction k with
  | zero => intro i m n hj; exact RangeRest.zero fun h tk F N => done m n hj h tk F N
  | succ k ih =>
    intro i m n hj t h tk F N
    refine wpAny_mono (step k m n hj i t h tk F N) (fun fl s' hp => ?_) fun _ _ e => e
    have fin : ∀ {it : Obj}, UnrEnd h₀ env.locals { s with heap := h, toks := tk } I it (fun m' n' => J k m' n') s' → UnrEnd h₀ env.locals { s with heap := h, toks := tk } I it (RangeRest prog w A E h₀ env x body QF s I a nn k (i + 1)) s' := by
      rintro it ⟨h', tk', m', n', e, F', N', ho, hj'⟩
      exact ⟨h', tk', m', n', e, F', N', ho, ih _ _ _ hj'⟩
    cases fl with
    | ret v => exact hp
    | brk => exact hp
    | next => exact fin hp
    | cont => exact fin hp
theorem back_nil {K : Frag} {h' h₀' : Heap} (b : Back A₀ base [] K p loose mean mg mb h₀ L m h' news h₀') : Fr h₀ L h' m ∧ News h₀ L h' news := by
  obtain ⟨T, F, N, -⟩ := b
  have st : ∀ b o, h₀.get? b = some o → h₀'.get? b = some o := fun b o e => T.other b o e (by simp)
  refine ⟨⟨F.ns, fun b o e => F.keep b o (st b o e), by rw [← T.size]; exact F.above⟩, fun q hq => ⟨(N q hq).1, (N q hq).2.1, ?_⟩⟩
  cases z : h₀.get? q.1 with
  | none => rfl
  | some o => have := (N q hq).2.2; rw [st _ _ z] at this; cases this
end Mine1
end
section
open PySem PySem.W PyProof.Rows PyProof.Rows.LCg PyProof.Rows.LCt PyProof.Rows.LCp
namespace Mine1
set_option maxRecDepth 100000
set_option maxHeartbeats 8000000
local macro_rules | `(tactic| k_all) => `(tactic| first | assumption)
local macro_rules | `(tactic| k_ne) => `(tactic| (refine neN ?_; (try dsimp only); first | assumption | (apply Ne.symm; assumption)))
local macro_rules | `(tactic| k_room) => `(tactic| ((try simp only [depth_under_make, depth_under_kw, depth_in1, depth_deeper, depth_caller]); show _ < 1000; omega))
local macro_rules | `(tactic| walk_at "delItem ref") => `(tactic| (k_dflt (refine' delItem_own ?k1 ?k2 ?k3 ?k4 ?k5 ?k6 ?_; (case k1 => k_asm); (case k2 => k_asm); (case k3 => k_inst); (case k4 => k_is); (case k5 => k_is); (case k6 => k_is); k_whole)))
variable {w : World} {A₀ : Around} {d u : Nat} {gs : Option (List Code)} {nm : List (Str × NameKind)} {mo : List (Str × PySem.Const)} {gl : Addr} {cl : List (Str × Addr)} {ql : Str} {fn : Option Addr} {co : Value} {bi : Addr} {outer : List Env}
  {base h₀ : Heap} {L : Addr} {s : Shared} {m mg mb : Str → Option Value} {mean : ExcName → Option Value} {loose : List Str} {p : Program} {news : List (Addr × Obj)} {Q : Value → Shared → Prop} {E : Value → Shared → Prop} {keep : List Addr}
section
variable {prog : Program} {A : Around} {env : Env}
theorem compEnd_mono {s₁ s₂ : Shared} {I C D : Addr} {oI oC oD : Obj} {S : List (Addr × Obj) → Prop} {r1 r2 : Value → List (Addr × Obj) → Prop} {y : Value} (h : CompEnd h₀ L m s₁ I oI C oC D oD S r1 y s₂) (hr : ∀ n, r1 y n → r2 y n) : CompEnd h₀ L m s₁ I oI C oC D oD S r2 y s₂ :=
  let ⟨h', tk, n', e, F, N, o, hs, r⟩ := h; ⟨h', tk, n', e, F, N, o, hs, hr _ r⟩
theorem compRestT_inv {ct elt : PySem.Expr} {x : Str} {scope : Scope} {cl : List (Str × Addr)} {S : List (Addr × Obj) → Prop} {P : Nat → Value → Prop} {Fin : List Value → List (Addr × Obj) → Prop} {J : Nat → List Value → List (Addr × Obj) → Prop} {NN : Nat}
    (step : ∀ i ys n, i < NN → J i ys n → ∀ v I oI C oC D m₂ h tk (E' : Value → Shared → Prop), P i v → NsObj oC m₂ → m₂ x = some v → Fr h₀ L h m → News h₀ L h ((I, oI) :: (C, oC) :: (D, lst ys) :: n) → Off3 I C D n → ((@Ne Nat I C) ∧ (@Ne Nat I D) ∧ (@Ne Nat C D)) →
      wpAny (model prog w) A (isTrue ct (compEnvC scope cl C env) (eval ct (compEnvC scope cl C env))) (fun ok s' => if ok = true then
        wpAny (model prog w) A (eval elt (compEnvC scope cl C env)) (CompEnd h₀ L m { s with heap := h, toks := tk } I oI C oC D (lst ys) S (fun y n' => J (i + 1) (ys ++ [y]) n')) E' s'
        else CompEnd h₀ L m { s with heap := h, toks := tk } I oI C oC D (lst ys) S (fun _ n' => J (i + 1) ys n') Value.none s') E' { s with heap := h, toks := tk })
    (done : ∀ ys n, J NN ys n → Fin ys n) : ∀ (k i : Nat) ys n, i + k = NN → J i ys n → CompRestT prog w A h₀ L m env ct elt x scope cl s S P Fin k i ys n := by
  intro k
  induction k with
  | zero => intro i ys n e hj; exact CompRestT.zero (done _ _ (by rw [← e]; exact hj))
  | succ k ih =>
    intro i ys n e hj
    refine CompRestT.succ fun v I oI C oC D m₂ h tk E' hp h1 h2 F N o q => wpAny_mono (step i ys n (by omega) hj v I oI C oC D m₂ h tk E' hp h1 h2 F N o q) (fun ok s' hk => ?_) fun _ _ e => e
    split at hk
    · rename_i ht
      rw [if_pos ht]
      exact wpAny_mono hk (fun y s'' hy => compEnd_mono hy fun n' r => ih _ _ _ (by omega) r) fun _ _ e => e
    · rename_i ht
      rw [if_neg ht]
      exact compEnd_mono hk fun n' r => ih _ _ _ (by omega) r
theorem compRestP_inv {elt : PySem.Expr} {x x₂ : Str} {scope : Scope} {cl : List (Str × Addr)} {S : List (Addr × Obj) → Prop} {P : Nat → Value → Prop} {Fin : List Value → List (Addr × Obj) → Prop} {J : Nat → List Value → List (Addr × Obj) → Prop} {NN : Nat}
    (step : ∀ i ys n, i < NN → J i ys n → ∀ v, P i v → ∃ (t : Addr) (ot : Obj) (v₁ v₂ : Value) (nt : Nat), v = .ref t ∧ (t, ot) ∈ n ∧ ot.cls = .type "tuple" ∧ ot.data = .seq #[v₁, v₂] nt ∧
      ∀ I oI C oC D m₂ h tk (E' : Value → Shared → Prop), NsObj oC m₂ → m₂ x = some v₁ → m₂ x₂ = some v₂ → Fr h₀ L h m → News h₀ L h ((I, oI) :: (C, oC) :: (D, lst ys) :: n) → Off3 I C D n → ((@Ne Nat I C) ∧ (@Ne Nat I D) ∧ (@Ne Nat C D)) →
      wpAny (model prog w) A (eval elt (compEnvC scope cl C env)) (CompEnd h₀ L m { s with heap := h, toks := tk } I oI C oC D (lst ys) S (fun y n' => J (i + 1) (ys ++ [y]) n')) E' { s with heap := h, toks := tk })
    (done : ∀ ys n, J NN ys n → Fin ys n) : ∀ (k i : Nat) ys n, i + k = NN → J i ys n → CompRestP prog w A h₀ L m env elt x x₂ scope cl s S P Fin k i ys n := by
  intro k
  induction k with
  | zero => intro i ys n e hj; exact CompRestP.zero (done _ _ (by rw [← e]; exact hj))
  | succ k ih =>
    intro i ys n e hj
    refine CompRestP.succ fun v hv => ?_
    obtain ⟨t, ot, v₁, v₂, nt, a1, a2, a3, a4, hh⟩ := step i ys n (by omega) hj v hv
    exact ⟨t, ot, v₁, v₂, nt, a1, a2, a3, a4, fun I oI C oC D m₂ h tk E' h1 h2 h3 F N o q => wpAny_mono (hh I oI C oC D m₂ h tk E' h1 h2 h3 F N o q) (fun y s'' hy => compEnd_mono hy fun n' r => ih _ _ _ (by omega) r) fun _ _ e => e⟩
theorem compRest_inv {elt : PySem.Expr} {x : Str} {scope : Scope} {cl : List (Str × Addr)} {S : List (Addr × Obj) → Prop} {P : Nat → Value → Prop} {Fin : List Value → List (Addr × Obj) → Prop} {J : Nat → List Value → List (Addr × Obj) → Prop} {NN : Nat}
    (step : ∀ i ys n, i < NN → J i ys n → ∀ v I oI C oC D m₂ h tk (E' : Value → Shared → Prop), P i v → NsObj oC m₂ → m₂ x = some v → Fr h₀ L h m → News h₀ L h ((I, oI) :: (C, oC) :: (D, lst ys) :: n) → Off3 I C D n → ((@Ne Nat I C) ∧ (@Ne Nat I D) ∧ (@Ne Nat C D)) →
      wpAny (model prog w) A (eval elt (compEnvC scope cl C env)) (CompEnd h₀ L m { s with heap := h, toks := tk } I oI C oC D (lst ys) S (fun y n' => J (i + 1) (ys ++ [y]) n')) E' { s with heap := h, toks := tk })
    (done : ∀ ys n, J NN ys n → Fin ys n) : ∀ (k i : Nat) ys n, i + k = NN → J i ys n → CompRest prog w A h₀ L m env elt x scope cl s S P Fin k i ys n := by
  intro k
  induction k with
  | zero => intro i ys n e hj; exact CompRest.zero (done _ _ (by rw [← e]; exact hj))
  | succ k ih =>
    intro i ys n e hj
    exact CompRest.succ fun v I oI C oC D m₂ h tk E' hp h1 h2 F N o q => wpAny_mono (step i ys n (by omega) hj v I oI C oC D m₂ h tk E' hp h1 h2 F N o q) (fun y s'' hy => compEnd_mono hy fun n' r => ih _ _ _ (by omega) r) fun _ _ e => e
end
end Mine1
end
section
open PySem PySem.W PyProof.Rows
namespace Mine1
open MineS MineP
set_option maxRecDepth 100000
set_option maxHeartbeats 8000000
local macro_rules | `(tactic| k_all) => `(tactic| first | assumption)
local macro_rules | `(tactic| k_ne) => `(tactic| (refine neN ?_; (try dsimp only); first | assumption | (apply Ne.symm; assumption)))
local macro_rules | `(tactic| k_room) => `(tactic| ((try simp only [depth_under_make, depth_under_kw, depth_in1, depth_deeper, depth_caller]); show _ < 1000; omega))
local macro_rules | `(tactic| walk_at "delItem ref") => `(tactic| (k_dflt (refine' delItem_own ?k1 ?k2 ?k3 ?k4 ?k5 ?k6 ?_; (case k1 => k_asm); (case k2 => k_asm); (case k3 => k_inst); (case k4 => k_is); (case k5 => k_is); (case k6 => k_is); k_whole)))
variable {w : World} {A₀ : Around} {d u : Nat} {gs : Option (List Code)} {nm : List (Str × NameKind)} {mo : List (Str × PySem.Const)} {gl : Addr} {cl : List (Str × Addr)} {ql : Str} {fn : Option Addr} {co : Value} {bi : Addr} {outer : List Env}
  {base h₀ : Heap} {L : Addr} {s : Shared} {m mg mb : Str → Option Value} {mean : ExcName → Option Value} {loose : List Str} {p : Program} {news : List (Addr × Obj)} {Q : Value → Shared → Prop} {E : Value → Shared → Prop} {keep : List Addr}
local macro_rules | `(tactic| walk_at "subscriptTail") => `(tactic| ((with_reducible show wpAny _ _ (subscriptTail _ _ (Value.ref _) (Value.str _ _)) _ _ _); k_dflt (refine item_missing (knd := PySem.strKind _ _) (by k_asm) (by k_mem) (by k_asm) (by k_asm) (strKind_is _ _ _ _) (by rfl) (by assumption) ?_); intro h' e' x'))
local macro_rules | `(tactic| walk_at "call builtin:dict.get") => `(tactic| (k_dflt (refine kdg_get1 (knd := PySem.strKind _ _) (by k_asm) (by k_mem) (by k_asm) (by k_asm) (strKind_is _ _ _ _) _ (by assumption) ?_); (try dsimp only [Option.getD])))
local macro_rules | `(tactic| walk_at "getItem ref str") => `(tactic| (k_dflt (refine kdt_getItem (knd := PySem.strKind _ _) (by k_asm) (by k_mem) (by k_asm) (strKind_is _ _ _ _) (by assumption) ?_)))
local macro_rules | `(tactic| walk_at "getItem ref str") => `(tactic| (k_dflt (refine getItem_missing (knd := PySem.strKind _ _) (by k_asm) (by k_mem) (by k_asm) (by k_asm) (strKind_is _ _ _ _) (by rfl) (by assumption) ?_); intro h' e' x'))
local macro_rules | `(tactic| walk_at "delItem ref str") => `(tactic| (k_dflt (refine' kob_del (knd := PySem.strKind _ _) ?F ?N ?U ?d (strKind_is _ _ _ _) ?l ?z ?_; (case F => k_asm); (case N => k_asm); (case U => k_updF); (case d => k_asm); (case l => assumption); (case z => rw [sizeLine_eq]; omega)); intro h' o' F' N' hd'; (try dsimp only at N')))
local macro_rules | `(tactic| walk_at "delItem ref str") => `(tactic| (k_dflt (refine delItem_missing (knd := PySem.strKind _ _) (by k_asm) (by k_mem) (by k_asm) (by k_asm) (strKind_is _ _ _ _) (by rfl) (by assumption) ?_); intro h' e' x'))
local macro_rules | `(tactic| walk_at "enterS") => `(tactic| (refine wpAny_call ?_; (refine' call_SK ?k1 ?k2 ?k3 ?k4 ?k5 ?XB ?TB ?D ?kA ?kf ?kK ?k6 ?k7 ?k8 ?k9 ?kB ?_ ?c2 ?c3 ?c4 ?c5; (case kA => exact rfl); (case kf => exact rfl); (case kK => exact rfl); (case k1 => k_asm); (case k2 => k_asm); (case k3 => k_asm); (case k4 => k_asm); (case k5 => k_asm); (case XB => assumption); (case TB => assumption); (case D => assumption); (case k6 => k_is); (case k7 => k_is); (case k8 => k_room); (case k9 => first | exact binds_K (by k_in) rfl (by k_is) rfl rfl rfl | exact BindsTo.of_eq rfl); (case kB => exact locs rfl); (case c2 => exact rfl); (case c3 => exact rfl); (case c4 => exact rfl); (case c5 => decide); intro g' L' h' F' N' B' X' T' D'; (try dsimp only); (try k_lift B'); (try k_fold))))
local macro_rules | `(tactic| walk_at "LeaveX") => `(tactic| (k_dflt (refine' leaveX_ ?F ?N ?T ?_; (case F => k_asm); (case N => k_asm); (case T => first | assumption | exact KtsTurn.refl); k_whole); intro h₀' b'; (try dsimp only)))
local macro_rules | `(tactic| walk_at "call ref") => `(tactic| (k_dflt (first
  | (refine' release_ ?k1 ?k2 ?k3 ?k4 ?k5 ?k6 ?k7 ?k8 ?_; (case k1 => (try simp only [depth_deeper]); omega); (case k2 => k_asm); (case k3 => k_asm); (case k4 => k_asm); (case k5 => k_asm); (case k6 => k_asm); (case k8 => k_mem); (case k7 => k_updF); k_whole; intro h' tk' F' N'; (try dsimp only at N'))
  | (refine' acquire_free ?k1 ?k2 ?k3 ?k4 ?k5 ?k6 ?k7 ?k8 ?_; (case k1 => (try simp only [depth_deeper]); omega); (case k2 => k_asm); (case k3 => k_asm); (case k4 => k_asm); (case k5 => k_asm); (case k6 => k_asm); (case k8 => k_mem); (case k7 => k_updF); k_whole; intro h' tk' F' N'; (try dsimp only at N'))); (try k_sweep)))
local macro_rules | `(tactic| walk_at "call builtin:len") => `(tactic| ((with_reducible show wpAny _ _ (call (Value.builtin "len") [Value.ref _]) _ _ _); k_dflt (refine kda_len (knd := PySem.strKind _ _) (by k_asm) (by k_mem) (by k_asm) (by k_asm) (by omega) ?_)))
local macro_rules | `(tactic| walk_at "WhlIf") => `(tactic| first | (refine WhlIf.no (by simp; omega) ?_) | (refine WhlIf.yes (by simp; omega) ?_))
variable {c cd dd mx md tup lst : Addr} {n : Int} {t : Tok} {cap thr : Int} {tc tt : Tok} {al : Value} {od : Obj} {kvs : List (Str × Value)} {key : Str} {kt : Tok} {v : Value} {hs : Int} {tk : Tok}

theorem typeIs_at {a : Addr} {o : Obj} {T : String} (N : News h₀ L s.heap news) (h : (a, o) ∈ news) (hc : o.cls = .type T) : s.TypeIs (.ref a) T := ⟨o, (N _ h).1, hc⟩
local macro_rules | `(tactic| walk_at "call type:bool") => `(tactic| ((with_reducible rename News _ _ _ _ => N3); k_dflt (refine call_bool_fn (typeIs_at N3 (by k_mem) (by assumption)) ?_)))
theorem manage_fit (hal : al = .none) : d ≤ 400 → Below A₀ base outer h₀ → (hd.heap_39 w.params).In h₀ → Top p loose mean mg mb h₀ → Fr h₀ L s.heap m → News h₀ L s.heap news →
    (c, cacheObj cd dd mx n t (.int cap tc) al (.int thr tt)) ∈ news → (cd, dictOf [] 0) ∈ news → (dd, od) ∈ news → cd ≠ dd → od.IsDictOf (PySem.strKind PySem.Challenge.rw_eu0033_01.row.prog w) kvs → kvs.length ≤ 1000 → (dd == sysModules) = false →
    (mx, lockObj md) ∈ news → (md, heldDict hs tk false) ∈ news → md ≠ dd → md ≠ cd → 0 ≤ cap → cap ≤ 4 → 0 ≤ thr → thr ≤ 2 → (kvs.length : Int) ≤ cap + cap * thr →
    (∀ h' tk', Fr h₀ L h' m → News h₀ L h' news → Q .none { s with heap := h', toks := tk' }) →
    wpAny (model PySem.Challenge.rw_eu0033_01.row.prog w) (AA d u gs nm mo gl cl ql fn co bi L outer) (call (.ref 174) [.ref c]) Q E s := by
  k_fill
  subst hal
  intro hdp B X T F N h1 h2 h3 n2 hdi hz lo h4 h5 n7 n8 c0 c4 t0 t2 hle K
  have hc := dict_cls hdi
  have n6 : dd ≠ c := news_nec N h3 h1 (by rw [hc]; simp)
  have n1 : cd ≠ c := news_nec N h2 h1 (by simp)
  have n3 : mx ≠ c := news_nec N h4 h1 (by simp)
  have n4 : mx ≠ dd := news_nec N h4 h3 (by rw [hc]; simp)
  have n5 : md ≠ c := news_nec N h5 h1 (by simp)
  have n9 : md ≠ mx := news_nec N h5 h4 (by simp)
  have hR1 : ∀ q ∈ wo [md] news, q.1 ≠ md := wo_ne (by simp)
  have N1 : News h₀ L s.heap ((c, cacheObj cd dd mx n t (.int cap tc) _ (.int thr tt)) :: (cd, dictOf [] 0) :: (dd, od) :: (mx, lockObj md) :: (md, heldDict hs tk false) :: wo [md] news) :=
    news_cons N h1 (news_cons N h2 (news_cons N h3 (news_cons N h4 (news_cons N h5 (news_mono N fun _ h => wo_sub h)))))
  have hback : ∀ q ∈ news, q ∈ (md, heldDict hs tk false) :: wo [md] news := fun q hq => by
    by_cases e : q.1 = md
    · have := news_same N h5 hq e; simp [this]
    · exact .tail _ (wo_mem hq (by simpa using e))
  generalize wo [md] news = R at *
  clear N h1 h2 h3 h4 h5
  k_steps
  with_reducible rename News _ _ _ _ => N9
  exact K _ _ (by assumption) (news_mono N9 fun q hq => by have := hback q hq; simp only [List.mem_cons] at this ⊢; rcases this with e | e <;> simp [e])

theorem manage_fit_f {f : Addr} {fo : Obj} (hal : al = .ref f) : d ≤ 400 → Below A₀ base outer h₀ → (hd.heap_39 w.params).In h₀ → Top p loose mean mg mb h₀ → Fr h₀ L s.heap m → News h₀ L s.heap news →
    (c, cacheObj cd dd mx n t (.int cap tc) al (.int thr tt)) ∈ news → (cd, dictOf [] 0) ∈ news → (dd, od) ∈ news → cd ≠ dd → od.IsDictOf (PySem.strKind PySem.Challenge.rw_eu0033_01.row.prog w) kvs → kvs.length ≤ 1000 → (dd == sysModules) = false →
    (f, fo) ∈ news → fo.cls = .type "function" → (mx, lockObj md) ∈ news → (md, heldDict hs tk false) ∈ news → md ≠ dd → md ≠ cd → 0 ≤ cap → cap ≤ 4 → 0 ≤ thr → thr ≤ 2 → (kvs.length : Int) ≤ cap + cap * thr →
    (∀ h' tk', Fr h₀ L h' m → News h₀ L h' news → Q .none { s with heap := h', toks := tk' }) →
    wpAny (model PySem.Challenge.rw_eu0033_01.row.prog w) (AA d u gs nm mo gl cl ql fn co bi L outer) (call (.ref 174) [.ref c]) Q E s := by
  k_fill
  subst hal
  intro hdp B X T F N h1 h2 h3 n2 hdi hz lo hf hfc h4 h5 n7 n8 c0 c4 t0 t2 hle K
  have hc := dict_cls hdi
  have n6 : dd ≠ c := news_nec N h3 h1 (by rw [hc]; simp)
  have n1 : cd ≠ c := news_nec N h2 h1 (by simp)
  have n3 : mx ≠ c := news_nec N h4 h1 (by simp)
  have n4 : mx ≠ dd := news_nec N h4 h3 (by rw [hc]; simp)
  have n5 : md ≠ c := news_nec N h5 h1 (by simp)
  have n9 : md ≠ mx := news_nec N h5 h4 (by simp)
  have nf : f ≠ md := news_nec N hf h5 (by rw [hfc]; simp)
  have hf' := wo_mem (xs := [md]) hf (by simpa using nf)
  have hR1 : ∀ q ∈ wo [md] news, q.1 ≠ md := wo_ne (by simp)
  have N1 : News h₀ L s.heap ((f, fo) :: (c, cacheObj cd dd mx n t (.int cap tc) _ (.int thr tt)) :: (cd, dictOf [] 0) :: (dd, od) :: (mx, lockObj md) :: (md, heldDict hs tk false) :: wo [md] news) :=
    news_cons N hf (news_cons N h1 (news_cons N h2 (news_cons N h3 (news_cons N h4 (news_cons N h5 (news_mono N fun _ h => wo_sub h))))))
  have hback : ∀ q ∈ news, q ∈ (md, heldDict hs tk false) :: wo [md] news := fun q hq => by
    by_cases e : q.1 = md
    · have := news_same N h5 hq e; simp [this]
    · exact .tail _ (wo_mem hq (by simpa using e))
  generalize wo [md] news = R at *
  clear N h1 h2 h3 h4 h5 hf
  k_steps
  with_reducible rename News _ _ _ _ => N9
  exact K _ _ (by assumption) (news_mono N9 fun q hq => by have := hback q hq; simp only [List.mem_cons] at this ⊢; rcases this with e | e <;> simp [e])

end Mine1
end
section
open PySem PySem.W PyProof.Rows
namespace Mine1
open MineS MineP
set_option maxRecDepth 100000
set_option maxHeartbeats 8000000
local macro_rules | `(tactic| k_all) => `(tactic| first | assumption)
local macro_rules | `(tactic| k_ne) => `(tactic| (refine neN ?_; (try dsimp only); first | assumption | (apply Ne.symm; assumption)))
local macro_rules | `(tactic| k_room) => `(tactic| ((try simp only [depth_under_make, depth_under_kw, depth_in1, depth_deeper, depth_caller]); show _ < 1000; omega))
local macro_rules | `(tactic| walk_at "delItem ref") => `(tactic| (k_dflt (refine' delItem_own ?k1 ?k2 ?k3 ?k4 ?k5 ?k6 ?_; (case k1 => k_asm); (case k2 => k_asm); (case k3 => k_inst); (case k4 => k_is); (case k5 => k_is); (case k6 => k_is); k_whole)))
variable {w : World} {A₀ : Around} {d u : Nat} {gs : Option (List Code)} {nm : List (Str × NameKind)} {mo : List (Str × PySem.Const)} {gl : Addr} {cl : List (Str × Addr)} {ql : Str} {fn : Option Addr} {co : Value} {bi : Addr} {outer : List Env}
  {base h₀ : Heap} {L : Addr} {s : Shared} {m mg mb : Str → Option Value} {mean : ExcName → Option Value} {loose : List Str} {p : Program} {news : List (Addr × Obj)} {Q : Value → Shared → Prop} {E : Value → Shared → Prop} {keep : List Addr}
local macro_rules | `(tactic| walk_at "subscriptTail") => `(tactic| ((with_reducible show wpAny _ _ (subscriptTail _ _ (Value.ref _) (Value.str _ _)) _ _ _); k_dflt (refine item_missing (knd := PySem.strKind _ _) (by k_asm) (by k_mem) (by k_asm) (by k_asm) (strKind_is _ _ _ _) (by rfl) (by assumption) ?_); intro h' e' x'))
local macro_rules | `(tactic| walk_at "call builtin:dict.get") => `(tactic| (k_dflt (refine kdg_get1 (knd := PySem.strKind _ _) (by k_asm) (by k_mem) (by k_asm) (by k_asm) (strKind_is _ _ _ _) _ (by assumption) ?_); (try dsimp only [Option.getD])))
local macro_rules | `(tactic| walk_at "getItem ref str") => `(tactic| (k_dflt (refine kdt_getItem (knd := PySem.strKind _ _) (by k_asm) (by k_mem) (by k_asm) (strKind_is _ _ _ _) (by assumption) ?_)))
local macro_rules | `(tactic| walk_at "getItem ref str") => `(tactic| (k_dflt (refine getItem_missing (knd := PySem.strKind _ _) (by k_asm) (by k_mem) (by k_asm) (by k_asm) (strKind_is _ _ _ _) (by rfl) (by assumption) ?_); intro h' e' x'))
local macro_rules | `(tactic| walk_at "delItem ref str") => `(tactic| (k_dflt (refine' kob_del (knd := PySem.strKind _ _) ?F ?N ?U ?d (strKind_is _ _ _ _) ?l ?z ?_; (case F => k_asm); (case N => k_asm); (case U => k_updF); (case d => k_asm); (case l => assumption); (case z => rw [sizeLine_eq]; omega)); intro h' o' F' N' hd'; (try dsimp only at N')))
local macro_rules | `(tactic| walk_at "delItem ref str") => `(tactic| (k_dflt (refine delItem_missing (knd := PySem.strKind _ _) (by k_asm) (by k_mem) (by k_asm) (by k_asm) (strKind_is _ _ _ _) (by rfl) (by assumption) ?_); intro h' e' x'))
local macro_rules | `(tactic| walk_at "enterS") => `(tactic| (refine wpAny_call ?_; (refine' call_SK ?k1 ?k2 ?k3 ?k4 ?k5 ?XB ?TB ?D ?kA ?kf ?kK ?k6 ?k7 ?k8 ?k9 ?kB ?_ ?c2 ?c3 ?c4 ?c5; (case kA => exact rfl); (case kf => exact rfl); (case kK => exact rfl); (case k1 => k_asm); (case k2 => k_asm); (case k3 => k_asm); (case k4 => k_asm); (case k5 => k_asm); (case XB => assumption); (case TB => assumption); (case D => assumption); (case k6 => k_is); (case k7 => k_is); (case k8 => k_room); (case k9 => first | exact binds_K (by k_in) rfl (by k_is) rfl rfl rfl | exact BindsTo.of_eq rfl); (case kB => exact locs rfl); (case c2 => exact rfl); (case c3 => exact rfl); (case c4 => exact rfl); (case c5 => decide); intro g' L' h' F' N' B' X' T' D'; (try dsimp only); (try k_lift B'); (try k_fold))))
local macro_rules | `(tactic| walk_at "LeaveX") => `(tactic| (k_dflt (refine' leaveX_ ?F ?N ?T ?_; (case F => k_asm); (case N => k_asm); (case T => first | assumption | exact KtsTurn.refl); k_whole); intro h₀' b'; (try dsimp only)))
local macro_rules | `(tactic| walk_at "call ref") => `(tactic| (k_dflt (first
  | (refine' release_ ?k1 ?k2 ?k3 ?k4 ?k5 ?k6 ?k7 ?k8 ?_; (case k1 => (try simp only [depth_deeper]); omega); (case k2 => k_asm); (case k3 => k_asm); (case k4 => k_asm); (case k5 => k_asm); (case k6 => k_asm); (case k8 => k_mem); (case k7 => k_updF); k_whole; intro h' tk' F' N'; (try dsimp only at N'))
  | (refine' acquire_free ?k1 ?k2 ?k3 ?k4 ?k5 ?k6 ?k7 ?k8 ?_; (case k1 => (try simp only [depth_deeper]); omega); (case k2 => k_asm); (case k3 => k_asm); (case k4 => k_asm); (case k5 => k_asm); (case k6 => k_asm); (case k8 => k_mem); (case k7 => k_updF); k_whole; intro h' tk' F' N'; (try dsimp only at N'))); (try k_sweep)))
local macro_rules | `(tactic| walk_at "call builtin:len") => `(tactic| ((with_reducible show wpAny _ _ (call (Value.builtin "len") [Value.ref _]) _ _ _); k_dflt (refine kda_len (knd := PySem.strKind _ _) (by k_asm) (by k_mem) (by k_asm) (by k_asm) (by omega) ?_)))
local macro_rules | `(tactic| walk_at "call ref") => `(tactic| (k_dflt (refine' ig_new ?k1 ?k2 ?k3 ?k4 ?k5 ?k6 ?_; (case k1 => (try simp only [depth_deeper]); omega); (case k2 => k_asm); (case k3 => k_asm); (case k4 => k_asm); (case k5 => k_asm); (case k6 => k_asm); k_whole; intro h' tk' ig' igd' it' F' N' l1 l2 l3; (try k_lt l1); (try k_lt2 l2); (try k_lt2 l3)); (try k_sweep)))
local macro_rules | `(tactic| walk_at "exec For") => `(tactic| (k_here; (rename Fr _ _ _ _ => lF'); (with_unfolding_all refine' For_invVF lF' ?k1 ?k2 ?_; (case k1 => exact rfl); (case k2 => exact rfl); k_whole)))
local macro_rules | `(tactic| walk_at "pyIter ref") => `(tactic| ((with_reducible show wpAny _ _ (pyIter (Value.ref _)) (fun it s₂ => LoopAtV _ _ _ _ _ _ _ _ _ it s₂) _ _); ((rename Fr _ _ _ _ => lF'); (rename News _ _ _ _ => lN'); (with_unfolding_all refine iter_listUnr (vs := (slicePick _ _ _ _).toList) (by rfl) lF' lN' (by k_mem) (by rfl) (by rfl) ?_); intro i' l1; (try k_lt l1))))
local macro_rules | `(tactic| walk_at "WhlIf") => `(tactic| first | (refine WhlIf.no (by simp; omega) ?_) | (refine WhlIf.yes (by simp; omega) ?_))
variable {c cd dd mx md tup lst : Addr} {n : Int} {t : Tok} {cap thr : Int} {tc tt : Tok} {al : Value} {od : Obj} {kvs : List (Str × Value)} {key : Str} {kt : Tok} {v : Value} {hs : Int} {hk : Tok} {rows : List (Row Str)}


theorem manage_clear_none (hal : al = .none) : d ≤ 390 → u ≤ 8900 → Below A₀ base outer h₀ → (hd.heap_39 w.params).In h₀ → Top p loose mean mg mb h₀ → Fr h₀ L s.heap m → News h₀ L s.heap news →
    (c, cacheObj cd dd mx n t (.int cap tc) al (.int thr tt)) ∈ news → (cd, dictOf [] 0) ∈ news → (dd, od) ∈ news → cd ≠ dd → od.IsDictOf (PySem.strKind PySem.Challenge.rw_eu0033_01.row.prog w) kvs → kvs = kvsOf rows → RowsIn news rows → (∀ r ∈ rows, ∃ kt, r.kv = .str r.key kt) → (rows.map (·.key)).Nodup → (rows.map (·.ctr)).Nodup → rows.length ≤ 60 → (dd == sysModules) = false →
    (mx, lockObj md) ∈ news → (md, heldDict hs hk false) ∈ news → md ≠ dd → md ≠ cd → 0 ≤ cap → cap ≤ 4 → 0 ≤ thr → thr ≤ 2 → cap + cap * thr < (kvs.length : Int) →
    (∀ h' tk' od' (srows : List (Row Str)), Fr h₀ L h' m → srows.Perm rows → srows.Pairwise (fun a b => b.ctr < a.ctr) → od'.IsDictOf (PySem.strKind PySem.Challenge.rw_eu0033_01.row.prog w) (kvsOf (left rows (srows.drop cap.toNat))) → News h₀ L h' ((dd, od') :: wo [dd] news) → Q .none { s with heap := h', toks := tk' }) →
    wpAny (model PySem.Challenge.rw_eu0033_01.row.prog w) (AA d u gs nm mo gl cl ql fn co bi L outer) (call (.ref 174) [.ref c]) Q E s := by
  subst hal
  k_fill
  intro hdp hu B X T F N h1 h2 h3 n2 hdi hkv hrows hkt hkn hnd hz lo h4 h5 n7 n8 c0 c4 t0 t2 hle K
  have hc := dict_cls hdi
  have n6 : dd ≠ c := news_nec N h3 h1 (by rw [hc]; simp)
  have n1 : cd ≠ c := news_nec N h2 h1 (by simp)
  have n3 : mx ≠ c := news_nec N h4 h1 (by simp)
  have n4 : mx ≠ dd := news_nec N h4 h3 (by rw [hc]; simp)
  have n5 : md ≠ c := news_nec N h5 h1 (by simp)
  have n9 : md ≠ mx := news_nec N h5 h4 (by simp)
  have hR1 : ∀ q ∈ wo [md, dd] news, q.1 ≠ md := wo_ne (by simp)
  have hR2 : ∀ q ∈ wo [md, dd] news, q.1 ≠ dd := wo_ne (by simp)
  have N1 : News h₀ L s.heap ((c, cacheObj cd dd mx n t (.int cap tc) _ (.int thr tt)) :: (cd, dictOf [] 0) :: (dd, od) :: (mx, lockObj md) :: (md, heldDict hs hk false) :: wo [md, dd] news) :=
    news_cons N h1 (news_cons N h2 (news_cons N h3 (news_cons N h4 (news_cons N h5 (news_mono N fun _ h => wo_sub h)))))
  have hkl : kvs.length = rows.length := by rw [hkv]; simp [kvsOf]
  subst hkv
  have hct : 0 ≤ cap * thr := Int.mul_nonneg c0 t0
  have hcl : cap < (rows.length : Int) := by omega
  have hrows' : ∀ r ∈ rows, (r.tup, r.tupO) ∈ wo [md, dd] news ∧ (r.lst, r.lstO) ∈ wo [md, dd] news := fun r hr => by
    obtain ⟨q1, q2⟩ := hrows r hr
    have e1 := news_nec N q1 h5 (by simp)
    have e2 := news_nec N q1 h3 (by rw [hc]; simp)
    have e3 := news_nec N q2 h5 (by simp)
    have e4 := news_nec N q2 h3 (by rw [hc]; simp)
    exact ⟨wo_mem q1 (by simp [e1, e2]), wo_mem q2 (by simp [e3, e4])⟩
  clear hrows
  have hrows := hrows'
  clear hrows'
  have hback : ∀ q ∈ wo [dd] news, q ∈ (md, heldDict hs hk false) :: wo [md, dd] news := fun q hq => by
    by_cases e : q.1 = md
    · have := news_same N h5 (wo_sub hq) e; simp [this]
    · have := wo_not hq; exact .tail _ (wo_mem (wo_sub hq) (by simpa [e] using this))
  generalize wo [md, dd] news = R at *
  clear N h1 h2 h3 h4 h5
  k_steps
  (with_unfolding_all show wpAny _ _ (call (Value.builtin "sorted") [Value.ref _] [(Str.ofString "key", Value.ref _), (Str.ofString "reverse", Value.bool true)]) _ _ _)
  k_dflt (refine' sorted_rows (rows := rows) (knd := PySem.strKind _ _) ?k1 ?ku ?k2 ?k3 ?k4 ?k5 ?k6 ?k7 ?k8 ?k9 ?ka ?kb ?kc ?kd ?ke ?kf ?_)
  case k1 => (try simp only [depth_deeper]); omega
  case ku => (simp only [AA]; omega)
  case k2 => k_asm
  case k3 => k_asm
  case k4 => k_asm
  case k5 => k_asm
  case k6 => k_asm
  case k7 => k_mem
  case k8 => k_mem
  case k9 => k_asm
  case ka => exact fun r hr => ⟨by have := (hrows r hr).1; simp [this], by have := (hrows r hr).2; simp [this]⟩
  case kb => assumption
  case kc => assumption
  case kd => k_mem
  case ke => k_mem
  case kf => k_mem
  k_whole
  intro h' tk' D ep srows F' N' l1 hperm hord
  k_lt l1
  have hsl := hperm.length_eq
  k_steps
  have hpick : (slicePick (List.map (fun r : Row Str => Value.ref r.tup) srows).toArray (some cap) none none).toList = (srows.drop cap.toNat).map fun r => Value.ref r.tup := by
    obtain ⟨k, rfl⟩ : ∃ k : Nat, cap = (k : Int) := ⟨cap.toNat, by omega⟩
    rw [slicePick_from _ k (by simp; omega)]
    simp
  rename_i hx lF lN I lI
  rw [hpick]
  have hall : ∀ q ∈ R, q.1 < I := allLt_mem lI.2.2.2.2.2.2.2.2.2.2.2
  have hprm : (srows.take cap.toNat ++ srows.drop cap.toNat).Perm rows := by rw [List.take_append_drop]; exact hperm
  refine listRest_rows (J := fun rs n' => ∃ gone od', srows.drop cap.toNat = gone ++ rs ∧ od'.IsDictOf (PySem.strKind PySem.Challenge.rw_eu0033_01.row.prog w) (kvsOf (left rows gone)) ∧ (dd, od') ∈ n' ∧ (c, cacheObj cd dd mx n t (.int cap tc) .none (.int thr tt)) ∈ n' ∧ (cd, dictOf [] 0) ∈ n' ∧ (mx, lockObj md) ∈ n' ∧ (md, heldDict hs hk true) ∈ n' ∧ ∀ q ∈ R, q ∈ n') (by rfl) ?step ?done _ _ (by k_mem) ⟨[], od, rfl, by rw [left_nil]; exact hdi, by k_mem, by k_mem, by k_mem, by k_mem, by k_mem, fun q hq => by simp [hq]⟩
  case step =>
    intro a r n' hlp hj o it h tk2 hc F N
    obtain ⟨gone, od', e1, hd', m1, m2, m3, m4, m5, m6⟩ := hj
    have ha : a ∈ left rows gone := left_mem hkn (by rw [← e1]; exact hprm)
    have har : a ∈ rows := (List.mem_filter.mp ha).1
    have hv : (valueAt (kvsOf (left rows gone)) a.key).isSome = true := rows_value ha
    obtain ⟨kt, hkt'⟩ := hkt a har
    have hR := hrows a har
    have m7 : (a.tup, ({ cls := .type "tuple", data := .seq [.str a.key kt, a.val, .ref a.lst].toArray } : Obj)) ∈ n' := by
      have := m6 _ hR.1; simpa only [Row.tupO, hkt'] using this
    have q1 : a.tup ≠ dd := hR2 _ hR.1
    have q2 : I ≠ dd := Nat.ne_of_gt lI.2.2.2.2.2.2.2.2.1
    have q4 := news_nec N (.tail _ hlp) (.tail _ m1) (by rw [dict_cls hd']; simp)
    (try dsimp only at q4)
    have hz3 : (kvsOf (left rows gone)).length ≤ 60 := by
      have := List.length_filter_le (fun r : Row Str => decide (r.key ∉ gone.map (·.key))) rows
      simp only [kvsOf, left, List.length_map]; omega
    have N1 := news_cons N (.head _) (news_cons N (.tail _ hlp) (news_cons N (.tail _ m1) (news_cons N (.tail _ m2) (news_cons N (.tail _ m3) (news_cons N (.tail _ m4) (news_cons N (.tail _ m5) (news_cons N (.tail _ m7) (news_mono (news' := R) N fun q hq => .tail _ (m6 q hq)))))))))
    clear N
    k_steps
    with_reducible rename News _ _ _ _ => N9
    have i1 := lI.1
    (try dsimp only at i1)
    have i2 : dd ≠ I := Ne.symm q2
    have i3 : c ≠ I := Nat.ne_of_lt lI.2.2.2.2.2.2.1
    have i4 : cd ≠ I := Nat.ne_of_lt lI.2.2.2.2.2.2.2.1
    have i5 : mx ≠ I := Nat.ne_of_lt lI.2.2.2.2.2.2.2.2.2.1
    have i6 : md ≠ I := Nat.ne_of_lt lI.2.2.2.2.2.2.2.2.2.2.1
    refine unrEnd_wo (by assumption) N9 (by k_mem) ⟨wo_mem (by k_mem) (by simpa using Nat.ne_of_lt i1), rfl, gone ++ [a], _, by rw [e1, List.append_assoc]; rfl, by rw [left_snoc]; assumption, wo_mem (by k_mem) (by simpa using i2), wo_mem (by k_mem) (by simpa using i3), wo_mem (by k_mem) (by simpa using i4), wo_mem (by k_mem) (by simpa using i5), wo_mem (by k_mem) (by simpa using i6), fun q hq => wo_mem (by simp [hq]) (by simpa using Nat.ne_of_lt (hall q hq))⟩
  case done =>
    intro o n' hj h tk2 F N
    obtain ⟨gone, od', e1, hd', m1, m2, m3, m4, m5, m6⟩ := hj
    have hR := fun r hr => hrows r hr
    have hpm := left_perm (kept := srows.take cap.toNat) (gone := gone) hkn (by rw [show gone = srows.drop cap.toNat by rw [e1]; simp]; exact hprm)
    have hlen : ((kvsOf (left rows gone)).length : Int) = cap := by
      have := hpm.length_eq
      simp only [kvsOf, List.length_map, this, List.length_take]; omega
    have hg : gone = srows.drop cap.toNat := by rw [e1]; simp
    have N1 := news_cons N m1 (news_cons N m2 (news_cons N m3 (news_cons N m4 (news_cons N m5 (news_mono (news' := R) N m6)))))
    clear N e1
    k_steps
    with_reducible rename News _ _ _ _ => N9
    subst hg
    exact K _ _ od' srows (by assumption) hperm hord hd' (news_cons N9 (.head _) (news_mono N9 fun q hq => by have := hback q hq; simp only [List.mem_cons] at this ⊢; rcases this with e | e <;> simp [e]))
end Mine1
end
section
open PySem PySem.W PyProof.Rows
namespace Mine1
open MineS MineP
set_option maxRecDepth 100000
set_option maxHeartbeats 8000000
local macro_rules | `(tactic| k_all) => `(tactic| first | assumption)
local macro_rules | `(tactic| k_ne) => `(tactic| (refine neN ?_; (try dsimp only); first | assumption | (apply Ne.symm; assumption)))
local macro_rules | `(tactic| k_room) => `(tactic| ((try simp only [depth_under_make, depth_under_kw, depth_in1, depth_deeper, depth_caller]); show _ < 1000; omega))
local macro_rules | `(tactic| walk_at "delItem ref") => `(tactic| (k_dflt (refine' delItem_own ?k1 ?k2 ?k3 ?k4 ?k5 ?k6 ?_; (case k1 => k_asm); (case k2 => k_asm); (case k3 => k_inst); (case k4 => k_is); (case k5 => k_is); (case k6 => k_is); k_whole)))
variable {w : World} {A₀ : Around} {d u : Nat} {gs : Option (List Code)} {nm : List (Str × NameKind)} {mo : List (Str × PySem.Const)} {gl : Addr} {cl : List (Str × Addr)} {ql : Str} {fn : Option Addr} {co : Value} {bi : Addr} {outer : List Env}
  {base h₀ : Heap} {L : Addr} {s : Shared} {m mg mb : Str → Option Value} {mean : ExcName → Option Value} {loose : List Str} {p : Program} {news : List (Addr × Obj)} {Q : Value → Shared → Prop} {E : Value → Shared → Prop} {keep : List Addr}
/-- the cache's state in the ledger -/
structure CS (w : World) (keep : List Addr) (news : List (Addr × Obj)) (c cd dd mx md : Addr) (n cap thr : Int) (al : Value) (held : Bool) (rows : List (Row Str)) : Prop where
  hc : ∃ t tc tt, (c, cacheObj cd dd mx n t (.int cap tc) al (.int thr tt)) ∈ news
  hcd : (cd, dictOf [] 0) ∈ news
  hdd : ∃ od, (dd, od) ∈ news ∧ od.IsDictOf (PySem.strKind PySem.Challenge.rw_eu0033_01.row.prog w) (kvsOf rows)
  hmx : (mx, lockObj md) ∈ news
  hmd : ∃ hs hk, (md, heldDict hs hk held) ∈ news
  hrows : RowsIn news rows
  hkt : ∀ r ∈ rows, ∃ kt, r.kv = .str r.key kt
  hval : ∀ r ∈ rows, ∃ v t, r.val = .int v t
  hkn : (rows.map (·.key)).Nodup
  hnd : (rows.map (·.ctr)).Nodup
  hle : ∀ r ∈ rows, r.ctr ≤ n
  hlen : rows.length ≤ 60
  n2 : cd ≠ dd
  n7 : md ≠ dd
  n8 : md ≠ cd
  lo : (dd == sysModules) = false
  hoff : ∀ r ∈ rows, r.lst ∉ keep
theorem CS.mono {c cd dd mx md : Addr} {n cap thr : Int} {al : Value} {b : Bool} {rows : List (Row Str)} {news news' : List (Addr × Obj)} (C : CS w keep news c cd dd mx md n cap thr al b rows) (h : ∀ q ∈ news, q ∈ news') : CS w keep news' c cd dd mx md n cap thr al b rows where
  hc := let ⟨t, tc, tt, q⟩ := C.hc; ⟨t, tc, tt, h _ q⟩
  hcd := h _ C.hcd
  hdd := let ⟨od, q, r⟩ := C.hdd; ⟨od, h _ q, r⟩
  hmx := h _ C.hmx
  hmd := let ⟨a, b, q⟩ := C.hmd; ⟨a, b, h _ q⟩
  hrows := fun r hr => ⟨h _ (C.hrows r hr).1, h _ (C.hrows r hr).2⟩
  hkt := C.hkt
  hval := C.hval
  hkn := C.hkn
  hnd := C.hnd
  hle := C.hle
  hlen := C.hlen
  n2 := C.n2
  n7 := C.n7
  n8 := C.n8
  lo := C.lo
  hoff := C.hoff
def AlertOK (w : World) (keep : List Addr) (f c cd dd mx md hl : Addr) (cap thr : Int) (X : List (Addr × Obj)) (HP : Obj → Prop) (Eff : Obj → Int → List (Row Str) → Obj → Int → List (Row Str) → Prop) : Prop :=
  ∀ {A₀ : Around} {d u : Nat} {gs : Option (List Code)} {nm : List (Str × NameKind)} {mo : List (Str × PySem.Const)} {gl : Addr} {cl : List (Str × Addr)} {ql : Str} {fn : Option Addr} {co : Value} {bi : Addr} {outer : List Env}
    {base h₀ : Heap} {L : Addr} {s : Shared} {m mg mb : Str → Option Value} {mean : ExcName → Option Value} {loose : List Str} {p : Program} {news : List (Addr × Obj)} {Q : Value → Shared → Prop} {E : Value → Shared → Prop} {n : Int} {rows : List (Row Str)} {oh : Obj},
    d ≤ 360 → u ≤ 8000 → Below A₀ base outer h₀ → (hd.heap_39 w.params).In base → Top p loose mean mg mb base → KtsDicts (outer.filterMap (·.frame)) h₀ → (hd.heap_39 w.params).In h₀ → Top p loose mean mg mb h₀ → Fr h₀ L s.heap m → News h₀ L s.heap news →
    CS w keep news c cd dd mx md n cap thr (.ref f) true rows → rows.length ≤ 50 → (hl, oh) ∈ news → HP oh → (∀ k ∈ keep, ∃ o, (k, o) ∈ news) → (∀ q ∈ X, q ∈ news) →
    (∀ h' tk' h₀' news' oh' n' rows', Back A₀ base outer (hd.heap_39 w.params) p loose mean mg mb h₀ L m h' news' h₀' → CS w keep news' c cd dd mx md n' cap thr (.ref f) true rows' → (hl, oh') ∈ news' → Eff oh n rows oh' n' rows' →
      (∀ q ∈ news, q.1 ≠ c → q.1 ≠ dd → q.1 ≠ hl → q ∈ news') → Q .none { s with heap := h', toks := tk' }) →
    wpAny (model PySem.Challenge.rw_eu0033_01.row.prog w) (AA d u gs nm mo gl cl ql fn co bi L outer) (call (.ref f) [.ref c]) Q E s
theorem left_sub {α : Type} [DecidableEq α] (rows gone : List (Row α)) : (left rows gone).Sublist rows := List.filter_sublist
theorem CS.left {c cd dd mx md : Addr} {n cap thr : Int} {al : Value} {b b' : Bool} {rows gone : List (Row Str)} {news news' : List (Addr × Obj)} {od' : Obj} {hs : Int} {hk : Tok} (C : CS w keep news c cd dd mx md n cap thr al b rows) (hd' : od'.IsDictOf (PySem.strKind PySem.Challenge.rw_eu0033_01.row.prog w) (kvsOf (left rows gone)))
    (h1 : (dd, od') ∈ news') (h2 : (md, heldDict hs hk b') ∈ news') (h3 : (cd, dictOf [] 0) ∈ news') (h4 : (mx, lockObj md) ∈ news') {t tc tt : Tok} (h5 : (c, cacheObj cd dd mx n t (.int cap tc) al (.int thr tt)) ∈ news')
    (h6 : RowsIn news' rows) : CS w keep news' c cd dd mx md n cap thr al b' (left rows gone) where
  hc := ⟨t, tc, tt, h5⟩
  hcd := h3
  hdd := ⟨od', h1, hd'⟩
  hmx := h4
  hmd := ⟨hs, hk, h2⟩
  hrows := fun r hr => h6 r ((left_sub rows gone).subset hr)
  hkt := fun r hr => C.hkt r ((left_sub rows gone).subset hr)
  hval := fun r hr => C.hval r ((left_sub rows gone).subset hr)
  hkn := C.hkn.sublist ((left_sub rows gone).map _)
  hnd := C.hnd.sublist ((left_sub rows gone).map _)
  hle := fun r hr => C.hle r ((left_sub rows gone).subset hr)
  hlen := Nat.le_trans (left_sub rows gone).length_le C.hlen
  n2 := C.n2
  n7 := C.n7
  n8 := C.n8
  lo := C.lo
  hoff := fun r hr => C.hoff r ((left_sub rows gone).subset hr)
end Mine1
end
section
open PySem PySem.W PyProof.Rows
namespace Mine1
open MineS MineP
set_option maxRecDepth 100000
set_option maxHeartbeats 8000000
local macro_rules | `(tactic| k_all) => `(tactic| first | assumption)
local macro_rules | `(tactic| k_ne) => `(tactic| (refine neN ?_; (try dsimp only); first | assumption | (apply Ne.symm; assumption)))
local macro_rules | `(tactic| k_room) => `(tactic| ((try simp only [depth_under_make, depth_under_kw, depth_in1, depth_deeper, depth_caller]); show _ < 1000; omega))
local macro_rules | `(tactic| walk_at "delItem ref") => `(tactic| (k_dflt (refine' delItem_own ?k1 ?k2 ?k3 ?k4 ?k5 ?k6 ?_; (case k1 => k_asm); (case k2 => k_asm); (case k3 => k_inst); (case k4 => k_is); (case k5 => k_is); (case k6 => k_is); k_whole)))
variable {w : World} {A₀ : Around} {d u : Nat} {gs : Option (List Code)} {nm : List (Str × NameKind)} {mo : List (Str × PySem.Const)} {gl : Addr} {cl : List (Str × Addr)} {ql : Str} {fn : Option Addr} {co : Value} {bi : Addr} {outer : List Env}
  {base h₀ : Heap} {L : Addr} {s : Shared} {m mg mb : Str → Option Value} {mean : ExcName → Option Value} {loose : List Str} {p : Program} {news : List (Addr × Obj)} {Q : Value → Shared → Prop} {E : Value → Shared → Prop} {keep : List Addr}
local macro_rules | `(tactic| walk_at "subscriptTail") => `(tactic| ((with_reducible show wpAny _ _ (subscriptTail _ _ (Value.ref _) (Value.str _ _)) _ _ _); k_dflt (refine item_missing (knd := PySem.strKind _ _) (by k_asm) (by k_mem) (by k_asm) (by k_asm) (strKind_is _ _ _ _) (by rfl) (by assumption) ?_); intro h' e' x'))
local macro_rules | `(tactic| walk_at "call builtin:dict.get") => `(tactic| (k_dflt (refine kdg_get1 (knd := PySem.strKind _ _) (by k_asm) (by k_mem) (by k_asm) (by k_asm) (strKind_is _ _ _ _) _ (by assumption) ?_); (try dsimp only [Option.getD])))
local macro_rules | `(tactic| walk_at "getItem ref str") => `(tactic| (k_dflt (refine kdt_getItem (knd := PySem.strKind _ _) (by k_asm) (by k_mem) (by k_asm) (strKind_is _ _ _ _) (by assumption) ?_)))
local macro_rules | `(tactic| walk_at "getItem ref str") => `(tactic| (k_dflt (refine getItem_missing (knd := PySem.strKind _ _) (by k_asm) (by k_mem) (by k_asm) (by k_asm) (strKind_is _ _ _ _) (by rfl) (by assumption) ?_); intro h' e' x'))
local macro_rules | `(tactic| walk_at "delItem ref str") => `(tactic| (k_dflt (refine' kob_del (knd := PySem.strKind _ _) ?F ?N ?U ?d (strKind_is _ _ _ _) ?l ?z ?_; (case F => k_asm); (case N => k_asm); (case U => k_updF); (case d => k_asm); (case l => assumption); (case z => rw [sizeLine_eq]; omega)); intro h' o' F' N' hd'; (try dsimp only at N')))
local macro_rules | `(tactic| walk_at "delItem ref str") => `(tactic| (k_dflt (refine delItem_missing (knd := PySem.strKind _ _) (by k_asm) (by k_mem) (by k_asm) (by k_asm) (strKind_is _ _ _ _) (by rfl) (by assumption) ?_); intro h' e' x'))
local macro_rules | `(tactic| walk_at "enterS") => `(tactic| (refine wpAny_call ?_; (refine' call_SK ?k1 ?k2 ?k3 ?k4 ?k5 ?XB ?TB ?D ?kA ?kf ?kK ?k6 ?k7 ?k8 ?k9 ?kB ?_ ?c2 ?c3 ?c4 ?c5; (case kA => exact rfl); (case kf => exact rfl); (case kK => exact rfl); (case k1 => k_asm); (case k2 => k_asm); (case k3 => k_asm); (case k4 => k_asm); (case k5 => k_asm); (case XB => assumption); (case TB => assumption); (case D => assumption); (case k6 => k_is); (case k7 => k_is); (case k8 => k_room); (case k9 => first | exact binds_K (by k_in) rfl (by k_is) rfl rfl rfl | exact BindsTo.of_eq rfl); (case kB => exact locs rfl); (case c2 => exact rfl); (case c3 => exact rfl); (case c4 => exact rfl); (case c5 => decide); intro g' L' h' F' N' B' X' T' D'; (try dsimp only); (try k_lift B'); (try k_fold))))
local macro_rules | `(tactic| walk_at "LeaveX") => `(tactic| (k_dflt (refine' leaveX_ ?F ?N ?T ?_; (case F => k_asm); (case N => k_asm); (case T => first | assumption | exact KtsTurn.refl); k_whole); intro h₀' b'; (try dsimp only)))
local macro_rules | `(tactic| walk_at "call ref") => `(tactic| (k_dflt (first
  | (refine' release_ ?k1 ?k2 ?k3 ?k4 ?k5 ?k6 ?k7 ?k8 ?_; (case k1 => (try simp only [depth_deeper]); omega); (case k2 => k_asm); (case k3 => k_asm); (case k4 => k_asm); (case k5 => k_asm); (case k6 => k_asm); (case k8 => k_mem); (case k7 => k_updF); k_whole; intro h' tk' F' N'; (try dsimp only at N'))
  | (refine' acquire_free ?k1 ?k2 ?k3 ?k4 ?k5 ?k6 ?k7 ?k8 ?_; (case k1 => (try simp only [depth_deeper]); omega); (case k2 => k_asm); (case k3 => k_asm); (case k4 => k_asm); (case k5 => k_asm); (case k6 => k_asm); (case k8 => k_mem); (case k7 => k_updF); k_whole; intro h' tk' F' N'; (try dsimp only at N'))); (try k_sweep)))
local macro_rules | `(tactic| walk_at "call builtin:len") => `(tactic| ((with_reducible show wpAny _ _ (call (Value.builtin "len") [Value.ref _]) _ _ _); k_dflt (refine kda_len (knd := PySem.strKind _ _) (by k_asm) (by k_mem) (by k_asm) (by k_asm) (by omega) ?_)))
local macro_rules | `(tactic| walk_at "call ref") => `(tactic| (k_dflt (refine' ig_new ?k1 ?k2 ?k3 ?k4 ?k5 ?k6 ?_; (case k1 => (try simp only [depth_deeper]); omega); (case k2 => k_asm); (case k3 => k_asm); (case k4 => k_asm); (case k5 => k_asm); (case k6 => k_asm); k_whole; intro h' tk' ig' igd' it' F' N' l1 l2 l3; (try k_lt l1); (try k_lt2 l2); (try k_lt2 l3)); (try k_sweep)))
local macro_rules | `(tactic| walk_at "call type:bool") => `(tactic| ((with_reducible rename News _ _ _ _ => N3); k_dflt (refine call_bool_fn (typeIs_at N3 (by k_mem) (by rfl)) ?_)))
local macro_rules | `(tactic| walk_at "exec For") => `(tactic| (k_here; (rename Fr _ _ _ _ => lF'); (with_unfolding_all refine' For_invVF lF' ?k1 ?k2 ?_; (case k1 => exact rfl); (case k2 => exact rfl); k_whole)))
local macro_rules | `(tactic| walk_at "pyIter ref") => `(tactic| ((with_reducible show wpAny _ _ (pyIter (Value.ref _)) (fun it s₂ => LoopAtV _ _ _ _ _ _ _ _ _ it s₂) _ _); ((rename Fr _ _ _ _ => lF'); (rename News _ _ _ _ => lN'); (with_unfolding_all refine iter_listUnr (vs := (slicePick _ _ _ _).toList) (by rfl) lF' lN' (by k_mem) (by rfl) (by rfl) ?_); intro i' l1; (try k_lt l1))))
local macro_rules | `(tactic| walk_at "WhlIf") => `(tactic| first | (refine WhlIf.no (by simp; omega) ?_) | (refine WhlIf.yes (by simp; omega) ?_))
theorem method_slot {prog : Program} {A : Around} {K : Frag} {x C : Addr} {ox : Obj} {od : Option Obj} {name : Str} {pl : Sem Bool} {QM : Value × List Value → Shared → Prop} {pd : Addr} (F : Fr h₀ L s.heap m) (X₀ : K.In h₀) (I : InstAt s.heap x ox C od) (hga : findIn K (.ref C) "__getattribute__" = some (some (.builtin "object.__getattribute__"))) (hk : findIn K (.ref C) "__getattr__" = some none)
    (hf : findIn K (.ref C) name = some (some (.ref pd))) (ht : typeIn K (.ref pd) = some (.type "member_descriptor"))
    (h : wpAny (model prog w) A (getAttr (.ref x) name) (fun v => QM (v, [])) E s) : wpAny (model prog w) A (getMethod (.ref x) name pl) QM E s := method_usual (X₀.keeps F.keep) I hga hk hf (by rw [Option.all_some, ht]; decide +kernel) h
local macro_rules | `(tactic| walk_at "FnAt") => `(tactic| (k_dflt (exact FnAt.of (by k_asm) (by k_mem))))
local macro_rules | `(tactic| walk_at "callWith ref") => `(tactic| (k_dflt (refine' callWith_F ?k1 ?_; (case k1 => exact FnAt.of (by k_asm) (by k_mem)); k_whole)))
local macro_rules | `(tactic| walk_at "getMethod ref") => `(tactic| (k_dflt (refine' method_slot ?k1 ?k2 ?k3 ?k4 ?k5 ?k6 ?k7 ?_; (case k1 => k_asm); (case k2 => k_asm); (case k3 => k_inst); (case k4 => k_is); (case k5 => k_is); (case k6 => k_is); (case k7 => k_is); k_whole)))
variable {f c cd dd mx md hl tup lst : Addr} {n : Int} {cap thr : Int} {oh : Obj} {fd : FuncData} {fod : Option Addr} {fsl : Array (Option Value)} {XI : List (Addr × Obj)} {HP : Obj → Prop} {Eff : Obj → Int → List (Row Str) → Obj → Int → List (Row Str) → Prop} {rows : List (Row Str)}

theorem manage_clear_f (hal : AlertOK w keep f c cd dd mx md hl cap thr XI HP Eff) : d ≤ 350 → u ≤ 7000 → Below A₀ base outer h₀ → (hd.heap_39 w.params).In base → Top p loose mean mg mb base → KtsDicts (outer.filterMap (·.frame)) h₀ → (hd.heap_39 w.params).In h₀ → Top p loose mean mg mb h₀ → Fr h₀ L s.heap m → News h₀ L s.heap news →
    CS w keep news c cd dd mx md n cap thr (.ref f) false rows → rows.length ≤ 50 → (hl, oh) ∈ news → HP oh → (∀ k ∈ keep, ∃ o, (k, o) ∈ news) → (∀ q ∈ XI, q ∈ news) → (∀ q ∈ XI, q.1 ≠ md) → hl ≠ md → hl ≠ dd → hl ≠ c → (f, (⟨.type "function", fod, .func fd, fsl⟩ : Obj)) ∈ news → 0 ≤ cap → cap ≤ 4 → 0 ≤ thr → thr ≤ 2 → cap + cap * thr < (rows.length : Int) →
    (∀ h' tk' h₀' news' oh' n' (rows1 srows : List (Row Str)), Back A₀ base outer (hd.heap_39 w.params) p loose mean mg mb h₀ L m h' news' h₀' → srows.Perm rows1 → srows.Pairwise (fun a b : Row Str => b.ctr < a.ctr) → CS w keep news' c cd dd mx md n' cap thr (.ref f) false (left rows1 (srows.drop cap.toNat)) → (hl, oh') ∈ news' → Eff oh n rows oh' n' rows1 →
      (∀ q ∈ news, q.1 ≠ c → q.1 ≠ dd → q.1 ≠ hl → q.1 ≠ md → q ∈ news') → Q .none { s with heap := h', toks := tk' }) →
    wpAny (model PySem.Challenge.rw_eu0033_01.row.prog w) (AA d u gs nm mo gl cl ql fn co bi L outer) (call (.ref 174) [.ref c]) Q E s := by
  k_fill
  intro hdp hu B XB TB D X T F N C hl50 hh hHP hkp hX hXm g1 g2' g3 hf c0 c4 t0 t2 hle K
  obtain ⟨⟨t, tc, tt, h1⟩, h2, ⟨od, h3, hdi⟩, h4, ⟨hs, hk, h5⟩, hrows, hkt, hval, hkn, hnd, hnl, hlen, n2, n7, n8, lo, hoff⟩ := id C
  have hc := dict_cls hdi
  have n6 : dd ≠ c := news_nec N h3 h1 (by rw [hc]; simp)
  have n1 : cd ≠ c := news_nec N h2 h1 (by simp)
  have n3 : mx ≠ c := news_nec N h4 h1 (by simp)
  have n4 : mx ≠ dd := news_nec N h4 h3 (by rw [hc]; simp)
  have n5 : md ≠ c := news_nec N h5 h1 (by simp)
  have n9 : md ≠ mx := news_nec N h5 h4 (by simp)
  have nf : f ≠ md := news_nec N hf h5 (by simp)
  have hf' := wo_mem (xs := [md]) hf (by simpa using nf)
  have hh' := wo_mem (xs := [md]) hh (by simpa using g1)
  have hR1 : ∀ q ∈ wo [md] news, q.1 ≠ md := wo_ne (by simp)
  have hkl : (kvsOf rows).length = rows.length := by simp [kvsOf]
  have hct : 0 ≤ cap * thr := Int.mul_nonneg c0 t0
  have N1 := news_cons N hf (news_cons N h1 (news_cons N h2 (news_cons N h3 (news_cons N h4 (news_cons N h5 (news_mono (news' := wo [md] news) N fun _ h => wo_sub h))))))
  have hrows' : RowsIn (wo [md] news) rows := fun r hr => by
    obtain ⟨q1, q2⟩ := hrows r hr
    have e1 := news_nec N q1 h5 (by simp)
    have e3 := news_nec N q2 h5 (by simp)
    exact ⟨wo_mem q1 (by simpa using e1), wo_mem q2 (by simpa using e3)⟩
  have hX' : ∀ q ∈ XI, q ∈ wo [md] news := fun q hq => wo_mem (hX q hq) (by simpa using hXm q hq)
  have hfr : ∀ q ∈ news, q.1 ≠ md → q ∈ wo [md] news := fun q hq e => wo_mem hq (by simpa using e)
  have hkp' : ∀ k ∈ keep, k = md ∨ ∃ o, (k, o) ∈ wo [md] news := fun k hk => by
    obtain ⟨o, ho⟩ := hkp k hk
    by_cases e : k = md
    · exact .inl e
    · exact .inr ⟨o, hfr _ ho e⟩
  generalize wo [md] news = R at *
  clear N h1 h2 h3 h4 h5 hf hh hrows hkp
  walk_at "enterS"
  k_steps
  unfold AlertOK at hal
  have C1 : CS w keep ((f, (⟨.type "function", fod, .func fd, fsl⟩ : Obj)) :: (c, cacheObj cd dd mx n t (.int cap tc) (.ref f) (.int thr tt)) :: (cd, dictOf [] 0) :: (dd, od) :: (mx, lockObj md) :: (md, heldDict hs hk true) :: R) c cd dd mx md n cap thr (.ref f) true rows :=
    { C with hc := ⟨_, _, _, by k_mem⟩, hcd := by k_mem, hdd := ⟨_, by k_mem, hdi⟩, hmx := by k_mem, hmd := ⟨_, _, by k_mem⟩, hrows := fun r hr => ⟨by have := (hrows' r hr).1; simp [this], by have := (hrows' r hr).2; simp [this]⟩ }
  k_dflt (refine' hal (n := n) (rows := rows) (oh := oh) ?k1 ?ku ?k2 ?k3 ?k4 ?k5 ?k6 ?k7 ?k8 ?k9 C1 hl50 ?kb hHP ?kp ?kc ?_)
  case k1 => (try simp only [depth_deeper]); omega
  case ku => (simp only [AA]; omega)
  case k2 => k_asm
  case k3 => k_asm
  case k4 => k_asm
  case k5 => k_asm
  case k6 => k_asm
  case k7 => k_asm
  case k8 => k_asm
  case k9 => k_asm
  case kb => simp [hh']
  case kp =>
    intro k hk
    rcases hkp' k hk with rfl | ⟨o, ho⟩
    · exact ⟨_, by k_mem⟩
    · exact ⟨o, by simp [ho]⟩
  case kc => exact fun q hq => by simp [hX' q hq]
  k_whole
  intro h2' tk2' g2 news2 oh2 n2' rows2 Bk C2 hh2 heff hfr2
  obtain ⟨KT, F2, N2, B2, X2, T2, D2⟩ := Bk
  obtain ⟨⟨t2', tc2, tt2, h12⟩, h22, ⟨od2, h32, hdi2⟩, h42, ⟨hs2, hk2, h52⟩, hrows2, hkt2, hval2, hkn2, hnd2, hnl2, hlen2, -⟩ := id C2
  have hc2 := dict_cls hdi2
  have hR12 : ∀ q ∈ wo [md, dd] news2, q.1 ≠ md := wo_ne (by simp)
  have hR22 : ∀ q ∈ wo [md, dd] news2, q.1 ≠ dd := wo_ne (by simp)
  have hrows2' : ∀ r ∈ rows2, (r.tup, r.tupO) ∈ wo [md, dd] news2 ∧ (r.lst, r.lstO) ∈ wo [md, dd] news2 := fun r hr => by
    obtain ⟨q1, q2⟩ := hrows2 r hr
    have e1 := news_nec N2 q1 h52 (by simp)
    have e2 := news_nec N2 q1 h32 (by rw [hc2]; simp)
    have e3 := news_nec N2 q2 h52 (by simp)
    have e4 := news_nec N2 q2 h32 (by rw [hc2]; simp)
    exact ⟨wo_mem q1 (by simp [e1, e2]), wo_mem q2 (by simp [e3, e4])⟩
  have hh2' : (hl, oh2) ∈ wo [md, dd] news2 := wo_mem hh2 (by simp [g1, g2'])
  have hfr2' : ∀ q ∈ news2, q.1 ≠ md → q.1 ≠ dd → q ∈ wo [md, dd] news2 := fun q hq e1 e2 => wo_mem hq (by simp [e1, e2])
  have N3 := news_cons N2 h12 (news_cons N2 h22 (news_cons N2 h32 (news_cons N2 h42 (news_cons N2 h52 (news_mono (news' := wo [md, dd] news2) N2 fun _ h => wo_sub h)))))
  generalize wo [md, dd] news2 = R2 at *
  clear N2 h12 h22 h32 h42 h52 hrows2
  have hkl2 : (kvsOf rows2).length = rows2.length := by simp [kvsOf]
  k_steps
  (with_unfolding_all show wpAny _ _ (call (Value.builtin "sorted") [Value.ref _] [(Str.ofString "key", Value.ref _), (Str.ofString "reverse", Value.bool true)]) _ _ _)
  k_dflt (refine' sorted_rows (rows := rows2) (knd := PySem.strKind _ _) ?k1 ?ku ?k2 ?k3 ?k4 ?k5 ?k6 ?k7 ?k8 ?k9 ?ka ?kb ?kc ?kd ?ke ?kf ?_)
  case k1 => (try simp only [depth_deeper]); omega
  case ku => (simp only [AA]; omega)
  case k2 => k_asm
  case k3 => k_asm
  case k4 => k_asm
  case k5 => k_asm
  case k6 => k_asm
  case k7 => k_mem
  case k8 => k_mem
  case k9 => k_asm
  case ka => exact fun r hr => ⟨by have := (hrows2' r hr).1; simp [this], by have := (hrows2' r hr).2; simp [this]⟩
  case kb => assumption
  case kc => assumption
  case kd => k_mem
  case ke => k_mem
  case kf => k_mem
  k_whole
  intro h' tk' D ep srows F' N' l1 hperm hord
  k_lt l1
  have hsl := hperm.length_eq
  k_steps
  have hpick : (slicePick (List.map (fun r : Row Str => Value.ref r.tup) srows).toArray (some cap) none none).toList = (srows.drop cap.toNat).map fun r => Value.ref r.tup := by
    obtain ⟨k, hk0⟩ : ∃ k : Nat, cap = (k : Int) := ⟨cap.toNat, by omega⟩
    rw [hk0, slicePick_from' _ k]
    simp
  rename_i hx lF lN I lI
  rw [hpick]
  have hall : ∀ q ∈ R2, q.1 < I := allLt_mem lI.2.2.2.2.2.2.2.2.2.2.2
  have hprm : (srows.take cap.toNat ++ srows.drop cap.toNat).Perm rows2 := by rw [List.take_append_drop]; exact hperm
  refine listRest_rows (J := fun rs n' => ∃ gone od', srows.drop cap.toNat = gone ++ rs ∧ od'.IsDictOf (PySem.strKind PySem.Challenge.rw_eu0033_01.row.prog w) (kvsOf (left rows2 gone)) ∧ (dd, od') ∈ n' ∧ (c, cacheObj cd dd mx n2' t2' (.int cap tc2) (.ref f) (.int thr tt2)) ∈ n' ∧ (cd, dictOf [] 0) ∈ n' ∧ (mx, lockObj md) ∈ n' ∧ (md, heldDict hs2 hk2 true) ∈ n' ∧ ∀ q ∈ R2, q ∈ n') (by rfl) ?step ?done _ _ (by k_mem) ⟨[], od2, rfl, by rw [left_nil]; exact hdi2, by k_mem, by k_mem, by k_mem, by k_mem, by k_mem, fun q hq => by simp [hq]⟩
  case step =>
    intro a r n' hlp hj o it h tk2 hc F N
    obtain ⟨gone, od', e1, hd', m1, m2, m3, m4, m5, m6⟩ := hj
    have ha : a ∈ left rows2 gone := left_mem hkn2 (by rw [← e1]; exact hprm)
    have har : a ∈ rows2 := (List.mem_filter.mp ha).1
    have hv : (valueAt (kvsOf (left rows2 gone)) a.key).isSome = true := rows_value ha
    obtain ⟨kt, hkt2'⟩ := hkt2 a har
    have hR := hrows2' a har
    have m7 : (a.tup, ({ cls := .type "tuple", data := .seq [.str a.key kt, a.val, .ref a.lst].toArray } : Obj)) ∈ n' := by
      have := m6 _ hR.1; simpa only [Row.tupO, hkt2'] using this
    have q1 : a.tup ≠ dd := hR22 _ hR.1
    have q2 : I ≠ dd := Nat.ne_of_gt lI.2.2.2.2.2.2.2.2.1
    have q4 := news_nec N (.tail _ hlp) (.tail _ m1) (by rw [dict_cls hd']; simp)
    (try dsimp only at q4)
    have hz3 : (kvsOf (left rows2 gone)).length ≤ 60 := by
      have := List.length_filter_le (fun r : Row Str => decide (r.key ∉ gone.map (·.key))) rows2
      simp only [kvsOf, left, List.length_map]; omega
    have N1 := news_cons N (.head _) (news_cons N (.tail _ hlp) (news_cons N (.tail _ m1) (news_cons N (.tail _ m2) (news_cons N (.tail _ m3) (news_cons N (.tail _ m4) (news_cons N (.tail _ m5) (news_cons N (.tail _ m7) (news_mono (news' := R2) N fun q hq => .tail _ (m6 q hq)))))))))
    clear N
    k_steps
    with_reducible rename News _ _ _ _ => N9
    have i1 := lI.1
    (try dsimp only at i1)
    have i2 : dd ≠ I := Ne.symm q2
    have i3 : c ≠ I := Nat.ne_of_lt lI.2.2.2.2.2.2.1
    have i4 : cd ≠ I := Nat.ne_of_lt lI.2.2.2.2.2.2.2.1
    have i5 : mx ≠ I := Nat.ne_of_lt lI.2.2.2.2.2.2.2.2.2.1
    have i6 : md ≠ I := Nat.ne_of_lt lI.2.2.2.2.2.2.2.2.2.2.1
    refine unrEnd_wo (by assumption) N9 (by k_mem) ⟨wo_mem (by k_mem) (by simpa using Nat.ne_of_lt i1), rfl, gone ++ [a], _, by rw [e1, List.append_assoc]; rfl, by rw [left_snoc]; assumption, wo_mem (by k_mem) (by simpa using i2), wo_mem (by k_mem) (by simpa using i3), wo_mem (by k_mem) (by simpa using i4), wo_mem (by k_mem) (by simpa using i5), wo_mem (by k_mem) (by simpa using i6), fun q hq => wo_mem (by simp [hq]) (by simpa using Nat.ne_of_lt (hall q hq))⟩
  case done =>
    intro o n' hj h tk2 F N
    obtain ⟨gone, od', e1, hd', m1, m2, m3, m4, m5, m6⟩ := hj
    have hR := fun r hr => hrows2' r hr
    have hpm := left_perm (kept := srows.take cap.toNat) (gone := gone) hkn2 (by rw [show gone = srows.drop cap.toNat by rw [e1]; simp]; exact hprm)
    have hlen9 : ((kvsOf (left rows2 gone)).length : Int) ≤ cap := by
      have := hpm.length_eq
      simp only [kvsOf, List.length_map, this, List.length_take]; omega
    have hg : gone = srows.drop cap.toNat := by rw [e1]; simp
    have N1 := news_cons N m1 (news_cons N m2 (news_cons N m3 (news_cons N m4 (news_cons N m5 (news_mono (news' := R2) N m6)))))
    clear N e1
    k_steps
    with_reducible rename News _ _ _ _ => N9
    subst hg
    rename_i gB bB
    have hin : ∀ q ∈ R2, q ∈ _ := fun q hq => (by simp [hq] : q ∈ (dd, od') :: (c, cacheObj cd dd mx n2' t2' (.int cap tc2) (.ref f) (.int thr tt2)) :: (cd, dictOf [] 0) :: (mx, lockObj md) :: (md, heldDict hs2 hk2 false) :: R2)
    refine K _ _ _ _ oh2 n2' rows2 srows bB hperm hord ?_ (hin _ hh2') heff ?_
    · exact CS.left C2 hd' (.head _) (by k_mem) (by k_mem) (by k_mem) (by k_mem) fun r hr => ⟨hin _ (hrows2' r hr).1, hin _ (hrows2' r hr).2⟩
    · intro q hq e1 e2 e3 e4
      exact hin _ (hfr2' q (hfr2 q (by simp [hfr q hq e4]) e1 e2 e3) e4 e2)
end Mine1
end
section
open PySem PySem.W PyProof.Rows
namespace Mine1
open MineS MineP
set_option maxRecDepth 100000
set_option maxHeartbeats 8000000
local macro_rules | `(tactic| k_all) => `(tactic| first | assumption)
local macro_rules | `(tactic| k_ne) => `(tactic| (refine neN ?_; (try dsimp only); first | assumption | (apply Ne.symm; assumption)))
local macro_rules | `(tactic| k_room) => `(tactic| ((try simp only [depth_under_make, depth_under_kw, depth_in1, depth_deeper, depth_caller]); show _ < 1000; omega))
local macro_rules | `(tactic| walk_at "delItem ref") => `(tactic| (k_dflt (refine' delItem_own ?k1 ?k2 ?k3 ?k4 ?k5 ?k6 ?_; (case k1 => k_asm); (case k2 => k_asm); (case k3 => k_inst); (case k4 => k_is); (case k5 => k_is); (case k6 => k_is); k_whole)))
variable {w : World} {A₀ : Around} {d u : Nat} {gs : Option (List Code)} {nm : List (Str × NameKind)} {mo : List (Str × PySem.Const)} {gl : Addr} {cl : List (Str × Addr)} {ql : Str} {fn : Option Addr} {co : Value} {bi : Addr} {outer : List Env}
  {base h₀ : Heap} {L : Addr} {s : Shared} {m mg mb : Str → Option Value} {mean : ExcName → Option Value} {loose : List Str} {p : Program} {news : List (Addr × Obj)} {Q : Value → Shared → Prop} {E : Value → Shared → Prop} {keep : List Addr}
local macro_rules | `(tactic| walk_at "enterS") => `(tactic| (refine wpAny_call ?_; (refine' call_SK ?k1 ?k2 ?k3 ?k4 ?k5 ?XB ?TB ?D ?kA ?kf ?kK ?k6 ?k7 ?k8 ?k9 ?kB ?_ ?c2 ?c3 ?c4 ?c5; (case kA => exact rfl); (case kf => exact rfl); (case kK => exact rfl); (case k1 => k_asm); (case k2 => k_asm); (case k3 => k_asm); (case k4 => k_asm); (case k5 => k_asm); (case XB => assumption); (case TB => assumption); (case D => assumption); (case k6 => k_is); (case k7 => k_is); (case k8 => k_room); (case k9 => first | exact binds_K (by k_in) rfl (by k_is) rfl rfl rfl | exact BindsTo.of_eq rfl); (case kB => exact locs rfl); (case c2 => exact rfl); (case c3 => exact rfl); (case c4 => exact rfl); (case c5 => decide); intro g' L' h' F' N' B' X' T' D'; (try dsimp only); (try k_lift B'); (try k_fold))))
local macro_rules | `(tactic| walk_at "LeaveX") => `(tactic| (k_dflt (refine' leaveX_ ?F ?N ?T ?_; (case F => k_asm); (case N => k_asm); (case T => first | assumption | exact KtsTurn.refl); k_whole); intro h₀' b'; (try dsimp only)))
theorem back_refl {K : Frag} {h' : Heap} (B : Below A₀ base outer h₀) (X : K.In h₀) (T : Top p loose mean mg mb h₀) (D : KtsDicts (outer.filterMap (·.frame)) h₀) (F : Fr h₀ L h' m) (N : News h₀ L h' news) :
    Back A₀ base outer K p loose mean mg mb h₀ L m h' news h₀ := ⟨KtsTurn.refl, F, N, B, X, T, D⟩
def putRow {α : Type} [DecidableEq α] (rows : List (Row α)) (r : Row α) : List (Row α) := if rows.any (fun x => x.key = r.key) then rows.map (fun x => if x.key = r.key then r else x) else rows ++ [r]
theorem kvs_put {α : Type} [DecidableEq α] (rows : List (Row α)) (r : Row α) : kvsOf (putRow rows r) = stored (kvsOf rows) r.key (.ref r.tup) := by
  unfold putRow stored kvsOf
  have e : (List.map (fun x : Row α => (x.key, Value.ref x.tup)) rows).any (fun kv => decide (kv.1 = r.key)) = rows.any (fun x => decide (x.key = r.key)) := by
    rw [List.any_map]; rfl
  rw [e]
  split
  · rw [List.map_map, List.map_map]
    refine List.map_congr_left fun x _ => ?_
    simp only [Function.comp]
    split <;> rename_i h
    · rw [h]
    · rfl
  · simp
theorem put_mem {α : Type} [DecidableEq α] {rows : List (Row α)} {r x : Row α} (h : x ∈ putRow rows r) : x = r ∨ (x ∈ rows ∧ x.key ≠ r.key) := by
  unfold putRow at h
  split at h
  · obtain ⟨y, hy, rfl⟩ := List.mem_map.mp h
    split
    · exact .inl rfl
    · rename_i hne; exact .inr ⟨hy, hne⟩
  · rename_i hn
    rcases List.mem_append.mp h with h | h
    · refine .inr ⟨h, fun e => hn (List.any_eq_true.mpr ⟨x, h, by simpa using e⟩)⟩
    · exact .inl (List.mem_singleton.mp h)
theorem put_keys {α : Type} [DecidableEq α] {rows : List (Row α)} {r : Row α} (h : (rows.map (·.key)).Nodup) : ((putRow rows r).map (·.key)).Nodup := by
  unfold putRow
  split
  · have e : (rows.map (fun x => if x.key = r.key then r else x)).map (·.key) = rows.map (·.key) := by
      rw [List.map_map]
      refine List.map_congr_left fun x _ => ?_
      simp only [Function.comp]
      split <;> rename_i h
      · rw [h]
      · rfl
    rw [e]; exact h
  · rename_i hn
    rw [List.map_append, List.nodup_append]
    refine ⟨h, by simp, fun a ha b hb => ?_⟩
    obtain ⟨x, hx, rfl⟩ := List.mem_map.mp ha
    obtain ⟨y, hy, rfl⟩ := List.mem_map.mp hb
    rw [List.mem_singleton.mp hy]
    intro e
    exact hn (List.any_eq_true.mpr ⟨x, hx, by simpa using e⟩)
theorem put_ctrs {α : Type} [DecidableEq α] {rows : List (Row α)} {r : Row α} {n : Int} (hk : (rows.map (·.key)).Nodup) (h : (rows.map (·.ctr)).Nodup) (hle : ∀ x ∈ rows, x.ctr ≤ n) (hr : r.ctr = n + 1) : ((putRow rows r).map (·.ctr)).Nodup := by
  unfold putRow
  split
  · rename_i hy
    clear hy
    induction rows with
    | nil => exact .nil
    | cons x xs ih =>
      simp only [List.map_cons, List.nodup_cons] at hk h ⊢
      refine ⟨?_, ih hk.2 h.2 fun y hy => hle y (.tail _ hy)⟩
      intro hm
      obtain ⟨z, hz, e⟩ := List.mem_map.mp hm
      obtain ⟨y, hy, rfl⟩ := List.mem_map.mp hz
      have hyl := hle y (.tail _ hy)
      have hxl := hle x (.head _)
      by_cases e1 : x.key = r.key
      · by_cases e2 : y.key = r.key
        · exact hk.1 (List.mem_map.mpr ⟨y, hy, by rw [e1, e2]⟩)
        · simp only [e1, e2, if_true, if_false] at e; omega
      · by_cases e2 : y.key = r.key
        · simp only [e1, e2, if_true, if_false] at e; omega
        · simp only [e1, e2, if_false] at e
          exact h.1 (List.mem_map.mpr ⟨y, hy, e⟩)
  · rw [List.map_append, List.nodup_append]
    refine ⟨h, by simp, fun a ha b hb => ?_⟩
    obtain ⟨x, hx, rfl⟩ := List.mem_map.mp ha
    obtain ⟨y, hy, rfl⟩ := List.mem_map.mp hb
    rw [List.mem_singleton.mp hy]
    have := hle x hx
    omega
theorem put_len {α : Type} [DecidableEq α] (rows : List (Row α)) (r : Row α) : (putRow rows r).length ≤ rows.length + 1 := by
  unfold putRow
  split <;> simp
def MPost (f : Addr) (cap thr : Int) (al : Value) (Eff : Obj → Int → List (Row Str) → Obj → Int → List (Row Str) → Prop) (oh : Obj) (n : Int) (rows : List (Row Str)) (oh' : Obj) (n' : Int) (rows' : List (Row Str)) : Prop :=
  ((rows.length : Int) ≤ cap + cap * thr ∧ oh' = oh ∧ n' = n ∧ rows' = rows) ∨
  (cap + cap * thr < (rows.length : Int) ∧ ∃ rows1 srows : List (Row Str), (al = .none → oh' = oh ∧ n' = n ∧ rows1 = rows) ∧ (al = .ref f → Eff oh n rows oh' n' rows1) ∧ srows.Perm rows1 ∧ srows.Pairwise (fun a b => b.ctr < a.ctr) ∧ rows' = left rows1 (srows.drop cap.toNat))
variable {f c cd dd mx md hl : Addr} {n : Int} {al : Value} {cap thr : Int} {oh : Obj} {fd : FuncData} {fod : Option Addr} {fsl : Array (Option Value)} {XI : List (Addr × Obj)} {HP : Obj → Prop} {Eff : Obj → Int → List (Row Str) → Obj → Int → List (Row Str) → Prop} {rows : List (Row Str)}
theorem manage_cs (hal : al = .none ∨ al = .ref f ∧ AlertOK w keep f c cd dd mx md hl cap thr XI HP Eff) : d ≤ 350 → u ≤ 7000 → Below A₀ base outer h₀ → (hd.heap_39 w.params).In base → Top p loose mean mg mb base → KtsDicts (outer.filterMap (·.frame)) h₀ → (hd.heap_39 w.params).In h₀ → Top p loose mean mg mb h₀ → Fr h₀ L s.heap m → News h₀ L s.heap news →
    CS w keep news c cd dd mx md n cap thr al false rows → rows.length ≤ 50 → (hl, oh) ∈ news → HP oh → (∀ k ∈ keep, ∃ o, (k, o) ∈ news) → (∀ q ∈ XI, q ∈ news) → (∀ q ∈ XI, q.1 ≠ md) → hl ≠ md → hl ≠ dd → hl ≠ c → (f, (⟨.type "function", fod, .func fd, fsl⟩ : Obj)) ∈ news → 0 ≤ cap → cap ≤ 4 → 0 ≤ thr → thr ≤ 2 →
    (∀ h' tk' h₀' news' oh' n' (rows' : List (Row Str)), Back A₀ base outer (hd.heap_39 w.params) p loose mean mg mb h₀ L m h' news' h₀' → CS w keep news' c cd dd mx md n' cap thr al false rows' → (hl, oh') ∈ news' → MPost f cap thr al Eff oh n rows oh' n' rows' →
      (∀ q ∈ news, q.1 ≠ c → q.1 ≠ dd → q.1 ≠ hl → q.1 ≠ md → q ∈ news') → Q .none { s with heap := h', toks := tk' }) →
    wpAny (model PySem.Challenge.rw_eu0033_01.row.prog w) (AA d u gs nm mo gl cl ql fn co bi L outer) (call (.ref 174) [.ref c]) Q E s := by
  intro hdp hu B XB TB D X T F N C hl50 hh hHP hkp hX hXm g1 g2 g3 hf c0 c4 t0 t2 K
  have C0 := C
  obtain ⟨⟨t, tc, tt, h1⟩, h2, ⟨od, h3, hdi⟩, h4, ⟨hs, hk, h5⟩, hrows, hkt, hval, hkn, hnd, hnl, hlen, n2, n7, n8, lo, hoff⟩ := C
  have hkl : (kvsOf rows).length = rows.length := by simp [kvsOf]
  by_cases hle : cap + cap * thr < (rows.length : Int)
  · rcases hal with rfl | ⟨rfl, hal⟩
    · refine manage_clear_none (L := L) rfl (by omega) (by omega) B X T F N h1 h2 h3 n2 hdi rfl hrows hkt hkn hnd hlen lo h4 h5 n7 n8 c0 c4 t0 t2 (by omega) fun h' tk' od' srows F' hp ho hd' N' => ?_
      have e1 : (hl, oh) ∈ wo [dd] news := wo_mem hh (by simpa using g2)
      have up : ∀ q ∈ news, q.1 ≠ dd → q ∈ (dd, od') :: wo [dd] news := fun q hq e => .tail _ (wo_mem hq (by simpa using e))
      have hc := dict_cls hdi
      refine K h' tk' h₀ _ oh n _ (back_refl B X T D F' N') (CS.left C0 hd' (.head _) (up _ h5 n7) (up _ h2 n2) (up _ h4 ?_) (up _ h1 ?_) fun r hr => ⟨up _ (hrows r hr).1 ?_, up _ (hrows r hr).2 ?_⟩) (.tail _ e1) (.inr ⟨hle, rows, srows, fun _ => ⟨rfl, rfl, rfl⟩, fun e => (by cases e), hp, ho, rfl⟩) fun q hq e1 e2 e3 e4 => up q hq e2
      · exact news_nec N h4 h3 (by rw [hc]; simp)
      · exact news_nec N h1 h3 (by rw [hc]; simp)
      · exact news_nec N (hrows r hr).1 h3 (by rw [hc]; simp)
      · exact news_nec N (hrows r hr).2 h3 (by rw [hc]; simp)
    · exact manage_clear_f (L := L) hal hdp hu B XB TB D X T F N C0 hl50 hh hHP hkp hX hXm g1 g2 g3 hf c0 c4 t0 t2 hle fun h' tk' h₀' news' oh' n' rows1 srows bk hp ho C2 hh2 he hfr =>
        K h' tk' h₀' news' oh' n' _ bk C2 hh2 (.inr ⟨hle, rows1, srows, fun e => (by cases e), fun _ => he, hp, ho, rfl⟩) hfr
  · have hle' : (rows.length : Int) ≤ cap + cap * thr := by omega
    rcases hal with rfl | ⟨rfl, hal⟩
    · exact manage_fit (L := L) rfl (by omega) B X T F N h1 h2 h3 n2 hdi (by omega) lo h4 h5 n7 n8 c0 c4 t0 t2 (by omega) fun h' tk' F' N' =>
        K h' tk' h₀ news oh n rows (back_refl B X T D F' N') C0 hh (.inl ⟨hle', rfl, rfl, rfl⟩) fun q hq _ _ _ _ => hq
    · exact manage_fit_f (L := L) rfl (by omega) B X T F N h1 h2 h3 n2 hdi (by omega) lo hf rfl h4 h5 n7 n8 c0 c4 t0 t2 (by omega) fun h' tk' F' N' =>
        K h' tk' h₀ news oh n rows (back_refl B X T D F' N') C0 hh (.inl ⟨hle', rfl, rfl, rfl⟩) fun q hq _ _ _ _ => hq
end Mine1
end
section
open PySem PySem.W PyProof.Rows
namespace Mine1
open MineS
set_option maxRecDepth 100000
set_option maxHeartbeats 8000000
local macro_rules | `(tactic| k_all) => `(tactic| first | assumption)
local macro_rules | `(tactic| k_ne) => `(tactic| (refine neN ?_; (try dsimp only); first | assumption | (apply Ne.symm; assumption)))
local macro_rules | `(tactic| k_room) => `(tactic| ((try simp only [depth_under_make, depth_under_kw, depth_in1, depth_deeper, depth_caller]); show _ < 1000; omega))
local macro_rules | `(tactic| walk_at "delItem ref") => `(tactic| (k_dflt (refine' delItem_own ?k1 ?k2 ?k3 ?k4 ?k5 ?k6 ?_; (case k1 => k_asm); (case k2 => k_asm); (case k3 => k_inst); (case k4 => k_is); (case k5 => k_is); (case k6 => k_is); k_whole)))
variable {w : World} {A₀ : Around} {d u : Nat} {gs : Option (List Code)} {nm : List (Str × NameKind)} {mo : List (Str × PySem.Const)} {gl : Addr} {cl : List (Str × Addr)} {ql : Str} {fn : Option Addr} {co : Value} {bi : Addr} {outer : List Env}
  {base h₀ : Heap} {L : Addr} {s : Shared} {m mg mb : Str → Option Value} {mean : ExcName → Option Value} {loose : List Str} {p : Program} {news : List (Addr × Obj)} {Q : Value → Shared → Prop} {E : Value → Shared → Prop} {keep : List Addr}
local macro_rules | `(tactic| walk_at "subscriptTail") => `(tactic| ((with_reducible show wpAny _ _ (subscriptTail _ _ (Value.ref _) (Value.str _ _)) _ _ _); k_dflt (refine item_missing (knd := PySem.strKind _ _) (by k_asm) (by k_mem) (by k_asm) (by k_asm) (strKind_is _ _ _ _) (by rfl) (by assumption) ?_); intro h' e' x'))
local macro_rules | `(tactic| walk_at "call builtin:dict.get") => `(tactic| (k_dflt (refine kdg_get1 (knd := PySem.strKind _ _) (by k_asm) (by k_mem) (by k_asm) (by k_asm) (strKind_is _ _ _ _) _ (by assumption) ?_); (try dsimp only [Option.getD])))
local macro_rules | `(tactic| walk_at "getItem ref str") => `(tactic| (k_dflt (refine kdt_getItem (knd := PySem.strKind _ _) (by k_asm) (by k_mem) (by k_asm) (strKind_is _ _ _ _) (by assumption) ?_)))
local macro_rules | `(tactic| walk_at "getItem ref str") => `(tactic| (k_dflt (refine getItem_missing (knd := PySem.strKind _ _) (by k_asm) (by k_mem) (by k_asm) (by k_asm) (strKind_is _ _ _ _) (by rfl) (by assumption) ?_); intro h' e' x'))
local macro_rules | `(tactic| walk_at "delItem ref str") => `(tactic| (k_dflt (refine' kob_del (knd := PySem.strKind _ _) ?F ?N ?U ?d (strKind_is _ _ _ _) ?l ?z ?_; (case F => k_asm); (case N => k_asm); (case U => k_updF); (case d => k_asm); (case l => assumption); (case z => rw [sizeLine_eq]; omega)); intro h' o' F' N' hd'; (try dsimp only at N')))
local macro_rules | `(tactic| walk_at "delItem ref str") => `(tactic| (k_dflt (refine delItem_missing (knd := PySem.strKind _ _) (by k_asm) (by k_mem) (by k_asm) (by k_asm) (strKind_is _ _ _ _) (by rfl) (by assumption) ?_); intro h' e' x'))
local macro_rules | `(tactic| walk_at "enterS") => `(tactic| (refine wpAny_call ?_; (refine' call_SK ?k1 ?k2 ?k3 ?k4 ?k5 ?XB ?TB ?D ?kA ?kf ?kK ?k6 ?k7 ?k8 ?k9 ?kB ?_ ?c2 ?c3 ?c4 ?c5; (case kA => exact rfl); (case kf => exact rfl); (case kK => exact rfl); (case k1 => k_asm); (case k2 => k_asm); (case k3 => k_asm); (case k4 => k_asm); (case k5 => k_asm); (case XB => assumption); (case TB => assumption); (case D => assumption); (case k6 => k_is); (case k7 => k_is); (case k8 => k_room); (case k9 => first | exact binds_K (by k_in) rfl (by k_is) rfl rfl rfl | exact BindsTo.of_eq rfl); (case kB => exact locs rfl); (case c2 => exact rfl); (case c3 => exact rfl); (case c4 => exact rfl); (case c5 => decide); intro g' L' h' F' N' B' X' T' D'; (try dsimp only); (try k_lift B'); (try k_fold))))
local macro_rules | `(tactic| walk_at "LeaveX") => `(tactic| (k_dflt (refine' leaveX_ ?F ?N ?T ?_; (case F => k_asm); (case N => k_asm); (case T => first | assumption | exact KtsTurn.refl); k_whole); intro h₀' b'; (try dsimp only)))
local macro_rules | `(tactic| walk_at "call ref") => `(tactic| (k_dflt (first
  | (refine' inc_counter ?k1 ?k2 ?k3 ?k4 ?k5 ?k6 ?k7 ?k8 ?_; (case k1 => (try simp only [depth_deeper]); omega); (case k2 => k_asm); (case k3 => k_asm); (case k4 => k_asm); (case k5 => k_asm); (case k6 => k_asm); (case k7 => k_updF); (case k8 => k_mem); k_whole; intro h' tk' t' F' N'; (try dsimp only at N'))); (try k_sweep)))
local macro_rules | `(tactic| walk_at "setItem ref str") => `(tactic| (k_dflt (refine' kda_set (knd := PySem.strKind _ _) ?F ?N ?U ?d (strKind_is _ _ _ _) ?z ?_; (case F => k_asm); (case N => k_asm); (case U => k_updF); (case d => k_asm); (case z => rw [sizeLine_eq]; omega)); intro h' o' F' N' hd'; (try dsimp only at N')))
def Stop (P : Prop) : Prop := P
theorem stop {P : Prop} (h : Stop P) : P := h
local macro_rules | `(tactic| walk_at "call ref") => `(tactic| ((with_reducible show wpAny _ _ (call (Value.ref 174) _) _ _ _); refine stop ?_))
variable {f c cd dd mx md hl : Addr} {n : Int} {al : Value} {cap thr : Int} {oh : Obj} {fd : FuncData} {fod : Option Addr} {fsl : Array (Option Value)} {XI : List (Addr × Obj)} {HP : Obj → Prop} {Eff : Obj → Int → List (Row Str) → Obj → Int → List (Row Str) → Prop} {rows : List (Row Str)} {key : Str} {kt vt : Tok} {v : Int}

theorem cs_put {R : List (Addr × Obj)} {D l L2 : Addr} {t' tc tt hk : Tok} {hs : Int} {o : Obj} {g h : Heap} {b : Bool} (C : CS w keep news c cd dd mx md n cap thr al b rows) (hr : RowsIn R rows) (hd : o.IsDictOf (PySem.strKind PySem.Challenge.rw_eu0033_01.row.prog w) (stored (kvsOf rows) key (.ref D))) (hl : rows.length ≤ 50) (hnew : l ∉ keep)
    (_N : News g L2 h ((D, tupObj [.str key kt, .int v vt, .ref l]) :: (l, W.listOf #[.int (n + 1) t'] 0) :: (c, cacheObj cd dd mx (n + 1) t' (.int cap tc) al (.int thr tt)) :: (cd, dictOf [] 0) :: (dd, o) :: (mx, lockObj md) :: (md, heldDict hs hk b) :: R)) :
    CS w keep ((D, tupObj [.str key kt, .int v vt, .ref l]) :: (l, W.listOf #[.int (n + 1) t'] 0) :: (c, cacheObj cd dd mx (n + 1) t' (.int cap tc) al (.int thr tt)) :: (cd, dictOf [] 0) :: (dd, o) :: (mx, lockObj md) :: (md, heldDict hs hk b) :: R) c cd dd mx md (n + 1) cap thr al b (putRow rows ⟨key, .str key kt, .int v vt, n + 1, t', 0, D, l⟩) where
  hc := ⟨_, _, _, .tail _ (.tail _ (.head _))⟩
  hcd := .tail _ (.tail _ (.tail _ (.head _)))
  hdd := ⟨o, .tail _ (.tail _ (.tail _ (.tail _ (.head _)))), by rw [kvs_put]; exact hd⟩
  hmx := .tail _ (.tail _ (.tail _ (.tail _ (.tail _ (.head _)))))
  hmd := ⟨_, _, .tail _ (.tail _ (.tail _ (.tail _ (.tail _ (.tail _ (.head _))))))⟩
  hrows := fun x hx => by
    rcases put_mem hx with rfl | ⟨hx, -⟩
    · exact ⟨.head _, .tail _ (.head _)⟩
    · exact ⟨.tail _ (.tail _ (.tail _ (.tail _ (.tail _ (.tail _ (.tail _ (hr x hx).1)))))), .tail _ (.tail _ (.tail _ (.tail _ (.tail _ (.tail _ (.tail _ ((hr x hx).2)))))))⟩
  hkt := fun x hx => by
    rcases put_mem hx with rfl | ⟨hx, -⟩
    · exact ⟨kt, rfl⟩
    · exact C.hkt x hx
  hval := fun x hx => by
    rcases put_mem hx with rfl | ⟨hx, -⟩
    · exact ⟨v, vt, rfl⟩
    · exact C.hval x hx
  hkn := put_keys C.hkn
  hnd := put_ctrs C.hkn C.hnd C.hle rfl
  hle := fun x hx => by
    rcases put_mem hx with rfl | ⟨hx, -⟩
    · exact Int.le_refl _
    · have := C.hle x hx; omega
  hlen := Nat.le_trans (put_len _ _) (by omega)
  n2 := C.n2
  n7 := C.n7
  n8 := C.n8
  lo := C.lo
  hoff := fun x hx => by
    rcases put_mem hx with rfl | ⟨hx, -⟩
    · exact hnew
    · exact C.hoff x hx

theorem setitem_cs (hal : al = .none ∨ al = .ref f ∧ AlertOK w keep f c cd dd mx md hl cap thr XI HP Eff) : d ≤ 340 → u ≤ 6000 → Below A₀ base outer h₀ → (hd.heap_39 w.params).In base → Top p loose mean mg mb base → KtsDicts (outer.filterMap (·.frame)) h₀ → (hd.heap_39 w.params).In h₀ → Top p loose mean mg mb h₀ → Fr h₀ L s.heap m → News h₀ L s.heap news →
    CS w keep news c cd dd mx md n cap thr al false rows → rows.length ≤ 40 → (hl, oh) ∈ news → HP oh → (∀ k ∈ keep, ∃ o, (k, o) ∈ news) → (∀ q ∈ XI, q ∈ news) → (∀ q ∈ XI, q.1 ≠ md ∧ q.1 ≠ c ∧ q.1 ≠ dd) → hl ≠ md → hl ≠ dd → hl ≠ c → (f, (⟨.type "function", fod, .func fd, fsl⟩ : Obj)) ∈ news → 0 ≤ cap → cap ≤ 4 → 0 ≤ thr → thr ≤ 2 →
    (∀ h' tk' h₀' news' oh' n' (rows' : List (Row Str)) (r : Row Str), Back A₀ base outer (hd.heap_39 w.params) p loose mean mg mb h₀ L m h' news' h₀' → CS w keep news' c cd dd mx md n' cap thr al false rows' → (hl, oh') ∈ news' → r.key = key → r.ctr = n + 1 → r.val = .int v vt → MPost f cap thr al Eff oh (n + 1) (putRow rows r) oh' n' rows' →
      (∀ q ∈ news, q.1 ≠ c → q.1 ≠ dd → q.1 ≠ hl → q.1 ≠ md → q ∈ news') → Q .none { s with heap := h', toks := tk' }) →
    wpAny (model PySem.Challenge.rw_eu0033_01.row.prog w) (AA d u gs nm mo gl cl ql fn co bi L outer) (call (.ref 152) [.ref c, .str key kt, .int v vt]) Q E s := by
  k_fill
  intro hdp hu B XB TB D X T F N C hl5 hh hHP hkp hX hXm g1 g2 g3 hf c0 c4 t0 t2 K
  obtain ⟨⟨t, tc, tt, h1⟩, h2, ⟨od, h3, hdi⟩, h4, ⟨hs, hk, h5⟩, hrows, hkt, hval, hkn, hnd, hnl, hlen, n2, n7, n8, lo, hoff⟩ := id C
  have hc := dict_cls hdi
  have n6 : dd ≠ c := news_nec N h3 h1 (by rw [hc]; simp)
  have n1 : cd ≠ c := news_nec N h2 h1 (by simp)
  have n3 : mx ≠ c := news_nec N h4 h1 (by simp)
  have n4 : mx ≠ dd := news_nec N h4 h3 (by rw [hc]; simp)
  have n5 : md ≠ c := news_nec N h5 h1 (by simp)
  have nf1 : f ≠ c := news_nec N hf h1 (by simp)
  have nf2 : f ≠ dd := news_nec N hf h3 (by rw [hc]; simp)
  have hR1 : ∀ q ∈ wo [c, dd] news, q.1 ≠ dd := wo_ne (by simp)
  have hR2 : ∀ q ∈ wo [c, dd] news, q.1 ≠ c := wo_ne (by simp)
  have hkl : (kvsOf rows).length = rows.length := by simp [kvsOf]
  have hf' := wo_mem (xs := [c, dd]) hf (by simp [nf1, nf2])
  have hh' := wo_mem (xs := [c, dd]) hh (by simp [g2, g3])
  have hX' : ∀ q ∈ XI, q ∈ wo [c, dd] news := fun q hq => wo_mem (hX q hq) (by simp [(hXm q hq).2.1, (hXm q hq).2.2])
  have hXm' : ∀ q ∈ XI, q.1 ≠ md := fun q hq => (hXm q hq).1
  have hrows' : RowsIn (wo [c, dd] news) rows := fun r hr => by
    obtain ⟨q1, q2⟩ := hrows r hr
    have e1 := news_nec N q1 h1 (by simp)
    have e2 := news_nec N q1 h3 (by rw [hc]; simp)
    have e3 := news_nec N q2 h1 (by simp)
    have e4 := news_nec N q2 h3 (by rw [hc]; simp)
    exact ⟨wo_mem q1 (by simp [e1, e2]), wo_mem q2 (by simp [e3, e4])⟩
  have hfr : ∀ q ∈ news, q.1 ≠ c → q.1 ≠ dd → q ∈ wo [c, dd] news := fun q hq e1 e2 => wo_mem hq (by simp [e1, e2])
  have N1 : News h₀ L s.heap ((c, cacheObj cd dd mx n t (.int cap tc) al (.int thr tt)) :: (cd, dictOf [] 0) :: (dd, od) :: (mx, lockObj md) :: (md, heldDict hs hk false) :: wo [c, dd] news) :=
    news_cons N h1 (news_cons N h2 (news_cons N h3 (news_cons N h4 (news_cons N h5 (news_mono N fun _ h => wo_sub h)))))
  have hkp' : ∀ k ∈ keep, k = c ∨ k = dd ∨ ∃ o, (k, o) ∈ wo [c, dd] news := fun k hk => by
    obtain ⟨o, ho⟩ := hkp k hk
    by_cases e : k = c
    · exact .inl e
    · by_cases e2 : k = dd
      · exact .inr (.inl e2)
      · exact .inr (.inr ⟨o, hfr _ ho e e2⟩)
  generalize wo [c, dd] news = R at *
  clear N h1 h2 h3 h4 h5 hkp
  walk_at "enterS"
  k_steps
  unfold Stop
  with_reducible rename Obj.IsDictOf _ _ (stored _ _ _) => hd1
  with_reducible rename News _ _ _ _ => N9
  with_reducible rename _ ∧ _ => c1
  obtain ⟨q1, -⟩ := id c1
  clear c1
  with_reducible rename _ ∧ _ => c2
  have C2 := cs_put C hrows' hd1 (by omega) (by
    intro hm
    rcases hkp' _ hm with e | e | ⟨o, ho⟩
    · exact absurd c2.1 (by rw [e]; exact Nat.lt_irrefl _)
    · exact absurd c2.2.2.1 (by rw [e]; exact Nat.lt_irrefl _)
    · exact absurd (allLt_mem c2.2.2.2.2.2 _ ho) (Nat.lt_irrefl _)) N9
  k_dflt (refine' manage_cs (oh := oh) (fd := fd) (fod := fod) (fsl := fsl) hal ?k1 ?ku ?k2 ?k3 ?k4 ?k5 ?k6 ?k7 ?k8 ?k9 C2 ?kl ?kb hHP ?kp ?kc ?kd g1 g2 g3 ?ke c0 c4 t0 t2 ?_)
  case k1 => (try simp only [depth_deeper]); omega
  case ku => (simp only [AA]; omega)
  case k2 => k_asm
  case k3 => k_asm
  case k4 => k_asm
  case k5 => k_asm
  case k6 => k_asm
  case k7 => k_asm
  case k8 => k_asm
  case k9 => k_asm
  case kl => exact Nat.le_trans (put_len _ _) (by omega)
  case kb => simp [hh']
  case kp =>
    intro k hk
    rcases hkp' k hk with rfl | rfl | ⟨o, ho⟩
    · exact ⟨_, by k_mem⟩
    · exact ⟨_, by k_mem⟩
    · exact ⟨o, by simp [ho]⟩
  case kc => exact fun q hq => by simp [hX' q hq]
  case kd => exact hXm'
  case ke => simp [hf']
  k_whole
  intro h2' tk2' g2 news2 oh2 n2' rows2 Bk C3 hh2 hp hfr2
  obtain ⟨KT, F2, N2, B2, X2, T2, D2⟩ := Bk
  k_steps
  rename_i gB bB
  refine K _ _ _ _ oh2 n2' rows2 _ bB C3 hh2 ?_ ?_ ?_ hp fun q hq e1 e2 e3 e4 => hfr2 q (by simp [hfr q hq e1 e2]) e1 e2 e3 e4
  · rfl
  · rfl
  · rfl
end Mine1
end
section
open PySem PySem.W PyProof.Rows
namespace Mine1
open MineS MineP
set_option maxRecDepth 100000
set_option maxHeartbeats 8000000
local macro_rules | `(tactic| k_all) => `(tactic| first | assumption)
local macro_rules | `(tactic| k_ne) => `(tactic| (refine neN ?_; (try dsimp only); first | assumption | (apply Ne.symm; assumption)))
local macro_rules | `(tactic| k_room) => `(tactic| ((try simp only [depth_under_make, depth_under_kw, depth_in1, depth_deeper, depth_caller]); show _ < 1000; omega))
local macro_rules | `(tactic| walk_at "delItem ref") => `(tactic| (k_dflt (refine' delItem_own ?k1 ?k2 ?k3 ?k4 ?k5 ?k6 ?_; (case k1 => k_asm); (case k2 => k_asm); (case k3 => k_inst); (case k4 => k_is); (case k5 => k_is); (case k6 => k_is); k_whole)))
variable {w : World} {A₀ : Around} {d u : Nat} {gs : Option (List Code)} {nm : List (Str × NameKind)} {mo : List (Str × PySem.Const)} {gl : Addr} {cl : List (Str × Addr)} {ql : Str} {fn : Option Addr} {co : Value} {bi : Addr} {outer : List Env}
  {base h₀ : Heap} {L : Addr} {s : Shared} {m mg mb : Str → Option Value} {mean : ExcName → Option Value} {loose : List Str} {p : Program} {news : List (Addr × Obj)} {Q : Value → Shared → Prop} {E : Value → Shared → Prop} {keep : List Addr}
def touch {α : Type} [DecidableEq α] (rows : List (Row α)) (k : α) (n : Int) (t : Tok) : List (Row α) := rows.map fun x => if x.key = k then { x with ctr := n, ctok := t } else x
theorem touch_kvs {α : Type} [DecidableEq α] (rows : List (Row α)) (k : α) (n : Int) (t : Tok) : kvsOf (touch rows k n t) = kvsOf rows := by
  unfold kvsOf touch
  rw [List.map_map]
  refine List.map_congr_left fun x _ => ?_
  simp only [Function.comp]
  split <;> rfl
theorem touch_keys {α : Type} [DecidableEq α] (rows : List (Row α)) (k : α) (n : Int) (t : Tok) : (touch rows k n t).map (·.key) = rows.map (·.key) := by
  unfold touch
  rw [List.map_map]
  refine List.map_congr_left fun x _ => ?_
  simp only [Function.comp]
  split <;> rfl
theorem touch_ctrs {α : Type} [DecidableEq α] {rows : List (Row α)} {k : α} {n : Int} {t : Tok} (hk : (rows.map (·.key)).Nodup) (h : (rows.map (·.ctr)).Nodup) (hle : ∀ x ∈ rows, x.ctr ≤ n) : ((touch rows k (n + 1) t).map (·.ctr)).Nodup := by
  unfold touch
  induction rows with
  | nil => exact .nil
  | cons x xs ih =>
    simp only [List.map_cons, List.nodup_cons] at hk h ⊢
    refine ⟨?_, ih hk.2 h.2 fun y hy => hle y (.tail _ hy)⟩
    intro hm
    obtain ⟨z, hz, e⟩ := List.mem_map.mp hm
    obtain ⟨y, hy, rfl⟩ := List.mem_map.mp hz
    have hyl := hle y (.tail _ hy)
    have hxl := hle x (.head _)
    by_cases e1 : x.key = k
    · by_cases e2 : y.key = k
      · exact hk.1 (List.mem_map.mpr ⟨y, hy, by rw [e1, e2]⟩)
      · simp only [e1, e2, if_true, if_false] at e; omega
    · by_cases e2 : y.key = k
      · simp only [e1, e2, if_true, if_false] at e; omega
      · simp only [e1, e2, if_false] at e
        exact h.1 (List.mem_map.mpr ⟨y, hy, e⟩)
theorem rows_at {α : Type} [DecidableEq α] {rows : List (Row α)} {r : Row α} (hk : (rows.map (·.key)).Nodup) (hr : r ∈ rows) : valueAt (kvsOf rows) r.key = some (.ref r.tup) := by
  induction rows with
  | nil => cases hr
  | cons x xs ih =>
    simp only [List.map_cons, List.nodup_cons] at hk
    unfold valueAt kvsOf
    simp only [List.map_cons, List.find?_cons]
    rcases List.mem_cons.mp hr with rfl | hr
    · simp
    · have : x.key ≠ r.key := fun e => hk.1 (List.mem_map.mpr ⟨r, hr, e.symm⟩)
      simp only [this, decide_false]
      exact ih hk.2 hr
theorem rows_none {α : Type} [DecidableEq α] {rows : List (Row α)} {k : α} (h : ∀ r ∈ rows, r.key ≠ k) : valueAt (kvsOf rows) k = none := by
  unfold valueAt kvsOf
  rw [Option.map_eq_none_iff, List.find?_eq_none]
  intro x hx
  obtain ⟨r, hr, rfl⟩ := List.mem_map.mp hx
  simpa using h r hr
theorem key_inj {α : Type} {rows : List (Row α)} {x y : Row α} (hk : (rows.map (·.key)).Nodup) (hx : x ∈ rows) (hy : y ∈ rows) (e : x.key = y.key) : x = y := by
  induction rows with
  | nil => cases hx
  | cons z zs ih =>
    simp only [List.map_cons, List.nodup_cons] at hk
    rcases List.mem_cons.mp hx with h1 | hx <;> rcases List.mem_cons.mp hy with h2 | hy
    · rw [h1, h2]
    · exact absurd (List.mem_map.mpr ⟨y, hy, by rw [← e, h1]⟩) hk.1
    · exact absurd (List.mem_map.mpr ⟨x, hx, by rw [e, h2]⟩) hk.1
    · exact ih hk.2 hx hy
theorem ctr_inj {α : Type} {rows : List (Row α)} {x y : Row α} (hk : (rows.map (·.ctr)).Nodup) (hx : x ∈ rows) (hy : y ∈ rows) (e : x.ctr = y.ctr) : x = y := by
  induction rows with
  | nil => cases hx
  | cons z zs ih =>
    simp only [List.map_cons, List.nodup_cons] at hk
    rcases List.mem_cons.mp hx with h1 | hx <;> rcases List.mem_cons.mp hy with h2 | hy
    · rw [h1, h2]
    · exact absurd (List.mem_map.mpr ⟨y, hy, by rw [← e, h1]⟩) hk.1
    · exact absurd (List.mem_map.mpr ⟨x, hx, by rw [e, h2]⟩) hk.1
    · exact ih hk.2 hx hy
variable {c cd dd mx md : Addr} {n : Int} {al : Value} {cap thr : Int} {rows : List (Row Str)} {key : Str} {kt wt : Tok} {way : Int} {b : Bool}
theorem CS.sub {rows' : List (Row Str)} {news' : List (Addr × Obj)} {od' : Obj} {hs : Int} {hk : Tok} (C : CS w keep news c cd dd mx md n cap thr al b rows) (hsub : rows'.Sublist rows) (hd' : od'.IsDictOf (PySem.strKind PySem.Challenge.rw_eu0033_01.row.prog w) (kvsOf rows'))
    (h1 : (dd, od') ∈ news') (h2 : (md, heldDict hs hk b) ∈ news') (h3 : (cd, dictOf [] 0) ∈ news') (h4 : (mx, lockObj md) ∈ news') {t tc tt : Tok} (h5 : (c, cacheObj cd dd mx n t (.int cap tc) al (.int thr tt)) ∈ news')
    (h6 : RowsIn news' rows') : CS w keep news' c cd dd mx md n cap thr al b rows' where
  hc := ⟨t, tc, tt, h5⟩
  hcd := h3
  hdd := ⟨od', h1, hd'⟩
  hmx := h4
  hmd := ⟨hs, hk, h2⟩
  hrows := h6
  hkt := fun r hr => C.hkt r (hsub.subset hr)
  hval := fun r hr => C.hval r (hsub.subset hr)
  hkn := C.hkn.sublist (hsub.map _)
  hnd := C.hnd.sublist (hsub.map _)
  hle := fun r hr => C.hle r (hsub.subset hr)
  hlen := Nat.le_trans hsub.length_le C.hlen
  n2 := C.n2
  n7 := C.n7
  n8 := C.n8
  lo := C.lo
  hoff := fun r hr => C.hoff r (hsub.subset hr)
theorem asked_cs : d ≤ 390 → Below A₀ base outer h₀ → (hd.heap_39 w.params).In base → Top p loose mean mg mb base → KtsDicts (outer.filterMap (·.frame)) h₀ → (hd.heap_39 w.params).In h₀ → Top p loose mean mg mb h₀ → Fr h₀ L s.heap m → News h₀ L s.heap news →
    CS w keep news c cd dd mx md n cap thr al b rows →
    (∀ h' tk' h₀' news' n' (rows' : List (Row Str)) res, Back A₀ base outer (hd.heap_39 w.params) p loose mean mg mb h₀ L m h' news' h₀' → CS w keep news' c cd dd mx md n' cap thr al b rows' →
      ((∃ r t', r ∈ rows ∧ r.key = key ∧ res = r.val ∧ n' = n + 1 ∧ rows' = touch rows key (n + 1) t') ∨ ((∀ r ∈ rows, r.key ≠ key) ∧ (∃ t, res = .str (PySem.Str.ofString "none") t) ∧ n' = n ∧ rows' = rows)) →
      (∀ q ∈ news, q.1 ≠ c → (∀ r ∈ rows, q.1 ≠ r.lst) → q ∈ news') → Q res { s with heap := h', toks := tk' }) →
    wpAny (model PySem.Challenge.rw_eu0033_01.row.prog w) (AA d u gs nm mo gl cl ql fn co bi L outer) (call (.ref 200) [.ref c, .str key kt, .int way wt]) Q E s := by
  intro hdp B XB TB D X T F N C K
  have C0 := C
  obtain ⟨⟨t, tc, tt, h1⟩, h2, ⟨od, h3, hdi⟩, h4, ⟨hs, hk, h5⟩, hrows, hkt, hval, hkn, hnd, hnl, hlen, n2, n7, n8, lo, hoff⟩ := C
  by_cases hex : ∃ r ∈ rows, r.key = key
  · obtain ⟨r, hr, rfl⟩ := hex
    obtain ⟨q1, q2⟩ := hrows r hr
    refine asked_found (L := L) (by omega) B X T F N h1 h2 h3 hdi lo (rows_at hkn hr) q1 q2 fun h' tk' t' F' N' => ?_
    have hc := dict_cls hdi
    have e1 : ∀ q ∈ news, q.1 ≠ c → q.1 ≠ r.lst → q ∈ (c, cacheObj cd dd mx (n + 1) t' (.int cap tc) al (.int thr tt)) :: (r.lst, W.listOf #[.int (n + 1) t'] r.ep) :: wo [c, r.lst] news := fun q hq a1 a2 => .tail _ (.tail _ (wo_mem hq (by simp [a1, a2])))
    refine K h' tk' h₀ _ (n + 1) (touch rows r.key (n + 1) t') r.val (back_refl B X T D F' N') ?_ (.inl ⟨r, t', hr, rfl, rfl, rfl, rfl⟩) fun q hq a1 a2 => e1 q hq a1 (a2 r hr)
    refine { hc := ⟨_, _, _, .head _⟩, hcd := e1 _ h2 ?_ ?_, hdd := ⟨od, e1 _ h3 ?_ ?_, by rw [touch_kvs]; exact hdi⟩, hmx := e1 _ h4 ?_ ?_, hmd := ⟨_, _, e1 _ h5 ?_ ?_⟩, hrows := ?_, hkt := ?_, hval := ?_, hkn := by rw [touch_keys]; exact hkn, hnd := touch_ctrs hkn hnd hnl, hle := ?_, hlen := by simpa [touch] using hlen, n2 := n2, n7 := n7, n8 := n8, lo := lo, hoff := ?_ }
    · exact news_nec N h2 h1 (by simp)
    · exact news_nec N h2 q2 (by simp)
    · exact news_nec N h3 h1 (by rw [hc]; simp)
    · exact news_nec N h3 q2 (by rw [hc]; simp)
    · exact news_nec N h4 h1 (by simp)
    · exact news_nec N h4 q2 (by simp)
    · exact news_nec N h5 h1 (by simp)
    · exact news_nec N h5 q2 (by simp)
    · intro x hx
      obtain ⟨y, hy, rfl⟩ := List.mem_map.mp hx
      obtain ⟨p1, p2⟩ := hrows y hy
      by_cases e : y.key = r.key
      · have := key_inj hkn hy hr e
        subst this
        rw [if_pos rfl]
        exact ⟨e1 _ p1 (news_nec N p1 h1 (by simp)) (news_nec N p1 q2 (by simp)), .tail _ (.head _)⟩
      · rw [if_neg e]
        refine ⟨e1 _ p1 (news_nec N p1 h1 (by simp)) (news_nec N p1 q2 (by simp)), e1 _ p2 (news_nec N p2 h1 (by simp)) (news_ne N p2 q2 fun q => ?_)⟩
        have q' := congrArg Obj.data q
        simp only [W.listOf, Data.seq.injEq] at q'
        have q3 := congrArg Array.toList q'.1
        simp only [List.cons.injEq, Value.int.injEq] at q3
        exact e (congrArg Row.key (ctr_inj hnd hy hr q3.1.1))
    · intro x hx
      obtain ⟨y, hy, rfl⟩ := List.mem_map.mp hx
      obtain ⟨kt, e⟩ := hkt y hy
      split <;> exact ⟨kt, e⟩
    · intro x hx
      obtain ⟨y, hy, rfl⟩ := List.mem_map.mp hx
      obtain ⟨v, vt, e⟩ := hval y hy
      split <;> exact ⟨v, vt, e⟩
    · intro x hx
      obtain ⟨y, hy, rfl⟩ := List.mem_map.mp hx
      have := hnl y hy
      split <;> (try dsimp only) <;> omega
    · intro x hx
      obtain ⟨y, hy, rfl⟩ := List.mem_map.mp hx
      have := hoff y hy
      split <;> exact this
  · have hno : ∀ r ∈ rows, r.key ≠ key := fun r hr e => hex ⟨r, hr, e⟩
    exact asked_none (L := L) (by omega) B XB TB D X T F N h1 h2 h3 hdi lo (rows_none hno) fun h' tk' t' h₀' bk =>
      K h' tk' h₀' news n rows _ bk C0 (.inr ⟨hno, ⟨t', rfl⟩, rfl, rfl⟩) fun q hq _ _ => hq
theorem taken_cs : d ≤ 390 → Below A₀ base outer h₀ → (hd.heap_39 w.params).In base → Top p loose mean mg mb base → KtsDicts (outer.filterMap (·.frame)) h₀ → (hd.heap_39 w.params).In h₀ → Top p loose mean mg mb h₀ → Fr h₀ L s.heap m → News h₀ L s.heap news →
    CS w keep news c cd dd mx md n cap thr al b rows →
    (∀ h' tk' h₀' news' (rows' : List (Row Str)) res, Back A₀ base outer (hd.heap_39 w.params) p loose mean mg mb h₀ L m h' news' h₀' → CS w keep news' c cd dd mx md n cap thr al b rows' →
      res = decide (∃ r ∈ rows, r.key = key) → rows' = rows.filter (fun r => decide (r.key ≠ key)) →
      (∀ q ∈ news, q.1 ≠ dd → q ∈ news') → Q (.bool res) { s with heap := h', toks := tk' }) →
    wpAny (model PySem.Challenge.rw_eu0033_01.row.prog w) (AA d u gs nm mo gl cl ql fn co bi L outer) (call (.ref 207) [.ref c, .str key kt]) Q E s := by
  intro hdp B XB TB D X T F N C K
  have C0 := C
  obtain ⟨⟨t, tc, tt, h1⟩, h2, ⟨od, h3, hdi⟩, h4, ⟨hs, hk, h5⟩, hrows, hkt, hval, hkn, hnd, hnl, hlen, n2, n7, n8, lo, hoff⟩ := C
  have hkl : (kvsOf rows).length = rows.length := by simp [kvsOf]
  by_cases hex : ∃ r ∈ rows, r.key = key
  · obtain ⟨r, hr, rfl⟩ := id hex
    refine taken_found (L := L) (by omega) B X T F N h1 h2 h3 n2 hdi (rows_value hr) (by omega) fun h' tk' od' F' hd' N' => ?_
    have hc := dict_cls hdi
    have e1 : ∀ q ∈ news, q.1 ≠ dd → q ∈ (dd, od') :: wo [dd] news := fun q hq a1 => .tail _ (wo_mem hq (by simp [a1]))
    have e2 : without (kvsOf rows) r.key = kvsOf (rows.filter fun x => decide (x.key ≠ r.key)) := by
      have := without_rows rows (fun _ => true) r.key
      rw [List.filter_eq_self.mpr fun _ _ => rfl] at this
      simpa using this
    rw [e2] at hd'
    refine K h' tk' h₀ _ _ true (back_refl B X T D F' N') (CS.sub C0 List.filter_sublist hd' (.head _) (e1 _ h5 n7) (e1 _ h2 n2) (e1 _ h4 ?_) (e1 _ h1 ?_) fun x hx => ⟨e1 _ (hrows x (List.mem_filter.mp hx).1).1 ?_, e1 _ (hrows x (List.mem_filter.mp hx).1).2 ?_⟩) (by simpa using ⟨r, hr, rfl⟩) rfl e1
    · exact news_nec N h4 h3 (by rw [hc]; simp)
    · exact news_nec N h1 h3 (by rw [hc]; simp)
    · exact news_nec N (hrows x (List.mem_filter.mp hx).1).1 h3 (by rw [hc]; simp)
    · exact news_nec N (hrows x (List.mem_filter.mp hx).1).2 h3 (by rw [hc]; simp)
  · have hno : ∀ r ∈ rows, r.key ≠ key := fun r hr e => hex ⟨r, hr, e⟩
    have e2 : rows.filter (fun x => decide (x.key ≠ key)) = rows := List.filter_eq_self.mpr fun r hr => by simpa using hno r hr
    refine taken_none (L := L) (by omega) B XB TB D X T F N h1 h2 h3 hdi lo (rows_none hno) fun h' tk' h₀' bk =>
      K h' tk' h₀' news _ false bk (by rw [e2]; exact C0) (by simpa using hno) rfl fun q hq _ => hq
end Mine1
end
section
open PySem PySem.W PyProof.Rows
namespace Mine1
set_option maxRecDepth 100000
set_option maxHeartbeats 8000000
local macro_rules | `(tactic| k_all) => `(tactic| first | assumption)
local macro_rules | `(tactic| k_ne) => `(tactic| (refine neN ?_; (try dsimp only); first | assumption | (apply Ne.symm; assumption)))
local macro_rules | `(tactic| k_room) => `(tactic| ((try simp only [depth_under_make, depth_under_kw, depth_in1, depth_deeper, depth_caller]); show _ < 1000; omega))
local macro_rules | `(tactic| walk_at "delItem ref") => `(tactic| (k_dflt (refine' delItem_own ?k1 ?k2 ?k3 ?k4 ?k5 ?k6 ?_; (case k1 => k_asm); (case k2 => k_asm); (case k3 => k_inst); (case k4 => k_is); (case k5 => k_is); (case k6 => k_is); k_whole)))
variable {w : World} {A₀ : Around} {d u : Nat} {gs : Option (List Code)} {nm : List (Str × NameKind)} {mo : List (Str × PySem.Const)} {gl : Addr} {cl : List (Str × Addr)} {ql : Str} {fn : Option Addr} {co : Value} {bi : Addr} {outer : List Env}
  {base h₀ : Heap} {L : Addr} {s : Shared} {m mg mb : Str → Option Value} {mean : ExcName → Option Value} {loose : List Str} {p : Program} {news : List (Addr × Obj)} {Q : Value → Shared → Prop} {E : Value → Shared → Prop} {keep : List Addr}
variable {st sc : Addr} {pos seed many : Int} {tp ts tm : Tok} {ep ep2 : Nat} {vs : List Value} {ns : List Int}
theorem next_ : d ≤ 500 → Below A₀ base outer h₀ → (hd.heap_39 w.params).In h₀ → Top p loose mean mg mb h₀ → Fr h₀ L s.heap m → News h₀ L s.heap news →
    (st, listOf #[.ref sc, .int pos tp, .int seed ts] ep) ∈ news → (sc, listOf vs.toArray ep2) ∈ news → IntsAre vs ns → ns.length ≤ 70 → 0 ≤ pos → 0 ≤ seed → 0 < many → many ≤ 12 →
    (∀ h' tk' r t pos' tp' seed' ts', 0 ≤ r → r < many → 0 ≤ pos' → 0 ≤ seed' → Fr h₀ L h' m → News h₀ L h' ((st, listOf #[.ref sc, .int pos' tp', .int seed' ts'] ep) :: wo [st] news) → Q (.int r t) { s with heap := h', toks := tk' }) →
    wpAny (model PySem.Challenge.rw_eu0033_01.row.prog w) (AA d u gs nm mo gl cl ql fn co bi L outer) (call (.ref 193) [.ref st, .int many tm]) Q E s := by
  k_fill
  intro hdp B X T F N h1 h2 hi hl p0 s0 m0 m1 K
  have n1 : sc ≠ st := fun e => by
    subst e
    have q1 := (N _ h1).1
    have q2 := (N _ h2).1
    dsimp only at q1 q2
    rw [q1] at q2
    have := congrArg Obj.data (Option.some.inj q2)
    simp only [W.listOf, Data.seq.injEq] at this
    have e := congrArg Array.toList this.1
    simp only at e
    cases hi with
    | nil => simp at e
    | cons n t h => simp at e
  have hR : ∀ q ∈ wo [st] news, q.1 ≠ st := wo_ne (by simp)
  have h3 := wo_mem (xs := [st]) h2 (by simp [n1])
  have N1 := news_cons N h1 (news_cons N h2 (news_mono (news' := wo [st] news) N fun _ h => wo_sub h))
  generalize wo [st] news = R at *
  clear N h1 h2
  k_steps
  all_goals (with_reducible rename News _ _ _ _ => N9)
  · refine K _ _ _ _ _ _ _ _ ?_ ?_ ?_ ?_ (by assumption) (news_cons N9 (.head _) (news_mono N9 fun q hq => by simp [hq]))
    · exact Int.fmod_nonneg_of_pos _ m0
    · exact Int.fmod_lt_of_pos _ m0
    · omega
    · exact Int.fmod_nonneg_of_pos _ (by decide)
  · refine K _ _ _ _ _ _ _ _ ?_ ?_ ?_ ?_ (by assumption) (news_cons N9 (.head _) (news_mono N9 fun q hq => by simp [hq]))
    · exact Int.fmod_nonneg_of_pos _ m0
    · exact Int.fmod_lt_of_pos _ m0
    · omega
    · exact Int.fmod_nonneg_of_pos _ (by decide)
theorem next_u {g : Obj → List (Addr × Obj)} : d ≤ 500 → Below A₀ base outer h₀ → (hd.heap_39 w.params).In h₀ → Top p loose mean mg mb h₀ → Fr h₀ L s.heap m → News h₀ L s.heap news →
    UpdF st (W.listOf #[.ref sc, .int pos tp, .int seed ts] ep) news g → (sc, W.listOf vs.toArray ep2) ∈ news → IntsAre vs ns → ns.length ≤ 70 → 0 ≤ pos → 0 ≤ seed → 0 < many → many ≤ 12 →
    (∀ h' tk' r t pos' tp' seed' ts', 0 ≤ r → r < many → 0 ≤ pos' → 0 ≤ seed' → Fr h₀ L h' m → News h₀ L h' (g (W.listOf #[.ref sc, .int pos' tp', .int seed' ts'] ep)) → Q (.int r t) { s with heap := h', toks := tk' }) →
    wpAny (model PySem.Challenge.rw_eu0033_01.row.prog w) (AA d u gs nm mo gl cl ql fn co bi L outer) (call (.ref 193) [.ref st, .int many tm]) Q E s := by
  intro hdp B X T F N U h2 hi hl p0 s0 m0 m1 K
  obtain ⟨R, hR, e1, e2⟩ := updF_front U
  refine next_ hdp B X T F N ((e1 _).mpr (.inl rfl)) h2 hi hl p0 s0 m0 m1 fun h' tk' r t pos' tp' seed' ts' a1 a2 a3 a4 F' N' => K h' tk' r t pos' tp' seed' ts' a1 a2 a3 a4 F' (news_mono N' fun q hq => ?_)
  rcases (e2 _ q).mp hq with rfl | h
  · exact .head _
  · exact .tail _ (wo_mem ((e1 q).mpr (.inr h)) (by simpa using hR q h))
end Mine1
end
section
open PySem PySem.W PyProof.Rows
namespace Mine1
open MineS MineP
set_option maxRecDepth 100000
set_option maxHeartbeats 8000000
local macro_rules | `(tactic| k_all) => `(tactic| first | assumption)
local macro_rules | `(tactic| k_ne) => `(tactic| (refine neN ?_; (try dsimp only); first | assumption | (apply Ne.symm; assumption)))
local macro_rules | `(tactic| k_room) => `(tactic| ((try simp only [depth_under_make, depth_under_kw, depth_in1, depth_deeper, depth_caller]); show _ < 1000; omega))
local macro_rules | `(tactic| walk_at "delItem ref") => `(tactic| (k_dflt (refine' delItem_own ?k1 ?k2 ?k3 ?k4 ?k5 ?k6 ?_; (case k1 => k_asm); (case k2 => k_asm); (case k3 => k_inst); (case k4 => k_is); (case k5 => k_is); (case k6 => k_is); k_whole)))
variable {w : World} {A₀ : Around} {d u : Nat} {gs : Option (List Code)} {nm : List (Str × NameKind)} {mo : List (Str × PySem.Const)} {gl : Addr} {cl : List (Str × Addr)} {ql : Str} {fn : Option Addr} {co : Value} {bi : Addr} {outer : List Env}
  {base h₀ : Heap} {L : Addr} {s : Shared} {m mg mb : Str → Option Value} {mean : ExcName → Option Value} {loose : List Str} {p : Program} {news : List (Addr × Obj)} {Q : Value → Shared → Prop} {E : Value → Shared → Prop} {keep : List Addr}
variable {c cd dd mx md : Addr} {n : Int} {al : Value} {cap thr : Int} {rows : List (Row Str)} {key : Str} {kt vt : Tok} {v : Int}
theorem setheld_cs : d ≤ 390 → Below A₀ base outer h₀ → (hd.heap_39 w.params).In h₀ → Top p loose mean mg mb h₀ → Fr h₀ L s.heap m → News h₀ L s.heap news →
    CS w keep news c cd dd mx md n cap thr al true rows → rows.length ≤ 50 → (∀ k ∈ keep, ∃ o, (k, o) ∈ news) →
    (∀ h' tk' news' (r : Row Str), Fr h₀ L h' m → News h₀ L h' news' → CS w keep news' c cd dd mx md (n + 1) cap thr al true (putRow rows r) → r.key = key → r.ctr = n + 1 → r.val = .int v vt →
      (∀ q ∈ news, q.1 ≠ c → q.1 ≠ dd → q ∈ news') → Q .none { s with heap := h', toks := tk' }) →
    wpAny (model PySem.Challenge.rw_eu0033_01.row.prog w) (AA d u gs nm mo gl cl ql fn co bi L outer) (call (.ref 152) [.ref c, .str key kt, .int v vt]) Q E s := by
  intro hdp B X T F N C hl5 hkp K
  have C0 := C
  obtain ⟨⟨t, tc, tt, h1⟩, h2, ⟨od, h3, hdi⟩, h4, ⟨hs, hk, h5⟩, hrows, hkt, hval, hkn, hnd, hnl, hlen, n2, n7, n8, lo, hoff⟩ := C
  have hkl : (kvsOf rows).length = rows.length := by simp [kvsOf]
  have hc := dict_cls hdi
  refine setitem_held (L := L) (by omega) B X T F N h1 h2 h3 n2 hdi (by omega) h4 h5 n7 fun h' tk' t' od' tup' lst' F' hd' hlt hlt2 N' => ?_
  have up : ∀ q ∈ news, q.1 ≠ c → q.1 ≠ dd → q ∈ wo [c, dd] news := fun q hq e1 e2 => wo_mem hq (by simp [e1, e2])
  have hR : RowsIn (wo [c, dd] news) rows := fun r hr => by
    obtain ⟨q1, q2⟩ := hrows r hr
    exact ⟨up _ q1 (news_nec N q1 h1 (by simp)) (news_nec N q1 h3 (by rw [hc]; simp)), up _ q2 (news_nec N q2 h1 (by simp)) (news_nec N q2 h3 (by rw [hc]; simp))⟩
  have e2 := up _ h2 (news_nec N h2 h1 (by simp)) n2
  have e4 := up _ h4 (news_nec N h4 h1 (by simp)) (news_nec N h4 h3 (by rw [hc]; simp))
  have e5 := up _ h5 (news_nec N h5 h1 (by simp)) n7
  have hnew : lst' ∉ keep := fun hm => by
    obtain ⟨o, ho⟩ := hkp _ hm
    exact absurd (hlt _ ho) (Nat.lt_irrefl _)
  have N2 : News h₀ L h' ((tup', tupObj [.str key kt, .int v vt, .ref lst']) :: (lst', W.listOf #[.int (n + 1) t'] 0) :: (c, cacheObj cd dd mx (n + 1) t' (.int cap tc) al (.int thr tt)) :: (cd, dictOf [] 0) :: (dd, od') :: (mx, lockObj md) :: (md, heldDict hs hk true) :: wo [c, dd] news) :=
    news_cons N' (.tail _ (.tail _ (.head _))) (news_cons N' (.tail _ (.tail _ (.tail _ (.head _)))) (news_cons N' (.head _) (news_cons N' (.tail _ (.tail _ (.tail _ (.tail _ e2)))) (news_cons N' (.tail _ (.head _)) (news_cons N' (.tail _ (.tail _ (.tail _ (.tail _ e4)))) (news_cons N' (.tail _ (.tail _ (.tail _ (.tail _ e5)))) (news_mono N' fun q hq => .tail _ (.tail _ (.tail _ (.tail _ hq))))))))))
  exact K h' tk' _ _ F' N2 (cs_put C0 hR hd' hl5 hnew N2) rfl rfl rfl fun q hq a1 a2 => .tail _ (.tail _ (.tail _ (.tail _ (.tail _ (.tail _ (.tail _ (up q hq a1 a2)))))))
/-- len(cache) -/
theorem len_cs : d ≤ 500 → Below A₀ base outer h₀ → (hd.heap_39 w.params).In h₀ → Top p loose mean mg mb h₀ → Fr h₀ L s.heap m → News h₀ L s.heap news →
    CS w keep news c cd dd mx md n cap thr al true rows → True := fun _ _ _ _ _ _ _ => trivial
end Mine1
end
section
open PySem PySem.W PySem.Calls PyProof.Rows PyProof.Rows.LCg
namespace Mine1
set_option maxRecDepth 100000
set_option maxHeartbeats 4000000
section
variable {prog : Program} {w : World} {A : Around} {E : Value → Shared → Prop} {s : Shared} {h₀ : Heap} {L : Addr} {m : Str → Option Value} {env : Env}
/-- what a comprehension's own frame, its list and its iterator look like while it runs over a list of pairs -/
def PairSt (s₂ : Shared) (h₀ : Heap) (L : Addr) (m : Str → Option Value) (I C D ax : Addr) (its : Array Value) (news : List (Addr × Obj)) (ys : List Value) (i : Nat) (s' : Shared) : Prop :=
  ∃ h' tk m', s' = { s₂ with heap := h', toks := tk } ∧ (h'.IsListIter I ax i ∧ h'.IsList ax its) ∧ Fr h₀ L h' m ∧ h'.Ns C m' ∧ News h₀ L h' ((D, lst ys) :: news)

structure PairEnv (h₀ : Heap) (L I C D ax : Addr) (news : List (Addr × Obj)) : Prop where
  CL : C ≠ L
  DL : D ≠ L
  IL : L ≠ I
  DC : D ≠ C
  IC : I ≠ C
  ID : I ≠ D
  aC : ax ≠ C
  aD : ax ≠ D
  aI : ax ≠ I
  C0 : h₀.get? C = none
  D0 : h₀.get? D = none
  I0 : h₀.get? I = none
  off : ∀ p ∈ news, p.1 ≠ I ∧ p.1 ≠ C ∧ p.1 ≠ D

theorem pt_loop {elt iter c : PySem.Expr} {a b : Str} {pa pb tp : Pos} {kk : Nat} {scope : Scope} {cl : List (Str × Addr)} {pos : Pos} {s₂ s' : Shared} {I C D ax : Addr} {ps : List (Addr × Value × Value)} {kp : Addr × Value × Value → Bool} {res : Addr × Value × Value → Value} {news : List (Addr × Obj)} {R : Result → Shared → Prop}
    (hh : A.handled = none) (hsz : ps.length ≤ 1000) (G : PairEnv h₀ L I C D ax news) (hkind : scope.kind = .function) (hxa : scope.names.lookup a = some .local) (hxb : scope.names.lookup b = some .local) (hab : a ≠ b)
    (hps : ∀ p ∈ ps, ∃ ot nt, (p.1, ot) ∈ news ∧ ot.cls = .type "tuple" ∧ ot.data = .seq #[p.2.1, p.2.2] nt)
    (ev : ∀ p ∈ ps, ∀ (h : Heap) tk m₂ (E' : Value → Shared → Prop), h.Ns C m₂ → m₂ a = some p.2.1 → m₂ b = some p.2.2 → Fr h₀ L h m → News h₀ L h news →
      wpAny (model prog w) A (isTrue c (compEnvC scope cl C env) (eval c (compEnvC scope cl C env))) (fun ok s₃ => ok = kp p ∧ ∃ tk', s₃ = { s₂ with heap := h, toks := tk' }) E' { s₂ with heap := h, toks := tk })
    (el : ∀ p ∈ ps, kp p = true → ∀ (h : Heap) tk m₂ (E' : Value → Shared → Prop), h.Ns C m₂ → m₂ a = some p.2.1 → m₂ b = some p.2.2 → Fr h₀ L h m → News h₀ L h news →
      wpAny (model prog w) A (eval elt (compEnvC scope cl C env)) (fun y s₃ => y = res p ∧ ∃ tk', s₃ = { s₂ with heap := h, toks := tk' }) E' { s₂ with heap := h, toks := tk })
    (st : PairSt s₂ h₀ L m I C D ax (ps.map fun p => Value.ref p.1).toArray news [] 0 s')
    (done : ∀ h tk m', Fr h₀ L h m → News h₀ L h ((D, lst ((ps.filter kp).map res)) :: news) → h.Ns C m' → R (.ok .next) { s₂ with heap := h, toks := tk }) :
    codeAny (model prog w) A (.compLoop (.ListComp elt [⟨.Tuple [.Name a pa, .Name b pb] kk tp, iter, [c], 0⟩] scope pos) 0 (.ref I) (.ref D) (compEnvC scope cl C env)) R s' := by
  have W := Walks.list (prog := prog) (w := w) hh I ax G.aI (ps.map fun p => Value.ref p.1).toArray
  have hn : (ps.map fun p => Value.ref p.1).toArray.size = ps.length := by simp
  rw [hn] at W
  refine kct_loop (fun k s' => ∃ i, i ≤ ps.length ∧ k = ps.length + 1 - i ∧ PairSt s₂ h₀ L m I C D ax (ps.map fun p => Value.ref p.1).toArray news (((ps.take i).filter kp).map res) i s') ?_ (ps.length + 1) ⟨0, Nat.zero_le _, rfl, by simpa using st⟩
  rintro k s' ⟨i, hi, rfl, h', tk, m', rfl, hst, F, hn', N⟩
  have offm := G.off
  by_cases hlt : i < ps.length
  · refine W.item i _ _ _ hlt hst fun v h₂ tk₂ hPv hst₂ hk₂ => ?_
    have hp : ps[i]? = some ps[i] := List.getElem?_eq_getElem hlt
    generalize ps[i] = p at hp
    have hpm : p ∈ ps := List.mem_of_getElem? hp
    have hv : v = .ref p.1 := by
      have e : (List.map (fun p : Addr × Value × Value => Value.ref p.1) ps)[i]? = some v := by simpa using hPv
      rw [List.getElem?_map, hp] at e
      exact (Option.some.inj e).symm
    subst hv
    have N₂ : News h₀ L h₂ ((D, lst (((ps.take i).filter kp).map res)) :: news) := news_but N hk₂ fun q hq => by
      rcases List.mem_cons.mp hq with rfl | hq
      · exact Ne.symm G.ID
      · exact (offm q hq).1
    have F₂ : Fr h₀ L h₂ m := fr_but F hk₂ G.IL G.I0
    have hnC : h₂.Ns C m' := hn'.at' fun o e => hk₂ _ o (by simpa using Ne.symm G.IC) e
    obtain ⟨ot, nt, hmt, hct, hdt⟩ := hps p hpm
    have ht : IsTup h₂ p.1 #[p.2.1, p.2.2] := ⟨ot, (N₂ _ (List.mem_cons_of_mem _ hmt)).1, hct, nt, hdt⟩
    refine wpAny_letOwnedTupleGo_listiter hst₂.1 ?_
    refine kcp_assign hh ht (lookup_relabel_local hxa) (lookup_relabel_local hxb) (by simp [compEnvC, relabel, hkind]) hnC fun h₃ tk₃ hn₃ up => ?_
    have up3 : ∀ q o, q ≠ C → h₂.get? q = some o → h₃.get? q = some o := up
    have F₃ : Fr h₀ L h₃ m := ⟨F₂.ns.at' fun o e => up3 _ o (Ne.symm G.CL) e, fun q o e => up3 q o (fun x => by rw [x, G.C0] at e; cases e) (F₂.keep q o e), F₂.above⟩
    have N₃ : News h₀ L h₃ ((D, lst (((ps.take i).filter kp).map res)) :: news) := fun q hq => ⟨up3 _ _ (by
      rcases List.mem_cons.mp hq with rfl | hq
      · exact G.DC
      · exact (offm q hq).2.1) (N₂ q hq).1, (N₂ q hq).2⟩
    have hst₃ := W.frame _ _ _ hst₂ fun q hb o e => up3 q o (fun x => by
      rcases List.mem_cons.mp hb with y | hb
      · exact G.IC (y.symm.trans x)
      · exact G.aC ((List.mem_singleton.mp hb).symm.trans x)) e
    have Nn : News h₀ L h₃ news := fun q hq => N₃ q (List.mem_cons_of_mem _ hq)
    have htake : ps.take (i + 1) = ps.take i ++ [p] := by rw [List.take_add_one, hp]; rfl
    refine wpAny_mono (ev p hpm h₃ _ _ _ hn₃ (by simp [hab]) (by simp) F₃ Nn) (fun ok s₃ hk => ?_) fun _ _ e => e
    obtain ⟨rfl, tk4, rfl⟩ := hk
    split
    · rename_i hkp
      refine wpAny_mono (el p hpm hkp h₃ _ _ _ hn₃ (by simp [hab]) (by simp) F₃ Nn) (fun y s₄ hy => ?_) fun _ _ e => e
      obtain ⟨rfl, tk5, rfl⟩ := hy
      refine append_at (hsz := by
        rw [sizeLine_eq]; simp only [List.size_toArray, List.length_map]
        have h1 := List.length_filter_le kp (ps.take i)
        have h2 : (ps.take i).length ≤ ps.length := by rw [List.length_take]; exact Nat.min_le_right _ _
        exact Nat.le_trans h1 (Nat.le_trans h2 (Nat.le_trans hsz (by decide)))) (N₃ _ (List.mem_cons_self ..)).1 fun h₅ hs₅ hD₅ => ?_
      refine ⟨ps.length + 1 - (i + 1), by omega, i + 1, hlt, rfl, h₅, tk5, _, rfl, W.frame _ _ _ hst₃ fun q hb o e => hs₅.extBut q o (fun x => by
        rcases List.mem_cons.mp hb with y | hb
        · exact G.ID (y.symm.trans x)
        · exact G.aD ((List.mem_singleton.mp hb).symm.trans x)) e, F₃.change hs₅ G.DL G.D0, hn₃.sameBut hs₅ (Ne.symm G.DC), fun q hq => ?_⟩
      rcases List.mem_cons.mp hq with rfl | hq
      · refine ⟨?_, G.DL, G.D0⟩
        rw [hD₅]
        rw [htake, List.filter_append, List.map_append]
        simp only [List.filter_cons, hkp, if_true, List.filter_nil, List.map_cons, List.map_nil]
        exact congrArg some (lst_snoc _ _)
      · exact ⟨hs₅.extBut _ _ (offm q hq).2.2 (Nn q hq).1, (Nn q hq).2⟩
    · rename_i hkp
      refine ⟨ps.length + 1 - (i + 1), by omega, i + 1, hlt, rfl, h₃, tk4, _, rfl, hst₃, F₃, hn₃, ?_⟩
      rw [htake, List.filter_append, List.map_append]
      simp only [Bool.not_eq_true] at hkp
      simpa [hkp] using N₃
  · obtain rfl : i = ps.length := Nat.le_antisymm hi (Nat.not_lt.mp hlt)
    refine W.done _ _ _ hst fun h₂ tk₂ hk₂ => ?_
    rw [List.take_length] at N
    exact done h₂ tk₂ _ (fr_but F hk₂ G.IL G.I0) (news_but N hk₂ fun p hp => by
      rcases List.mem_cons.mp hp with rfl | hp
      · exact Ne.symm G.ID
      · exact (offm p hp).1) (hn'.at' fun o e => hk₂ _ o (by simpa using Ne.symm G.IC) e)

/-- the list's pairs, what the test and the element give, and what is asked of the end -/
def PtSrc (prog : Program) (w : World) (A : Around) (h₀ : Heap) (L : Addr) (m : Str → Option Value) (env : Env) (c elt : PySem.Expr) (a b : Str) (scope : Scope) (cl : List (Str × Addr)) (Fin : Shared → List Value → List (Addr × Obj) → Prop) (xv : Value) (s₁ : Shared) : Prop :=
  ∃ (ax : Addr) (ep : Nat) (ps : List (Addr × Value × Value)) (kp : Addr × Value × Value → Bool) (res : Addr × Value × Value → Value) (news : List (Addr × Obj)), xv = .ref ax ∧ A.handled = none ∧ ps.length ≤ 1000 ∧ Fr h₀ L s₁.heap m ∧ News h₀ L s₁.heap news ∧ (ax, W.listOf (ps.map fun p => Value.ref p.1).toArray ep) ∈ news ∧
    (∀ p ∈ ps, ∃ ot nt, (p.1, ot) ∈ news ∧ ot.cls = .type "tuple" ∧ ot.data = .seq #[p.2.1, p.2.2] nt) ∧
    (∀ p ∈ ps, ∀ (C : Addr) (h : Heap) tk m₂ (E' : Value → Shared → Prop), C ≠ L → h₀.get? C = none → (∀ q ∈ news, q.1 ≠ C) → h.Ns C m₂ → m₂ a = some p.2.1 → m₂ b = some p.2.2 → Fr h₀ L h m → News h₀ L h news →
      wpAny (model prog w) A (isTrue c (compEnvC scope cl C env) (eval c (compEnvC scope cl C env))) (fun ok s₃ => ok = kp p ∧ ∃ tk', s₃ = { s₁ with heap := h, toks := tk' }) E' { s₁ with heap := h, toks := tk }) ∧
    (∀ p ∈ ps, kp p = true → ∀ (C : Addr) (h : Heap) tk m₂ (E' : Value → Shared → Prop), C ≠ L → h₀.get? C = none → (∀ q ∈ news, q.1 ≠ C) → h.Ns C m₂ → m₂ a = some p.2.1 → m₂ b = some p.2.2 → Fr h₀ L h m → News h₀ L h news →
      wpAny (model prog w) A (eval elt (compEnvC scope cl C env)) (fun y s₃ => y = res p ∧ ∃ tk', s₃ = { s₁ with heap := h, toks := tk' }) E' { s₁ with heap := h, toks := tk }) ∧
    Fin s₁ ((ps.filter kp).map res) news

theorem block_PT {elt iter c : PySem.Expr} {a b : Str} {pa pb tp : Pos} {kk : Nat} {scope : Scope} {cl : List (Str × Addr)} {pos : Pos} {s₂ : Shared} {I ax : Addr} {ps : List (Addr × Value × Value)} {kp : Addr × Value × Value → Bool} {res : Addr × Value × Value → Value} {news : List (Addr × Obj)} {RR : Value → Addr → Result → Shared → Prop}
    (hh : A.handled = none) (hsz : ps.length ≤ 1000) (hcell : ∀ y ∈ scope.names, y.2 ≠ .cell) (hkind : scope.kind = .function) (hxa : scope.names.lookup a = some .local) (hxb : scope.names.lookup b = some .local) (hab : a ≠ b)
    (hps : ∀ p ∈ ps, ∃ ot nt, (p.1, ot) ∈ news ∧ ot.cls = .type "tuple" ∧ ot.data = .seq #[p.2.1, p.2.2] nt)
    (ev : ∀ p ∈ ps, ∀ (C : Addr) (h : Heap) tk m₂ (E' : Value → Shared → Prop), C ≠ L → h₀.get? C = none → (∀ q ∈ news, q.1 ≠ C) → h.Ns C m₂ → m₂ a = some p.2.1 → m₂ b = some p.2.2 → Fr h₀ L h m → News h₀ L h news →
      wpAny (model prog w) A (isTrue c (compEnvC scope cl C env) (eval c (compEnvC scope cl C env))) (fun ok s₃ => ok = kp p ∧ ∃ tk', s₃ = { s₂ with heap := h, toks := tk' }) E' { s₂ with heap := h, toks := tk })
    (el : ∀ p ∈ ps, kp p = true → ∀ (C : Addr) (h : Heap) tk m₂ (E' : Value → Shared → Prop), C ≠ L → h₀.get? C = none → (∀ q ∈ news, q.1 ≠ C) → h.Ns C m₂ → m₂ a = some p.2.1 → m₂ b = some p.2.2 → Fr h₀ L h m → News h₀ L h news →
      wpAny (model prog w) A (eval elt (compEnvC scope cl C env)) (fun y s₃ => y = res p ∧ ∃ tk', s₃ = { s₂ with heap := h, toks := tk' }) E' { s₂ with heap := h, toks := tk })
    (hit : s₂.heap.IsListIter I ax 0) (hls : s₂.heap.IsList ax (ps.map fun p => Value.ref p.1).toArray) (hIa : ax ≠ I)
    (F : Fr h₀ L s₂.heap m) (N : News h₀ L s₂.heap news) (hIL : L ≠ I) (hI₀ : h₀.get? I = none) (off : ∀ p ∈ news, p.1 ≠ I)
    (hRR : ∀ D C h tk m', Fr h₀ L h m → News h₀ L h ((D, lst ((ps.filter kp).map res)) :: news) → h.Ns C m' → h₀.get? C = none → C ≠ L → C ≠ D → (∀ p ∈ news, p.1 ≠ C ∧ p.1 ≠ D) → (∀ p ∈ news, p.1 < D) → RR (.ref D) C (.ok .next) { s₂ with heap := h, toks := tk }) :
    wpAny (model prog w) A (newList []) (fun acc s₃ => wpAny (model prog w) A (newFunctionEnv scope env.globals cl [] env.qual none .none (some env)) (fun cenv s₄ =>
      codeAny (model prog w) A (.compStart (.ListComp elt [⟨.Tuple [.Name a pa, .Name b pb] kk tp, iter, [c], 0⟩] scope pos) 0 (.ref I) acc { cenv with scope := relabel scope env }) (RR acc cenv.locals) s₄) E s₃) E s₂ := by
  have W := Walks.list (prog := prog) (w := w) hh I ax hIa (ps.map fun p => Value.ref p.1).toArray
  refine wpAny_newObj_type (wpAny_newFunctionEnv hcell (by intro y hy; simp at hy) (fun h₁ hns₁ hsb₁ => ?_) hkind)
  dsimp only at hns₁ hsb₁ ⊢
  generalize hH2 : s₂.heap.push { cls := .type "list", dict := none, data := .seq ([] : List Value).toArray } = H2 at hns₁ hsb₁ ⊢
  have hC : H2.objs.size = s₂.heap.objs.size + 1 := by rw [← hH2, Heap.size_push]
  have hDC : s₂.heap.objs.size ≠ H2.objs.size := by rw [hC]; exact Nat.ne_of_lt (Nat.lt_succ_self _)
  have below : ∀ b, b < s₂.heap.objs.size → b ≠ H2.objs.size ∧ b ≠ s₂.heap.objs.size := fun b hb => ⟨by rw [hC]; exact Nat.ne_of_lt (Nat.lt_succ_of_lt hb), Nat.ne_of_lt hb⟩
  have hIlt : I < s₂.heap.objs.size := by obtain ⟨_, e, _⟩ := hit; exact Heap.lt_size e
  have hAlt : ax < s₂.heap.objs.size := by obtain ⟨_, e, _⟩ := hls; exact Heap.lt_size e
  have old : ∀ b o, s₂.heap.get? b = some o → h₁.get? b = some o := fun b o e => hsb₁.extBut b o (below b (Heap.lt_size e)).1 (Heap.get?_push_of_some _ (hH2 ▸ Heap.get?_push_of_some _ e))
  have hacc : h₁.get? s₂.heap.objs.size = some (lst []) := hsb₁.extBut _ _ hDC (Heap.get?_push_of_some _ (hH2 ▸ Heap.get?_push_size _ rfl))
  have hst₁ : h₁.IsListIter I ax 0 ∧ h₁.IsList ax (ps.map fun p => Value.ref p.1).toArray := W.frame 0 _ _ ⟨hit, hls⟩ fun b _ o e => old b o e
  have fresh : ∀ a, s₂.heap.objs.size ≤ a → s₂.heap.get? a = none := fun a ha => by
    cases e : s₂.heap.get? a with
    | none => rfl
    | some o' => exact absurd (Heap.lt_size e) (Nat.not_lt.mpr ha)
  have fresh₀ : ∀ a, s₂.heap.objs.size ≤ a → h₀.get? a = none := fun a ha => by
    cases e : h₀.get? a with
    | none => rfl
    | some o' => have := F.keep a o' e; rw [fresh a ha] at this; cases this
  have hD₀ : h₀.get? s₂.heap.objs.size = none := fresh₀ _ (Nat.le_refl _)
  have hC₀ : h₀.get? H2.objs.size = none := fresh₀ _ (by rw [hC]; exact Nat.le_succ _)
  have hLlt : L < s₂.heap.objs.size := F.ns.lt
  have hDL : s₂.heap.objs.size ≠ L := Ne.symm (below L hLlt).2
  have hCL : H2.objs.size ≠ L := Ne.symm (below L hLlt).1
  have off₀ : ∀ p ∈ news, p.1 ≠ I ∧ p.1 ≠ H2.objs.size ∧ p.1 ≠ s₂.heap.objs.size := fun p hp => ⟨off p hp, (below _ (Heap.lt_size (N p hp).1)).1, (below _ (Heap.lt_size (N p hp).1)).2⟩
  have G : PairEnv h₀ L I H2.objs.size s₂.heap.objs.size ax news := ⟨hCL, hDL, hIL, hDC, (below I hIlt).1, (below I hIlt).2, (below ax hAlt).1, (below ax hAlt).2, hIa, hC₀, hD₀, hI₀, off₀⟩
  have loop : ∀ s₃ : Shared, s₃ = { s₂ with heap := h₁, toks := s₂.toks + ([] : List (Str × Value)).length } →
      codeAny (model prog w) A (.compLoop (.ListComp elt [⟨.Tuple [.Name a pa, .Name b pb] kk tp, iter, [c], 0⟩] scope pos) 0 (.ref I) (.ref s₂.heap.objs.size) (compEnvC scope cl H2.objs.size env))
        (RR (.ref s₂.heap.objs.size) H2.objs.size) s₃ := by
    rintro s₃ rfl
    refine pt_loop hh hsz G hkind hxa hxb hab hps (fun p hp h tk m₂ E' q1 q2 q3 q4 q5 => ev p hp _ h tk m₂ E' hCL hC₀ (fun q hq => (off₀ q hq).2.1) q1 q2 q3 q4 q5) (fun p hp hk h tk m₂ E' q1 q2 q3 q4 q5 => el p hp hk _ h tk m₂ E' hCL hC₀ (fun q hq => (off₀ q hq).2.1) q1 q2 q3 q4 q5)
      ⟨h₁, _, _, rfl, hst₁, F.keeps old, hns₁, fun p hp => ?_⟩ fun h tk m' F' N' hn' => hRR _ _ h tk m' F' N' hn' hC₀ hCL (Ne.symm hDC) (fun p hp => (off₀ p hp).2) fun p hp => Heap.lt_size (N p hp).1
    rcases List.mem_cons.mp hp with rfl | hp
    · exact ⟨hacc, hDL, hD₀⟩
    · exact ⟨old _ _ (N p hp).1, (N p hp).2⟩
  exact codeAny_compStart_list (loop _ rfl) (W.self 0 _ _ _ hst₁ (loop _ rfl))

def FinB (h₀ : Heap) (L : Addr) (m : Str → Option Value) (s : Shared) (y : Str) (Q : Flow → Shared → Prop) (ys : List Value) (news : List (Addr × Obj)) : Prop :=
  ∀ D h tk, Fr h₀ L h (fun z => if z = y then some (.ref D) else m z) → News h₀ L h ((D, lst ys) :: news) → (∀ p ∈ news, p.1 < D) → Q .next { s with heap := h, toks := tk }
theorem pt_assign {elt iter c : PySem.Expr} {a b y : Str} {pa pb tp py : Pos} {kk : Nat} {scope : Scope} {cl : List (Str × Addr)} {pos spos : Pos} {Q : Flow → Shared → Prop} (F₀ : Fr h₀ L s.heap m) (hLe : env.locals = L)
    (hsw : swapsWith (.ListComp elt [⟨.Tuple [.Name a pa, .Name b pb] kk tp, iter, [c], 0⟩] scope pos) (some (.Name y py)) spos.line env = pure true)
    (hclos : closureFor scope env = pure cl) (hcell : ∀ z ∈ scope.names, z.2 ≠ .cell) (hkind : scope.kind = .function)
    (hnames : ∀ z ∈ scope.names, z.2 = .local → scope.names.lookup z.1 = some .local) (hxa : scope.names.lookup a = some .local) (hxb : scope.names.lookup b = some .local) (hab : a ≠ b)
    (hy : env.kindOf y = some .local) (hp : (env.scope.kind == .class || (env.scope.kind == .module && env.locals != env.globals)) = false)
    (h : wpAny (model prog w) A (eval iter env) (PtSrc prog w A h₀ L m env c elt a b scope cl (fun s₂ => FinB h₀ L m s₂ y Q)) E s)
    (hs : ∀ x, foldedSetIterable iter env x = pure x := by intro _; rfl) :
    wpAny (model prog w) A (exec (.Assign [.Name y py] (.ListComp elt [⟨.Tuple [.Name a pa, .Name b pb] kk tp, iter, [c], 0⟩] scope pos) spos) env) Q E s := by
  subst hLe
  rw [exec_Assign_Name_used _ _ _ _ hsw]
  refine wpAny_bind (wpAny_standAt (wpAny_bind ?_))
  refine wpAny_bind (wpAny_mono (wpAny_comprehension_free (use := some (assign (.Name y py) env)) (Q := fun _ s' => Q .next s') rfl hs hclos hkind hnames
    (wpAny_mono h (fun xv s₁ h₁ => ?_) fun _ _ e => e)) (fun _ s' hq => wpAny_pure (wpAny_pure hq)) fun _ _ e => e)
  obtain ⟨ax, ep, ps, kp, res, news, rfl, hh, hsz, F, N, hax, hps, ev, el, fin⟩ := h₁
  have hl : s₁.heap.IsList ax (ps.map fun p => Value.ref p.1).toArray := ⟨_, (N _ hax).1, rfl, _, rfl⟩
  have hlt : ax < s₁.heap.objs.size := Heap.lt_size (N _ hax).1
  refine wpAny_pyIter_list hl ?_
  have up : ∀ b o, s₁.heap.get? b = some o → (s₁.heap.push { cls := .type "list_iterator", data := .fields #[.ref ax, .int 0 0] }).get? b = some o := fun b o e => Heap.get?_push_of_some _ e
  refine block_PT (ax := ax) hh hsz hcell hkind hxa hxb hab hps ev el ⟨_, Heap.get?_push_size _ rfl, rfl, rfl⟩ (hl.push _) (Nat.ne_of_lt hlt)
    (F.keeps up) (N.grown up) (Nat.ne_of_lt F.ns.lt) (next_is_new F) (fun p hp => Nat.ne_of_lt (Heap.lt_size (N p hp).1)) ?_
  intro D C h' tk m' F' N' hn hC₀ hCL hCD offC hlt'
  show wpAny _ A (assign (.Name y py) env (.ref D)) _ _ _
  refine wpAny_assign_Name (wpAny_storeName_local hy F'.ns (fun h₂ hn₂ hs₂ => ?_) hp)
  have hL₀ : h₀.get? env.locals = none := Heap.get?_none_of_le F'.above
  have F₂ : Fr h₀ env.locals h₂ (fun z => if z = y then some (.ref D) else m z) := ⟨hn₂, fun b o e => hs₂.extBut b o (fun q => by rw [q, hL₀] at e; cases e) (F'.keep b o e), F'.above⟩
  refine ⟨m', hn.sameBut hs₂ hCL, fun h'' hs'' => fin D h'' _ (F₂.change hs'' hCL hC₀) (fun p hp => ?_) hlt'⟩
  have z : h₂.get? p.1 = some p.2 := hs₂.extBut _ _ (N' p hp).2.1 (N' p hp).1
  refine ⟨hs''.extBut _ _ ?_ z, (N' p hp).2⟩
  rcases List.mem_cons.mp hp with rfl | hp
  · exact Ne.symm hCD
  · exact (offC p hp).1
end
end Mine1
end
section
open PySem PySem.W PyProof.Rows
namespace Mine1
open MineS MineP
/-! what the law's loop keeps -/
structure FX where
  hl : Addr
  T : Addr
  st : Addr
  sc : Addr
  kn : Addr
  c : Addr
  cd : Addr
  dd : Addr
  mx : Addr
  md : Addr
  cap : Int
  thr : Int
  al : Value
abbrev FX.keep (X : FX) : List Addr := [X.hl, X.T, X.st, X.sc]
structure Use where
  key : Str
  kt : Tok
  val : Int
  vt : Tok
  tup : Addr
abbrev Use.obj (u : Use) : Obj := { cls := .type "tuple", data := .seq #[.str u.key u.kt, .int u.val u.vt] }
abbrev Use.pair (u : Use) : Str × Int := (u.key, u.val)
/-- an object that no deed of the cache can turn -/
def Calm (keep : List Addr) (q : Addr × Obj) : Prop :=
  (∀ es n, q.2.data ≠ .dict es n) ∧ q.2.data ≠ .plain ∧ ((∀ vs n, q.2.data ≠ .seq vs n) ∨ q.2.cls ≠ .type "list" ∨ q.1 ∈ keep)
structure LB (X : FX) (fix news : List (Addr × Obj)) (U : Addr) (uses : List Use) (tv : List Value) : Prop where
  hU : ∃ ep, (U, W.listOf (uses.map fun u => Value.ref u.tup).toArray ep) ∈ news
  hus : ∀ u ∈ uses, (u.tup, u.obj) ∈ news
  hT : ∃ ep, (X.T, W.listOf tv.toArray ep) ∈ news
  hst : ∃ pos tp seed t ep, 0 ≤ pos ∧ 0 ≤ seed ∧ (X.st, W.listOf #[.ref X.sc, .int pos tp, .int seed t] ep) ∈ news
  hfix : ∀ q ∈ fix, q ∈ news
  hkn : ∃ o v, (X.kn, o) ∈ news ∧ o.data = .cell v
theorem LB.mono {X : FX} {fix news news' : List (Addr × Obj)} {U : Addr} {uses : List Use} {tv : List Value} (B : LB X fix news U uses tv) (h : ∀ q ∈ news, q ∈ news') : LB X fix news' U uses tv where
  hU := let ⟨a, q⟩ := B.hU; ⟨a, h _ q⟩
  hus := fun u hu => h _ (B.hus u hu)
  hT := let ⟨a, q⟩ := B.hT; ⟨a, h _ q⟩
  hst := let ⟨a, b, c, d, e, p, r, q⟩ := B.hst; ⟨a, b, c, d, e, p, r, h _ q⟩
  hfix := fun q hq => h _ (B.hfix q hq)
  hkn := let ⟨a, b, q, r⟩ := B.hkn; ⟨a, b, h _ q, r⟩
section
variable {w : World} {keep : List Addr} {c cd dd mx md : Addr} {n cap thr : Int} {al : Value} {b : Bool} {rows : List (Row Str)} {news news' : List (Addr × Obj)} {h₀ h : Heap} {L : Addr}
theorem CS.rekeep {keep' : List Addr} (C : CS w keep news c cd dd mx md n cap thr al b rows) (hk : ∀ r ∈ rows, r.lst ∉ keep') : CS w keep' news c cd dd mx md n cap thr al b rows := { C with hoff := hk }
/-- a calm object stays -/
theorem calm_ne (N : News h₀ L h news) (C : CS w keep news c cd dd mx md n cap thr al b rows) {q : Addr × Obj} (hq : q ∈ news) (hc : Calm keep q) : q.1 ≠ c ∧ q.1 ≠ dd ∧ q.1 ≠ md ∧ ∀ r ∈ rows, q.1 ≠ r.lst := by
  obtain ⟨q1, q2, q3⟩ := hc
  obtain ⟨⟨t, tc, tt, h1⟩, h2, ⟨od, h3, hdi⟩, h4, ⟨hs, hk, h5⟩, hrows, -, -, -, -, -, -, -, -, -, -, hoff⟩ := C
  refine ⟨news_ne N hq h1 ?_, news_ne N hq h3 ?_, news_ne N hq h5 ?_, fun r hr => ?_⟩
  · exact fun e => q2 (by rw [e])
  · intro e
    obtain ⟨_, _, _, e2, _⟩ := hdi
    exact q1 _ _ (by rw [e]; exact e2)
  · exact fun e => q1 _ _ (by rw [e])
  · rcases q3 with q3 | q3 | q3
    · exact news_ne N hq (hrows r hr).2 fun e => q3 _ _ (by rw [e])
    · exact news_ne N hq (hrows r hr).2 fun e => q3 (by rw [e])
    · exact fun e => hoff r hr (e ▸ q3)
theorem calm_kn {k : Addr} {o : Obj} {v : Option Value} (hd : o.data = .cell v) : Calm keep (k, o) := ⟨fun _ _ e => (by rw [hd] at e; cases e), fun e => (by rw [hd] at e; cases e), .inl fun _ _ e => (by rw [hd] at e; cases e)⟩
theorem calm_tup {k : Addr} {o : Obj} {vs : Array Value} {n : Nat} (hc : o.cls = .type "tuple") (hd : o.data = .seq vs n) : Calm keep (k, o) :=
  ⟨fun _ _ e => (by rw [hd] at e; cases e), fun e => (by rw [hd] at e; cases e), .inr (.inl (by rw [hc]; simp))⟩
theorem calm_keep {k : Addr} {o : Obj} {vs : Array Value} {n : Nat} (hd : o.data = .seq vs n) (hk : k ∈ keep) : Calm keep (k, o) :=
  ⟨fun _ _ e => (by rw [hd] at e; cases e), fun e => (by rw [hd] at e; cases e), .inr (.inr hk)⟩
end
section
variable {w : World} {X : FX} {fix news news' : List (Addr × Obj)} {U : Addr} {uses : List Use} {tv : List Value} {n : Int} {b : Bool} {rows : List (Row Str)} {h₀ h : Heap} {L : Addr}
structure FixOk (X : FX) (fix : List (Addr × Obj)) : Prop where
  calm : ∀ q ∈ fix, Calm [X.sc] q
  offH : ∀ q ∈ fix, q.1 ≠ X.hl
  hT : X.T ≠ X.hl
  hst : X.st ≠ X.hl
theorem LB.frame (N : News h₀ L h news) (B : LB X fix news U uses tv) (ok : FixOk X fix) (C : CS w (U :: X.keep) news X.c X.cd X.dd X.mx X.md n X.cap X.thr X.al b rows) (hU : U ≠ X.hl) {hv : List Value} {hep : Nat} (hH : (X.hl, W.listOf hv.toArray hep) ∈ news)
    (F : ∀ q ∈ news, q.1 ≠ X.c → q.1 ≠ X.dd → q.1 ≠ X.hl → q.1 ≠ X.md → (∀ r ∈ rows, q.1 ≠ r.lst) → q ∈ news') : LB X fix news' U uses tv := by
  have go : ∀ q ∈ news, Calm (U :: X.keep) q → q.1 ≠ X.hl → q ∈ news' := fun q hq hc hl => by
    obtain ⟨a1, a2, a3, a4⟩ := calm_ne N C hq hc
    exact F q hq a1 a2 hl a3 a4
  have hH2 : ∀ q ∈ news, (∀ vs n, q.2.data ≠ .seq vs n) ∨ q.2.cls ≠ .type "list" → q.1 ≠ X.hl := fun q hq e => news_ne N hq hH fun e' => by
    rcases e with e | e
    · exact e _ _ (by rw [e'])
    · exact e (by rw [e'])
  obtain ⟨⟨ep, h1⟩, h2, ⟨ep2, h3⟩, ⟨pos, tp, seed, t, ep3, p1, p2, h4⟩, h5, ⟨o, v, h6, h7⟩⟩ := B
  refine ⟨⟨ep, go _ h1 (calm_keep rfl (by simp)) hU⟩, fun u hu => go _ (h2 u hu) (calm_tup rfl rfl) (hH2 _ (h2 u hu) (.inr (by simp))), ⟨ep2, go _ h3 (calm_keep rfl (by simp)) ok.hT⟩, ⟨pos, tp, seed, t, ep3, p1, p2, go _ h4 (calm_keep rfl (by simp)) ok.hst⟩, fun q hq => ?_,
    ⟨o, v, go _ h6 (calm_kn h7) (hH2 _ h6 (.inl fun _ _ e => by rw [h7] at e; cases e)), h7⟩⟩
  obtain ⟨c1, c2, c3⟩ := ok.calm q hq
  refine go _ (h5 q hq) ⟨c1, c2, ?_⟩ (ok.offH q hq)
  rcases c3 with c3 | c3 | c3
  · exact .inl c3
  · exact .inr (.inl c3)
  · exact .inr (.inr (by rw [List.mem_singleton] at c3; simp [c3]))
/-- without the loop's iterator -/
theorem LB.off {I : Addr} {it : Obj} (N : News h₀ L h news) (B : LB X fix news U uses tv) (hI : (I, it) ∈ news) (hs : ∀ vs n, it.data ≠ .seq vs n) (hc : ∀ v, it.data ≠ .cell v) (hfix : ∀ q ∈ fix, q.2 ≠ it) : LB X fix (wo [I] news) U uses tv := by
  have go : ∀ q ∈ news, q.2 ≠ it → q ∈ wo [I] news := fun q hq e => wo_mem hq (by simpa using news_ne N hq hI e)
  obtain ⟨⟨ep, h1⟩, h2, ⟨ep2, h3⟩, ⟨pos, tp, seed, t, ep3, p1, p2, h4⟩, h5, ⟨o, v, h6, h7⟩⟩ := B
  exact ⟨⟨ep, go _ h1 fun e => hs _ _ (by rw [← e])⟩, fun u hu => go _ (h2 u hu) fun e => hs _ _ (by rw [← e]), ⟨ep2, go _ h3 fun e => hs _ _ (by rw [← e])⟩, ⟨pos, tp, seed, t, ep3, p1, p2, go _ h4 fun e => hs _ _ (by rw [← e])⟩, fun q hq => go _ (h5 q hq) (hfix q hq),
    ⟨o, v, go _ h6 fun e => hc v (by rw [← e]; exact h7), h7⟩⟩
theorem CS.off {keep : List Addr} {c cd dd mx md I : Addr} {cap thr : Int} {al : Value} {it : Obj} (N : News h₀ L h news) (C : CS w keep news c cd dd mx md n cap thr al b rows) (hI : (I, it) ∈ news) (hs : ∀ vs n, it.data ≠ .seq vs n) (hd : ∀ vs n, it.data ≠ .dict vs n) (hp : it.data ≠ .plain) :
    CS w keep (wo [I] news) c cd dd mx md n cap thr al b rows := by
  have go : ∀ q ∈ news, q.2 ≠ it → q ∈ wo [I] news := fun q hq e => wo_mem hq (by simpa using news_ne N hq hI e)
  have C0 := C
  obtain ⟨⟨t, tc, tt, h1⟩, h2, ⟨od, h3, hdi⟩, h4, ⟨hs', hk, h5⟩, hrows, -, -, -, -, -, -, -, -, -, -, hoff⟩ := C
  have g3 : (dd, od) ∈ wo [I] news := go _ h3 (by
    intro e
    obtain ⟨_, _, _, e2, _⟩ := hdi
    exact hd _ _ (by rw [← e]; exact e2))
  have g1 := go _ h1 (fun e => hp (by rw [← e]))
  have g2 := go _ h2 (fun e => hd _ _ (by rw [← e]))
  have g4 := go _ h4 (fun e => hp (by rw [← e]))
  have g5 := go _ h5 (fun e => hd _ _ (by rw [← e]))
  exact { C0 with
    hc := ⟨t, tc, tt, g1⟩
    hcd := g2
    hdd := ⟨od, g3, hdi⟩
    hmx := g4
    hmd := ⟨_, _, g5⟩
    hrows := fun r hr => ⟨go _ (hrows r hr).1 (fun e => hs _ _ (by rw [← e])), go _ (hrows r hr).2 (fun e => hs _ _ (by rw [← e]))⟩ }
theorem fresh_lst {keep : List Addr} {c cd dd mx md D : Addr} {cap thr : Int} {al : Value} (C : CS w keep news c cd dd mx md n cap thr al b rows) (hD : ∀ p ∈ news, p.1 ≠ D) : ∀ r ∈ rows, r.lst ≠ D := fun r hr => hD _ (C.hrows r hr).2
theorem CS.keepU {keep : List Addr} {c cd dd mx md D : Addr} {cap thr : Int} {al : Value} (C : CS w keep news c cd dd mx md n cap thr al b rows) (hD : ∀ r ∈ rows, r.lst ≠ D) : CS w (D :: keep) news c cd dd mx md n cap thr al b rows :=
  C.rekeep fun r hr => by
    have h1 := C.hoff r hr
    have h2 := hD r hr
    simp [h1, h2]
theorem CS.dropU {keep : List Addr} {c cd dd mx md D : Addr} {cap thr : Int} {al : Value} (C : CS w (D :: keep) news c cd dd mx md n cap thr al b rows) : CS w keep news c cd dd mx md n cap thr al b rows :=
  C.rekeep fun r hr e => C.hoff r hr (.tail _ e)
end

/-! the plain rows of uses and the cache's rows -/
def rv (r : Row Str) : Int := match r.val with | .int v _ => v | _ => 0
def Rel (rows : List (Row Str)) (us : List (Str × Int)) : Prop := ∃ srt : List (Row Str), srt.Perm rows ∧ srt.Pairwise (fun a b => a.ctr < b.ctr) ∧ us = srt.map fun r => (r.key, rv r)
theorem rel_nil : Rel [] [] := ⟨[], .refl _, .nil, rfl⟩
theorem rel_len {rows : List (Row Str)} {us : List (Str × Int)} (h : Rel rows us) : us.length = rows.length := by
  obtain ⟨srt, p, -, e⟩ := h
  rw [e, List.length_map, p.length_eq]
theorem rel_keys {rows : List (Row Str)} {us : List (Str × Int)} (h : Rel rows us) : (us.map (·.1)).Perm (rows.map (·.key)) := by
  obtain ⟨srt, p, -, e⟩ := h
  rw [e, List.map_map]
  exact p.map _
theorem rel_at {rows : List (Row Str)} {us : List (Str × Int)} (h : Rel rows us) {x : Str × Int} (hx : x ∈ us) : ∃ r ∈ rows, r.key = x.1 ∧ rv r = x.2 := by
  obtain ⟨srt, p, -, e⟩ := h
  rw [e] at hx
  obtain ⟨r, hr, rfl⟩ := List.mem_map.mp hx
  exact ⟨r, p.mem_iff.mp hr, rfl, rfl⟩
theorem rel_of {rows : List (Row Str)} {us : List (Str × Int)} (h : Rel rows us) {r : Row Str} (hr : r ∈ rows) : (r.key, rv r) ∈ us := by
  obtain ⟨srt, p, -, e⟩ := h
  rw [e]; exact List.mem_map.mpr ⟨r, p.mem_iff.mpr hr, rfl⟩
theorem rel_use {rows : List (Row Str)} {uses : List Use} (h : Rel rows (uses.map Use.pair)) {r : Row Str} (hr : r ∈ rows) : ∃ u ∈ uses, u.key = r.key ∧ u.val = rv r := by
  obtain ⟨u, hu, e⟩ := List.mem_map.mp (rel_of h hr)
  exact ⟨u, hu, congrArg Prod.fst e, congrArg Prod.snd e⟩
theorem rel_no {rows : List (Row Str)} {us : List (Str × Int)} (h : Rel rows us) {k : Str} (hk : ∀ x ∈ us, x.1 ≠ k) : ∀ r ∈ rows, r.key ≠ k := by
  obtain ⟨srt, p, -, e⟩ := h
  intro r hr
  exact hk (r.key, rv r) (by rw [e]; exact List.mem_map.mpr ⟨r, p.mem_iff.mpr hr, rfl⟩)
theorem filter_map_key (l : List (Row Str)) (k : Str) : (l.map fun r => (r.key, rv r)).filter (fun x => decide (x.1 ≠ k)) = (l.filter fun r => decide (r.key ≠ k)).map fun r => (r.key, rv r) := by
  rw [List.filter_map]; rfl
theorem rel_del {rows : List (Row Str)} {us : List (Str × Int)} (h : Rel rows us) (k : Str) : Rel (rows.filter fun r => decide (r.key ≠ k)) (us.filter fun x => decide (x.1 ≠ k)) := by
  obtain ⟨srt, p, o, rfl⟩ := h
  exact ⟨srt.filter fun r => decide (r.key ≠ k), p.filter _, o.filter _, filter_map_key _ _⟩
/-- a row taken anew, behind all others -/
theorem rel_last {rows rows' : List (Row Str)} {us : List (Str × Int)} (h : Rel rows us) {k : Str} {r : Row Str} (hk : r.key = k) (hlt : ∀ x ∈ rows, x.ctr < r.ctr) (hp : rows'.Perm ((rows.filter fun x => decide (x.key ≠ k)) ++ [r])) :
    Rel rows' ((us.filter fun x => decide (x.1 ≠ k)) ++ [(k, rv r)]) := by
  obtain ⟨srt, p, o, rfl⟩ := h
  refine ⟨(srt.filter fun x => decide (x.key ≠ k)) ++ [r], ((p.filter _).append_right _).trans hp.symm, ?_, ?_⟩
  · rw [List.pairwise_append]
    refine ⟨o.filter _, List.pairwise_singleton _ _, fun a ha b hb => ?_⟩
    rw [List.mem_singleton.mp hb]
    exact hlt a (p.mem_iff.mp (List.mem_filter.mp ha).1)
  · rw [filter_map_key, List.map_append, List.map_singleton, hk]
theorem touch_perm {rows : List (Row Str)} {r : Row Str} {m : Int} {t : Tok} (hk : (rows.map (·.key)).Nodup) (hr : r ∈ rows) : (touch rows r.key m t).Perm ((rows.filter fun x => decide (x.key ≠ r.key)) ++ [{ r with ctr := m, ctok := t }]) := by
  induction rows with
  | nil => cases hr
  | cons x xs ih =>
    simp only [List.map_cons, List.nodup_cons] at hk
    unfold touch at ih ⊢
    rw [List.map_cons, List.filter_cons]
    rcases List.mem_cons.mp hr with rfl | hr
    · have e : xs.map (fun x => if x.key = r.key then { x with ctr := m, ctok := t } else x) = xs.filter fun x => decide (x.key ≠ r.key) := by
        rw [List.filter_eq_self.mpr fun y hy => by simpa using fun e => hk.1 (List.mem_map.mpr ⟨y, hy, e⟩)]
        conv => rhs; rw [← List.map_id xs]
        refine List.map_congr_left fun y hy => ?_
        rw [if_neg fun e => hk.1 (List.mem_map.mpr ⟨y, hy, e⟩)]; rfl
      rw [e]
      simp only [if_true, ne_eq, not_true_eq_false, decide_false, Bool.false_eq_true, if_false]
      exact List.perm_append_comm (l₁ := [_])
    · have hne : x.key ≠ r.key := fun e => hk.1 (List.mem_map.mpr ⟨r, hr, e.symm⟩)
      rw [if_neg hne, if_pos (by simpa using hne), List.cons_append]
      exact (ih hk.2 hr).cons x
theorem put_perm {rows : List (Row Str)} {r : Row Str} (hk : (rows.map (·.key)).Nodup) : (putRow rows r).Perm ((rows.filter fun x => decide (x.key ≠ r.key)) ++ [r]) := by
  unfold putRow
  split
  · rename_i hy
    induction rows with
    | nil => simp at hy
    | cons x xs ih =>
      simp only [List.map_cons, List.nodup_cons] at hk
      rw [List.map_cons, List.filter_cons]
      by_cases e : x.key = r.key
      · have e2 : xs.map (fun x => if x.key = r.key then r else x) = xs.filter fun x => decide (x.key ≠ r.key) := by
          have hno : ∀ y ∈ xs, y.key ≠ r.key := fun y hy e' => hk.1 (List.mem_map.mpr ⟨y, hy, e'.trans e.symm⟩)
          rw [List.filter_eq_self.mpr fun y hy => by simpa using hno y hy]
          conv => rhs; rw [← List.map_id xs]
          refine List.map_congr_left fun y hy => ?_
          rw [if_neg (hno y hy)]; rfl
        rw [e2, if_pos e]
        simp only [e, ne_eq, not_true_eq_false, decide_false, Bool.false_eq_true, if_false]
        exact List.perm_append_comm (l₁ := [_])
      · rw [if_neg e, if_pos (by simpa using e), List.cons_append]
        refine (ih hk.2 ?_).cons x
        simpa [e] using hy
  · rename_i hn
    rw [List.filter_eq_self.mpr fun y hy => ?_]
    simp only [List.any_eq_true, decide_eq_true_eq, not_exists, not_and] at hn
    simpa using hn y hy
theorem rel_touch {rows : List (Row Str)} {us : List (Str × Int)} (h : Rel rows us) {r : Row Str} {n : Int} {t : Tok} (hk : (rows.map (·.key)).Nodup) (hle : ∀ x ∈ rows, x.ctr ≤ n) (hr : r ∈ rows) :
    Rel (touch rows r.key (n + 1) t) ((us.filter fun x => decide (x.1 ≠ r.key)) ++ [(r.key, rv r)]) :=
  rel_last (r := { r with ctr := n + 1, ctok := t }) h rfl (fun x hx => Int.lt_add_one_of_le (hle x hx)) (touch_perm hk hr)
theorem rel_put {rows : List (Row Str)} {us : List (Str × Int)} (h : Rel rows us) {r : Row Str} {n : Int} (hk : (rows.map (·.key)).Nodup) (hle : ∀ x ∈ rows, x.ctr ≤ n) (hr : r.ctr = n + 1) :
    Rel (putRow rows r) ((us.filter fun x => decide (x.1 ≠ r.key)) ++ [(r.key, rv r)]) :=
  rel_last h rfl (fun x hx => by rw [hr]; exact Int.lt_add_one_of_le (hle x hx)) (put_perm hk)
theorem sorted_uniq {l1 l2 : List (Row Str)} (hp : l1.Perm l2) (h1 : l1.Pairwise (fun a b => a.ctr < b.ctr)) (h2 : l2.Pairwise (fun a b => a.ctr < b.ctr)) : l1 = l2 := by
  induction l1 generalizing l2 with
  | nil => exact hp.nil_eq
  | cons a r ih =>
    cases l2 with
    | nil => exact absurd hp.symm.nil_eq (by simp)
    | cons b s =>
      have hab : a = b := by
        rcases List.mem_cons.mp (hp.mem_iff.mp (List.mem_cons_self ..)) with e | e
        · exact e
        · rcases List.mem_cons.mp (hp.symm.mem_iff.mp (List.mem_cons_self (a := b) (l := s))) with e' | e'
          · exact e'.symm
          · have q1 := (List.pairwise_cons.mp h2).1 a e
            have q2 := (List.pairwise_cons.mp h1).1 b e'
            omega
      subst hab
      rw [ih hp.cons_inv (List.pairwise_cons.mp h1).2 (List.pairwise_cons.mp h2).2]
theorem left_take {rows sr : List (Row Str)} {k : Nat} (hk : (rows.map (·.key)).Nodup) (hp : sr.Perm rows) : (left rows (sr.drop k)).Perm (sr.take k) :=
  left_perm hk (by rw [List.take_append_drop]; exact hp)
theorem rel_left {rows sr : List (Row Str)} {us : List (Str × Int)} (h : Rel rows us) {k : Nat} (hk : (rows.map (·.key)).Nodup) (hp : sr.Perm rows) (ho : sr.Pairwise fun a b => b.ctr < a.ctr) : Rel (left rows (sr.drop k)) (us.drop (us.length - k)) := by
  have hlen := rel_len h
  obtain ⟨srt, p, o, rfl⟩ := h
  have e : srt = sr.reverse := sorted_uniq (p.trans (hp.symm.trans (List.reverse_perm _).symm)) o (List.pairwise_reverse.mpr ho)
  subst e
  refine ⟨(sr.take k).reverse, (List.reverse_perm _).trans (left_take hk hp).symm, List.pairwise_reverse.mpr (ho.sublist (List.take_sublist _ _)), ?_⟩
  rw [← List.map_drop]
  congr 1
  simp only [List.length_map, List.length_reverse]
  rw [List.reverse_take]
theorem rel_mono {rows : List (Row Str)} {us us' : List (Str × Int)} (h : Rel rows us) (e : us' = us) : Rel rows us' := e ▸ h
end Mine1
end
section
open PySem PySem.W PyProof.Rows PyProof.Rows.LCg PyProof.Rows.LCt PyProof.Rows.LCp
namespace Mine1
set_option maxRecDepth 100000
set_option maxHeartbeats 8000000
local macro_rules | `(tactic| k_all) => `(tactic| first | assumption)
local macro_rules | `(tactic| k_ne) => `(tactic| (refine neN ?_; (try dsimp only); first | assumption | (apply Ne.symm; assumption)))
local macro_rules | `(tactic| k_room) => `(tactic| ((try simp only [depth_under_make, depth_under_kw, depth_in1, depth_deeper, depth_caller]); show _ < 1000; omega))
local macro_rules | `(tactic| walk_at "delItem ref") => `(tactic| (k_dflt (refine' delItem_own ?k1 ?k2 ?k3 ?k4 ?k5 ?k6 ?_; (case k1 => k_asm); (case k2 => k_asm); (case k3 => k_inst); (case k4 => k_is); (case k5 => k_is); (case k6 => k_is); k_whole)))
variable {w : World} {A₀ : Around} {d u : Nat} {gs : Option (List Code)} {nm : List (Str × NameKind)} {mo : List (Str × PySem.Const)} {gl : Addr} {cl : List (Str × Addr)} {ql : Str} {fn : Option Addr} {co : Value} {bi : Addr} {outer : List Env}
  {base h₀ : Heap} {L : Addr} {s : Shared} {m mg mb : Str → Option Value} {mean : ExcName → Option Value} {loose : List Str} {p : Program} {news : List (Addr × Obj)} {Q : Value → Shared → Prop} {E : Value → Shared → Prop} {keep : List Addr}
section
variable {prog : Program} {A : Around} {env : Env} {uses : List Use} {kp : Use → Bool} {ax : Addr}
abbrev refsOf (uses : List Use) : List Value := uses.map fun u => Value.ref u.tup
theorem item_refs {uses : List Use} {i : Nat} {v : Value} (h : (refsOf uses).toArray[i]? = some v) : ∃ u, uses[i]? = some u ∧ v = .ref u.tup := by
  have e : (List.map (fun u : Use => Value.ref u.tup) uses)[i]? = some v := by simpa using h
  rw [List.getElem?_map] at e
  rcases hu : uses[i]? with _ | u
  · rw [hu] at e; cases e
  · rw [hu] at e; exact ⟨u, rfl, (Option.some.inj e).symm⟩
/-- [use for use in uses if TEST]: the test reads alone -/
theorem uf_rest {ct : PySem.Expr} {x : Str} {px : Pos} {scope : Scope} {cl : List (Str × Addr)} {S : List (Addr × Obj) → Prop} {Fin : List Value → List (Addr × Obj) → Prop} (hS : S news)
    (ev : ∀ u ∈ uses, ∀ I oI C oC D ys m₂ h tk (E' : Value → Shared → Prop), NsObj oC m₂ → m₂ x = some (.ref u.tup) → Fr h₀ L h m → News h₀ L h ((I, oI) :: (C, oC) :: (D, lst ys) :: news) →
      wpAny (model prog w) A (isTrue ct (compEnvC scope cl C env) (eval ct (compEnvC scope cl C env))) (fun ok s' => ok = kp u ∧ ∃ tk', s' = { s with heap := h, toks := tk' }) E' { s with heap := h, toks := tk })
    (hk : ∀ C, (compEnvC scope cl C env).scope.kind = .function) (hl : ∀ C, (compEnvC scope cl C env).kindOf x = some .local) (hd : (x == ("__debug__" : Str)) = false)
    (fin : Fin (refsOf (uses.filter kp)) news) : CompRestT prog w A h₀ L m env ct (.Name x px) x scope cl s S (fun i v => (refsOf uses).toArray[i]? = some v) Fin (refsOf uses).toArray.size 0 [] news := by
  refine compRestT_inv (NN := (refsOf uses).toArray.size) (J := fun i ys n => n = news ∧ ys = refsOf ((uses.take i).filter kp)) ?_ ?_ _ 0 [] news (by simp) ⟨rfl, by simp [refsOf]⟩
  · rintro i ys n hi ⟨rfl, rfl⟩ v I oI C oC D m₂ h tk E' hv hC hx F N off q
    obtain ⟨u, hu, rfl⟩ := item_refs hv
    have hum : u ∈ uses := List.mem_of_getElem? hu
    have htake : uses.take (i + 1) = uses.take i ++ [u] := by rw [List.take_add_one, hu]; rfl
    refine wpAny_mono (ev u hum I oI C oC D _ m₂ h tk E' hC hx F N) (fun ok s' hk' => ?_) fun _ _ e => e
    obtain ⟨rfl, tk', rfl⟩ := hk'
    split
    · rename_i ht
      refine LCgL.ld_own (s := { s with heap := h, toks := tk' }) N (List.mem_cons_of_mem _ (List.mem_cons_self ..)) hC hx ?_ (hk C) (hl C) hd
      exact ⟨h, tk', n, rfl, F, N, off, hS, rfl, by rw [htake, List.filter_append]; simp [ht, refsOf]⟩
    · rename_i ht
      exact ⟨h, tk', n, rfl, F, N, off, hS, rfl, by rw [htake, List.filter_append]; simp [ht, refsOf]⟩
  · rintro ys n ⟨rfl, rfl⟩
    rw [List.size_toArray, List.length_map, List.take_length]
    exact fin
/-- [ELEMENT for a, b in uses]: the element reads alone -/
theorem up_rest {elt : PySem.Expr} {x x₂ : Str} {scope : Scope} {cl : List (Str × Addr)} {S : List (Addr × Obj) → Prop} {Fin : List Value → List (Addr × Obj) → Prop} {res : Use → Value} (hS : S news) (hus : ∀ u ∈ uses, (u.tup, u.obj) ∈ news)
    (ev : ∀ u ∈ uses, ∀ I oI C oC D ys m₂ h tk (E' : Value → Shared → Prop), NsObj oC m₂ → m₂ x = some (.str u.key u.kt) → m₂ x₂ = some (.int u.val u.vt) → Fr h₀ L h m → News h₀ L h ((I, oI) :: (C, oC) :: (D, lst ys) :: news) →
      wpAny (model prog w) A (eval elt (compEnvC scope cl C env)) (fun y s' => y = res u ∧ ∃ tk', s' = { s with heap := h, toks := tk' }) E' { s with heap := h, toks := tk })
    (fin : Fin (uses.map res) news) : CompRestP prog w A h₀ L m env elt x x₂ scope cl s S (fun i v => (refsOf uses).toArray[i]? = some v) Fin (refsOf uses).toArray.size 0 [] news := by
  refine compRestP_inv (NN := (refsOf uses).toArray.size) (J := fun i ys n => n = news ∧ ys = (uses.take i).map res) ?_ ?_ _ 0 [] news (by simp) ⟨rfl, by simp⟩
  · rintro i ys n hi ⟨rfl, rfl⟩ v hv
    obtain ⟨u, hu, rfl⟩ := item_refs hv
    have hum : u ∈ uses := List.mem_of_getElem? hu
    have htake : uses.take (i + 1) = uses.take i ++ [u] := by rw [List.take_add_one, hu]; rfl
    refine ⟨u.tup, u.obj, _, _, _, rfl, hus u hum, rfl, rfl, fun I oI C oC D m₂ h tk E' hC hx hx2 F N off q => ?_⟩
    refine wpAny_mono (ev u hum I oI C oC D _ m₂ h tk E' hC hx hx2 F N) (fun y s' hy => ?_) fun _ _ e => e
    obtain ⟨rfl, tk', rfl⟩ := hy
    exact ⟨h, tk', n, rfl, F, N, off, hS, rfl, by rw [htake, List.map_append]; rfl⟩
  · rintro ys n ⟨rfl, rfl⟩
    rw [List.size_toArray, List.length_map, List.take_length]
    exact fin
theorem off1_mem {D : Addr} : ∀ {l : List (Addr × Obj)}, Off1 D l → ∀ p ∈ l, p.1 ≠ D
  | [], _, _, h => nomatch h
  | _ :: _, x, p, h => by
    rcases List.mem_cons.mp h with rfl | h
    · exact x.1
    · exact off1_mem x.2 p h
theorem add_new {l b : Addr} {vs ws : List Value} {e1 e2 : Nat} {Q : Value → Shared → Prop} (F : Fr h₀ L s.heap m) (N : News h₀ L s.heap news) (hl : (l, W.listOf vs.toArray e1) ∈ news) (hb : (b, W.listOf ws.toArray e2) ∈ news) (hsz : vs.length + ws.length ≤ 1000)
    (h : ∀ D h', Fr h₀ L h' m → News h₀ L h' ((D, W.listOf (vs ++ ws).toArray 0) :: news) → (∀ p ∈ news, p.1 < D) → Q (.ref D) { s with heap := h' }) : wpAny (model prog w) A (binaryOp .Add (.ref l) (.ref b)) Q E s :=
  add_lists F N ⟨_, (N _ hl).1, rfl, _, rfl⟩ ⟨_, (N _ hb).1, rfl, _, rfl⟩ (fun h' F' N' => h _ h' F' N' fun p hp => Heap.lt_size (N p hp).1) (by rw [sizeLine_eq]; omega)
theorem compEnd_new {s₁ : Shared} {I C D t : Addr} {oI oC oD o : Obj} {S : List (Addr × Obj) → Prop} {rest : Value → List (Addr × Obj) → Prop} {y : Value} {h' : Heap} {tk : Nat} (F : Fr h₀ L h' m) (N : News h₀ L h' ((t, o) :: (I, oI) :: (C, oC) :: (D, oD) :: news))
    (hI : I < t) (hC : C < t) (hD : D < t) (off : Off3 I C D news) (hS : S ((t, o) :: news)) (r : rest y ((t, o) :: news)) : CompEnd h₀ L m s₁ I oI C oC D oD S rest y { s₁ with heap := h', toks := tk } :=
  CompEnd.intro F N ((t, o) :: news) (fun p hp => by simp only [List.mem_cons] at hp ⊢; rcases hp with e | e | e | e | e <;> simp [e]) ⟨⟨Nat.ne_of_gt hI, Nat.ne_of_gt hC, Nat.ne_of_gt hD⟩, off⟩ hS r
end
end Mine1
end
section
open PySem PySem.W PySem.Calls PyProof.Rows PyProof.Rows.LCg
namespace Mine1
set_option maxRecDepth 100000
set_option maxHeartbeats 4000000
def useTo (u : Use) : Addr × Value × Value := (u.tup, .str u.key u.kt, .int u.val u.vt)
def useOf : Addr × Value × Value → Use
  | (t, .str k kt, .int v vt) => ⟨k, kt, v, vt, t⟩
  | (t, _, _) => ⟨Str.ofString "", 0, 0, 0, t⟩
theorem useOf_to (u : Use) : useOf (useTo u) = u := rfl
section
variable {prog : Program} {w : World} {A : Around} {E : Value → Shared → Prop} {s₁ : Shared} {h₀ : Heap} {L U : Addr} {m : Str → Option Value} {env : Env} {news : List (Addr × Obj)} {uses : List Use} {kp : Use → Bool} {ep : Nat}
theorem pu_src {c : PySem.Expr} {a b : Str} {pe : Pos} {scope : Scope} {cl : List (Str × Addr)} {Fin : Shared → List Value → List (Addr × Obj) → Prop} (hh : A.handled = none) (hlen : uses.length ≤ 1000)
    (F : Fr h₀ L s₁.heap m) (N : News h₀ L s₁.heap news) (hU : (U, W.listOf (refsOf uses).toArray ep) ∈ news) (hus : ∀ u ∈ uses, (u.tup, u.obj) ∈ news)
    (hk : ∀ C, (compEnvC scope cl C env).scope.kind = .function) (hl : ∀ C, (compEnvC scope cl C env).kindOf b = some .local) (hd : (b == ("__debug__" : Str)) = false)
    (ev : ∀ u ∈ uses, ∀ C oC m₂ h tk (E' : Value → Shared → Prop), NsObj oC m₂ → m₂ a = some (.str u.key u.kt) → m₂ b = some (.int u.val u.vt) → Fr h₀ L h m → News h₀ L h ((C, oC) :: news) →
      wpAny (model prog w) A (isTrue c (compEnvC scope cl C env) (eval c (compEnvC scope cl C env))) (fun ok s' => ok = kp u ∧ ∃ tk', s' = { s₁ with heap := h, toks := tk' }) E' { s₁ with heap := h, toks := tk })
    (fin : Fin s₁ ((uses.filter kp).map fun u => .int u.val u.vt) news) : PtSrc prog w A h₀ L m env c (.Name b pe) a b scope cl Fin (.ref U) s₁ := by
  refine ⟨U, ep, uses.map useTo, fun p => kp (useOf p), fun p => p.2.2, news, rfl, hh, by rw [List.length_map]; exact hlen, F, N, by rw [List.map_map]; exact hU, ?_, ?_, ?_, ?_⟩
  · intro p hp
    obtain ⟨u, hu, rfl⟩ := List.mem_map.mp hp
    exact ⟨u.obj, _, hus u hu, rfl, rfl⟩
  · intro p hp C h tk m₂ E' hC hC0 hoff hn ha hb F' N'
    obtain ⟨u, hu, rfl⟩ := List.mem_map.mp hp
    obtain ⟨oC, e, hoC⟩ := ns_obj hn
    exact ev u hu C oC m₂ h tk E' hoC ha hb F' fun q hq => by
      rcases List.mem_cons.mp hq with rfl | hq
      · exact ⟨e, hC, hC0⟩
      · exact N' q hq
  · intro p hp _ C h tk m₂ E' hC hC0 hoff hn ha hb F' N'
    obtain ⟨u, hu, rfl⟩ := List.mem_map.mp hp
    obtain ⟨oC, e, hoC⟩ := ns_obj hn
    have N2 : News h₀ L h ((C, oC) :: news) := fun q hq => by
      rcases List.mem_cons.mp hq with rfl | hq
      · exact ⟨e, hC, hC0⟩
      · exact N' q hq
    exact LCgL.ld_own (s := { s₁ with heap := h, toks := tk }) N2 (List.mem_cons_self ..) hoC hb ⟨rfl, tk, rfl⟩ (hk C) (hl C) hd
  · have e : ((uses.map useTo).filter fun p => kp (useOf p)).map (fun p => p.2.2) = (uses.filter kp).map fun u => .int u.val u.vt := by
      rw [List.filter_map, List.map_map]; rfl
    rw [e]; exact fin
end
theorem bne_dec (a b : Str) : (a != b) = decide (a ≠ b) := by by_cases h : a = b <;> simp [h]
/-! the loop's ledger after a deed that turns the state, the name and the times alone -/
section
variable {w : World} {X : FX} {fix news news' : List (Addr × Obj)} {U : Addr} {uses : List Use} {tv tv' : List Value} {n : Int} {b : Bool} {rows : List (Row Str)} {h₀ h : Heap} {L : Addr}
theorem LB.turn (N : News h₀ L h news) (B : LB X fix news U uses tv) (hfo : ∀ q ∈ fix, q.1 ≠ X.T ∧ q.1 ≠ X.st ∧ q.1 ≠ X.kn) (hU : U ≠ X.T ∧ U ≠ X.st ∧ U ≠ X.kn) (F : ∀ q ∈ news, q.1 ≠ X.st → q.1 ≠ X.kn → q.1 ≠ X.T → q ∈ news')
    {ep2 : Nat} (hT : (X.T, W.listOf tv'.toArray ep2) ∈ news') {pos seed : Int} {tp t : Tok} {ep : Nat} (p0 : 0 ≤ pos) (s0 : 0 ≤ seed) (hst : (X.st, W.listOf #[.ref X.sc, .int pos tp, .int seed t] ep) ∈ news') {o : Obj} {v : Option Value} (hkn : (X.kn, o) ∈ news') (hd : o.data = .cell v) : LB X fix news' U uses tv' := by
  obtain ⟨⟨uep, h1⟩, h2, ⟨tep, h3⟩, ⟨_, _, _, _, _, -, -, h4⟩, h5, ⟨ok, vk, h6, h7⟩⟩ := B
  refine ⟨⟨uep, F _ h1 hU.2.1 hU.2.2 hU.1⟩, fun u hu => F _ (h2 u hu) ?_ ?_ ?_, ⟨ep2, hT⟩, ⟨pos, tp, seed, t, ep, p0, s0, hst⟩, fun q hq => F q (h5 q hq) (hfo q hq).2.1 (hfo q hq).2.2 (hfo q hq).1, ⟨o, v, hkn, hd⟩⟩
  · exact news_nec N (h2 u hu) h4 (by simp)
  · exact news_ne N (h2 u hu) h6 fun e => by rw [← e] at h7; cases h7
  · exact news_nec N (h2 u hu) h3 (by simp)
theorem LB.turnN {g : Heap} {L2 : Addr} {h' : Heap} (_N : News g L2 h' news') (N : News h₀ L h news) (B : LB X fix news U uses tv) (hfo : ∀ q ∈ fix, q.1 ≠ X.T ∧ q.1 ≠ X.st ∧ q.1 ≠ X.kn) (hU : U ≠ X.T ∧ U ≠ X.st ∧ U ≠ X.kn) (F : ∀ q ∈ news, q.1 ≠ X.st → q.1 ≠ X.kn → q.1 ≠ X.T → q ∈ news')
    {ep2 : Nat} (hT : (X.T, W.listOf tv'.toArray ep2) ∈ news') {pos seed : Int} {tp t : Tok} {ep : Nat} (hst : (X.st, W.listOf #[.ref X.sc, .int pos tp, .int seed t] ep) ∈ news') (p0 : 0 ≤ pos) (s0 : 0 ≤ seed) {o : Obj} {v : Option Value} (hkn : (X.kn, o) ∈ news') (hd : o.data = .cell v) : LB X fix news' U uses tv' :=
  LB.turn N B hfo hU F hT p0 s0 hst hkn hd
theorem CS.turn {keep : List Addr} {c cd dd mx md : Addr} {cap thr : Int} {al : Value} (off : List Addr) (N : News h₀ L h news) (C : CS w keep news c cd dd mx md n cap thr al b rows)
    (hoff : ∀ a ∈ off, ∃ o, (a, o) ∈ news ∧ ((∃ v, o.data = .cell v) ∨ (∃ vs ep, o = W.listOf vs ep) ∧ a ∈ keep)) (F : ∀ q ∈ news, q.1 ∉ off → q ∈ news') : CS w keep news' c cd dd mx md n cap thr al b rows := by
  have go : ∀ q ∈ news, (∀ v, q.2.data ≠ .cell v) → ((∀ vs ep, q.2 ≠ W.listOf vs ep) ∨ q.1 ∉ keep) → q ∈ news' := fun q hq e1 e2 => F q hq fun hm => by
    obtain ⟨o, ho, e⟩ := hoff _ hm
    have := news_same N ho hq rfl
    have e4 : q.2 = o := congrArg Prod.snd this
    rcases e with ⟨v, e⟩ | ⟨⟨vs, ep, e⟩, hk⟩
    · exact e1 v (by rw [e4]; exact e)
    · rcases e2 with e2 | e2
      · exact e2 vs ep (by rw [e4]; exact e)
      · exact e2 hk
  have C0 := C
  obtain ⟨⟨t, tc, tt, h1⟩, h2, ⟨od, h3, hdi⟩, h4, ⟨hs', hk, h5⟩, hrows, -, -, -, -, -, -, -, -, -, -, hof⟩ := C
  have hc := dict_cls hdi
  have g1 := go _ h1 (fun v e => by cases e) (.inl fun _ _ e => by have q := congrArg Obj.cls e; simp at q)
  have g2 := go _ h2 (fun v e => by cases e) (.inl fun _ _ e => by have q := congrArg Obj.cls e; simp at q)
  have g3 : (dd, od) ∈ news' := go _ h3 (fun v e => by obtain ⟨_, _, _, e2, _⟩ := hdi; dsimp only at e; rw [e2] at e; cases e) (.inl fun _ _ e => by have q := congrArg Obj.cls e; dsimp only at q; rw [hc] at q; simp at q)
  have g4 := go _ h4 (fun v e => by cases e) (.inl fun _ _ e => by have q := congrArg Obj.cls e; simp at q)
  have g5 := go _ h5 (fun v e => by cases e) (.inl fun _ _ e => by have q := congrArg Obj.cls e; simp at q)
  exact { C0 with
    hc := ⟨t, tc, tt, g1⟩
    hcd := g2
    hdd := ⟨od, g3, hdi⟩
    hmx := g4
    hmd := ⟨_, _, g5⟩
    hrows := fun r hr => ⟨go _ (hrows r hr).1 (fun v e => by cases e) (.inl fun _ _ e => by have q := congrArg Obj.cls e; simp at q), go _ (hrows r hr).2 (fun v e => by cases e) (.inr (hof r hr))⟩ }
theorem memN {g : Heap} {L2 : Addr} {h' : Heap} (_N : News g L2 h' news') {q : Addr × Obj} (h : q ∈ news') : q ∈ news' := h
theorem CS.turnN {keep : List Addr} {c cd dd mx md : Addr} {cap thr : Int} {al : Value} {g : Heap} {L2 : Addr} {h' : Heap} (_N : News g L2 h' news') (off : List Addr) (N : News h₀ L h news) (C : CS w keep news c cd dd mx md n cap thr al b rows)
    (hoff : ∀ a ∈ off, ∃ o, (a, o) ∈ news ∧ ((∃ v, o.data = .cell v) ∨ (∃ vs ep, o = W.listOf vs ep) ∧ a ∈ keep)) (F : ∀ q ∈ news, q.1 ∉ off → q ∈ news') : CS w keep news' c cd dd mx md n cap thr al b rows := CS.turn off N C hoff F
end
end Mine1
end
section
open PySem PySem.W PyProof.Rows PyProof.Rows.LCg
namespace Mine1
set_option maxRecDepth 100000
set_option maxHeartbeats 8000000
local macro_rules | `(tactic| k_all) => `(tactic| first | assumption)
local macro_rules | `(tactic| k_ne) => `(tactic| (refine neN ?_; (try dsimp only); first | assumption | (apply Ne.symm; assumption)))
local macro_rules | `(tactic| k_room) => `(tactic| ((try simp only [depth_under_make, depth_under_kw, depth_in1, depth_deeper, depth_caller]); show _ < 1000; omega))
local macro_rules | `(tactic| walk_at "delItem ref") => `(tactic| (k_dflt (refine' delItem_own ?k1 ?k2 ?k3 ?k4 ?k5 ?k6 ?_; (case k1 => k_asm); (case k2 => k_asm); (case k3 => k_inst); (case k4 => k_is); (case k5 => k_is); (case k6 => k_is); k_whole)))
variable {w : World} {A₀ : Around} {d u : Nat} {gs : Option (List Code)} {nm : List (Str × NameKind)} {mo : List (Str × PySem.Const)} {gl : Addr} {cl : List (Str × Addr)} {ql : Str} {fn : Option Addr} {co : Value} {bi : Addr} {outer : List Env}
  {base h₀ : Heap} {L : Addr} {s : Shared} {m mg mb : Str → Option Value} {mean : ExcName → Option Value} {loose : List Str} {p : Program} {news : List (Addr × Obj)} {Q : Value → Shared → Prop} {E : Value → Shared → Prop} {keep : List Addr}
section
variable {A : Around} {env : Env}
theorem len_led {prog : Program} {l : Addr} {vs : List Value} {ep n : Nat} {Q : Value → Shared → Prop} (N : News h₀ L s.heap news) (hl : (l, W.listOf vs.toArray ep) ∈ news) (hn : vs.length = n) (hsz : n ≤ 1000)
    (h : ∀ t tk, Q (.int (n : Int) t) { s with toks := tk }) : wpAny (model prog w) A (call (.builtin "len") [.ref l]) Q E s :=
  len_list ⟨_, (N _ hl).1, rfl, _, rfl⟩ (by rw [List.size_toArray, hn]; omega) (by rw [List.size_toArray, hn]; exact h _ _)
/-- the test use[0] != SOMETHING, within a block -/
theorem use_ne {C : Addr} {oC : Obj} {m₂ : Str → Option Value} {x k : Str} {px p0 p1 p2 : Pos} {kk : Nat} {u : Use} {rhs : PySem.Expr} {scope : Scope} {cl : List (Str × Addr)} {Q : Bool → Shared → Prop} (hh : A.handled = none) : (hd.heap_39 w.params).In h₀ → Fr h₀ L s.heap m → News h₀ L s.heap news → (C, oC) ∈ news → NsObj oC m₂ → m₂ x = some (.ref u.tup) → (u.tup, u.obj) ∈ news →
    (compEnvC scope cl C env).scope.kind = .function → (compEnvC scope cl C env).kindOf x = some .local → (x == ("__debug__" : Str)) = false → behindInMarks .NotEq rhs = false →
    (∀ tk1 (Q' : Value → Shared → Prop), (∀ t tk2, Q' (.str k t) { s with toks := tk2 }) → wpAny (model PySem.Challenge.rw_eu0033_01.row.prog w) A (eval rhs (compEnvC scope cl C env)) Q' E { s with toks := tk1 }) →
    (∀ tk', Q (decide (u.key ≠ k)) { s with toks := tk' }) →
    wpAny (model PySem.Challenge.rw_eu0033_01.row.prog w) A (isTrue (.Compare (.Subscript (.Name x px) (.Constant (.int 0) kk p0) p1) [.NotEq] [rhs] p2) (compEnvC scope cl C env) (eval (.Compare (.Subscript (.Name x px) (.Constant (.int 0) kk p0) p1) [.NotEq] [rhs] p2) (compEnvC scope cl C env))) Q E s := by
  intro X F N hC hoC hx hu hk hl hdb hm hr h
  refine wpAny_isTrue_Compare1 ?_ hm
  refine Subscript_ ?_
  refine LCgL.ld_own N hC hoC hx ?_ hk hl hdb
  refine wpAny_Constant_int ?_
  refine item_tupleT (j := 0) (l := [.str u.key u.kt, .int u.val u.vt]) ⟨_, (N _ hu).1, rfl, _, rfl⟩ (by decide) (by decide) rfl rfl ?_
  refine hr _ _ fun t tk2 => ?_
  refine ne_str ?_
  refine wpAny_truthy_bool ?_
  show Q (u.key != k) _
  rw [bne_dec]
  exact h _
/-- [use for use in uses if use[0] != SOMETHING] -/
theorem uf_ne {uses : List Use} {x k : Str} {px px2 p0 p1 p2 : Pos} {kk : Nat} {rhs : PySem.Expr} {scope : Scope} {cl : List (Str × Addr)} {S : List (Addr × Obj) → Prop} {Fin : List Value → List (Addr × Obj) → Prop} (hh : A.handled = none) (X : (hd.heap_39 w.params).In h₀) (hS : S news) (hus : ∀ u ∈ uses, (u.tup, u.obj) ∈ news)
    (hk : ∀ C, (compEnvC scope cl C env).scope.kind = .function) (hl : ∀ C, (compEnvC scope cl C env).kindOf x = some .local) (hd : (x == ("__debug__" : Str)) = false) (hm : behindInMarks .NotEq rhs = false)
    (hr : ∀ (C : Addr) (s' : Shared) (E' : Value → Shared → Prop) (Q' : Value → Shared → Prop), News h₀ L s'.heap news → (∀ t tk, Q' (.str k t) { s' with toks := tk }) → wpAny (model PySem.Challenge.rw_eu0033_01.row.prog w) A (eval rhs (compEnvC scope cl C env)) Q' E' s')
    (fin : Fin (refsOf (uses.filter fun u => decide (u.key ≠ k))) news) : LCt.CompRestT PySem.Challenge.rw_eu0033_01.row.prog w A h₀ L m env (.Compare (.Subscript (.Name x px) (.Constant (.int 0) kk p0) p1) [.NotEq] [rhs] p2) (.Name x px2) x scope cl s S (fun i v => (refsOf uses).toArray[i]? = some v) Fin (refsOf uses).toArray.size 0 [] news := by
  refine uf_rest (kp := fun u => decide (u.key ≠ k)) hS (fun u hu I oI C oC D ys m₂ h tk E' hC hx F N => ?_) hk hl hd fin
  refine use_ne (s := { s with heap := h, toks := tk }) hh X F N (List.mem_cons_of_mem _ (List.mem_cons_self ..)) hC hx (List.mem_cons_of_mem _ (List.mem_cons_of_mem _ (List.mem_cons_of_mem _ (hus u hu)))) (hk C) (hl C) hd hm (fun tk1 Q' hq => ?_) fun tk' => ⟨rfl, tk', rfl⟩
  exact hr C { s with heap := h, toks := tk1 } E' Q' (fun q hq => N q (List.mem_cons_of_mem _ (List.mem_cons_of_mem _ (List.mem_cons_of_mem _ hq)))) hq
end
end Mine1
end
section
open PySem PySem.W PyProof.Rows
namespace Mine1
open MineS MineP
set_option maxRecDepth 100000
set_option maxHeartbeats 8000000
local macro_rules | `(tactic| k_all) => `(tactic| first | assumption)
local macro_rules | `(tactic| k_ne) => `(tactic| (refine neN ?_; (try dsimp only); first | assumption | (apply Ne.symm; assumption)))
local macro_rules | `(tactic| k_room) => `(tactic| ((try simp only [depth_under_make, depth_under_kw, depth_in1, depth_deeper, depth_caller]); show _ < 1000; omega))
local macro_rules | `(tactic| walk_at "delItem ref") => `(tactic| (k_dflt (refine' delItem_own ?k1 ?k2 ?k3 ?k4 ?k5 ?k6 ?_; (case k1 => k_asm); (case k2 => k_asm); (case k3 => k_inst); (case k4 => k_is); (case k5 => k_is); (case k6 => k_is); k_whole)))
variable {w : World} {A₀ : Around} {d u : Nat} {gs : Option (List Code)} {nm : List (Str × NameKind)} {mo : List (Str × PySem.Const)} {gl : Addr} {cl : List (Str × Addr)} {ql : Str} {fn : Option Addr} {co : Value} {bi : Addr} {outer : List Env}
  {base h₀ : Heap} {L : Addr} {s : Shared} {m mg mb : Str → Option Value} {mean : ExcName → Option Value} {loose : List Str} {p : Program} {news : List (Addr × Obj)} {Q : Value → Shared → Prop} {E : Value → Shared → Prop} {keep : List Addr}
local macro_rules | `(tactic| walk_at "subscriptTail") => `(tactic| ((with_reducible show wpAny _ _ (subscriptTail _ _ (Value.ref _) (Value.str _ _)) _ _ _); k_dflt (refine item_missing (knd := PySem.strKind _ _) (by k_asm) (by k_mem) (by k_asm) (by k_asm) (strKind_is _ _ _ _) (by rfl) (by assumption) ?_); intro h' e' x'))
local macro_rules | `(tactic| walk_at "call builtin:dict.get") => `(tactic| (k_dflt (refine kdg_get1 (knd := PySem.strKind _ _) (by k_asm) (by k_mem) (by k_asm) (by k_asm) (strKind_is _ _ _ _) _ (by assumption) ?_); (try dsimp only [Option.getD])))
local macro_rules | `(tactic| walk_at "getItem ref str") => `(tactic| (k_dflt (refine kdt_getItem (knd := PySem.strKind _ _) (by k_asm) (by k_mem) (by k_asm) (strKind_is _ _ _ _) (by assumption) ?_)))
local macro_rules | `(tactic| walk_at "getItem ref str") => `(tactic| (k_dflt (refine getItem_missing (knd := PySem.strKind _ _) (by k_asm) (by k_mem) (by k_asm) (by k_asm) (strKind_is _ _ _ _) (by rfl) (by assumption) ?_); intro h' e' x'))
local macro_rules | `(tactic| walk_at "delItem ref str") => `(tactic| (k_dflt (refine' kob_del (knd := PySem.strKind _ _) ?F ?N ?U ?d (strKind_is _ _ _ _) ?l ?z ?_; (case F => k_asm); (case N => k_asm); (case U => k_updF); (case d => k_asm); (case l => assumption); (case z => rw [sizeLine_eq]; omega)); intro h' o' F' N' hd'; (try dsimp only at N')))
local macro_rules | `(tactic| walk_at "delItem ref str") => `(tactic| (k_dflt (refine delItem_missing (knd := PySem.strKind _ _) (by k_asm) (by k_mem) (by k_asm) (by k_asm) (strKind_is _ _ _ _) (by rfl) (by assumption) ?_); intro h' e' x'))
local macro_rules | `(tactic| walk_at "call builtin:len") => `(tactic| ((with_reducible show wpAny _ _ (call (Value.builtin "len") [Value.ref _]) _ _ _); k_dflt (refine kda_len (knd := PySem.strKind _ _) (by k_asm) (by k_mem) (by k_asm) (by k_asm) (by omega) ?_)))
variable {c cd dd mx md : Addr} {n : Int} {t : Tok} {cap al thr : Value} {od : Obj} {kvs : List (Str × Value)}
theorem iter_own : d ≤ 500 → Below A₀ base outer h₀ → (hd.heap_39 w.params).In h₀ → Top p loose mean mg mb h₀ → Fr h₀ L s.heap m → News h₀ L s.heap news →
    (c, cacheObj cd dd mx n t cap al thr) ∈ news → (cd, dictOf [] 0) ∈ news → (dd, od) ∈ news → od.IsDictOf (PySem.strKind PySem.Challenge.rw_eu0033_01.row.prog w) kvs → (dd == sysModules) = false → kvs.length ≤ 60 →
    (∀ h' tk' I o ep, Fr h₀ L h' m → News h₀ L h' ((I, o) :: news) → (∀ q ∈ news, q.1 < I) → KdkIter o dd 0 kvs.length ep → KdkAt (PySem.strKind PySem.Challenge.rw_eu0033_01.row.prog w) od kvs ep → Q (.ref I) { s with heap := h', toks := tk' }) →
    wpAny (model PySem.Challenge.rw_eu0033_01.row.prog w) (AA d u gs nm mo gl cl ql fn co bi L outer) (call (.ref 138) [.ref c]) Q E s := by
  k_fill
  intro hdp B X T F N h1 h2 h3 hdi lo hn K
  have hc := dict_cls hdi
  have n6 : dd ≠ c := news_nec N h3 h1 (by rw [hc]; simp)
  have n1 : cd ≠ c := news_nec N h2 h1 (by simp)
  have N1 : News h₀ L s.heap ((c, cacheObj cd dd mx n t cap al thr) :: (cd, dictOf [] 0) :: (dd, od) :: news) := news_cons N h1 (news_cons N h2 (news_cons N h3 N))
  clear N h1 h2 h3
  k_steps
  with_reducible rename KdkIter _ _ _ _ _ => hi
  with_reducible rename KdkAt _ _ _ _ => ha
  with_reducible rename News h₀ L _ _ => N9
  with_reducible rename _ ∧ _ => hl
  exact K _ _ _ _ _ (by assumption) (news_cons N9 (.head _) (news_mono N9 fun q hq => by simp [hq])) (allLt_mem hl.2.2.2) hi ha
theorem len_own : d ≤ 500 → Below A₀ base outer h₀ → (hd.heap_39 w.params).In h₀ → Top p loose mean mg mb h₀ → Fr h₀ L s.heap m → News h₀ L s.heap news →
    (c, cacheObj cd dd mx n t cap al thr) ∈ news → (cd, dictOf [] 0) ∈ news → (dd, od) ∈ news → od.IsDictOf (PySem.strKind PySem.Challenge.rw_eu0033_01.row.prog w) kvs → (dd == sysModules) = false → kvs.length ≤ 60 →
    (∀ h' tk' t', Fr h₀ L h' m → News h₀ L h' news → Q (.int kvs.length t') { s with heap := h', toks := tk' }) →
    wpAny (model PySem.Challenge.rw_eu0033_01.row.prog w) (AA d u gs nm mo gl cl ql fn co bi L outer) (call (.builtin "len") [.ref c]) Q E s := by
  k_fill
  intro hdp B X T F N h1 h2 h3 hdi lo hn K
  have N1 : News h₀ L s.heap ((c, cacheObj cd dd mx n t cap al thr) :: (cd, dictOf [] 0) :: (dd, od) :: news) := news_cons N h1 (news_cons N h2 (news_cons N h3 N))
  clear N h1 h2 h3
  k_steps
  with_reducible rename News h₀ L _ _ => N9
  exact K _ _ _ (by assumption) (news_mono N9 fun q hq => by simp [hq])
theorem lenc_cs {rows : List (Row Str)} {n cap thr : Int} {b : Bool} : d ≤ 390 → Below A₀ base outer h₀ → (hd.heap_39 w.params).In h₀ → Top p loose mean mg mb h₀ → Fr h₀ L s.heap m → News h₀ L s.heap news →
    CS w keep news c cd dd mx md n cap thr al b rows →
    (∀ h' tk' t', Fr h₀ L h' m → News h₀ L h' news → Q (.int rows.length t') { s with heap := h', toks := tk' }) →
    wpAny (model PySem.Challenge.rw_eu0033_01.row.prog w) (AA d u gs nm mo gl cl ql fn co bi L outer) (call (.builtin "len") [.ref c]) Q E s := by
  intro hdp B X T F N C K
  obtain ⟨⟨t, tc, tt, h1⟩, h2, ⟨od, h3, hdi⟩, h4, ⟨hs, hk, h5⟩, hrows, hkt, hval, hkn, hnd, hnl, hlen, n2, n7, n8, lo, hoff⟩ := C
  have el : (kvsOf rows).length = rows.length := by simp [kvsOf]
  rw [← el] at K
  exact len_own (by omega) B X T F N h1 h2 h3 hdi lo (by omega) K
theorem sorted_cs {rows : List (Row Str)} {n cap thr : Int} {b : Bool} : d ≤ 390 → Below A₀ base outer h₀ → (hd.heap_39 w.params).In h₀ → Top p loose mean mg mb h₀ → Fr h₀ L s.heap m → News h₀ L s.heap news →
    CS w keep news c cd dd mx md n cap thr al b rows →
    (∀ D h' tk' e srt, (srt.map (·.1)).Perm (rows.map (·.key)) → (srt.map (·.1)).Pairwise tlt → Fr h₀ L h' m → News h₀ L h' ((D, W.listOf (txs srt).toArray e) :: news) → (∀ q ∈ news, q.1 < D) → Q (.ref D) { s with heap := h', toks := tk' }) →
    wpAny (model PySem.Challenge.rw_eu0033_01.row.prog w) (AA d u gs nm mo gl cl ql fn co bi L outer) (call (.builtin "sorted") [.ref c]) Q E s := by
  k_fill
  intro hdp B X T F N C K
  obtain ⟨⟨t, tc, tt, h1⟩, h2, ⟨od, h3, hdi⟩, h4, ⟨hs, hk, h5⟩, hrows, hkt, hval, hkn, hnd, hnl, hlen, n2, n7, n8, lo, hoff⟩ := C
  have ek : (kvsOf rows).map (·.1) = rows.map (·.key) := by simp [kvsOf]
  have el : (kvsOf rows).length = rows.length := by simp [kvsOf]
  refine sorted_own (kvs := kvsOf rows) (fi := 138) (fl := 145) rfl F N X (fun h N' => InstAt.of_news N' h1 h2) h3 (by k_is) (by k_is) (by k_is) ⟨_, h1⟩ (by omega) (by rw [ek]; exact hkn) ?ci ?cl fun D h' tk' e srt hp hs F' N' hD => K D h' tk' e srt (by rw [← ek]; exact hp) hs F' N' hD
  case ci =>
    intro s1 news1 Q' E' hsub F1 N1 K1
    exact iter_own (d := d) (u := u + 1 + 1) (by omega) B X T F1 N1 (hsub _ h1) (hsub _ h2) (hsub _ h3) hdi lo (by omega) K1
  case cl =>
    intro s1 news1 Q' E' hsub F1 N1 K1
    exact len_own (d := d) (u := u + 1 + 1) (by omega) B X T F1 N1 (hsub _ h1) (hsub _ h2) (hsub _ h3) hdi lo (by omega) K1
end Mine1
end
section
open PySem PySem.W PyProof.Rows
namespace Mine1
open MineS MineP
section
variable {prog : Program} {w : World} {A : Around} {E : Value → Shared → Prop} {s : Shared} {K : Frag} {x C L : Addr} {h₀ : Heap} {m : Str → Option Value} {ox : Obj} {name : Str}
/-- a property of a class with slots -/
theorem prop_slots {expr : Bool} {Q : Value → Shared → Prop} {p fget : Addr} {rest : List Value} {od : Obj} (hc : isClsIn K C = true) (hg : plainGet K C name = true) (ha : findIn K (.ref C) name = some (some (.ref p)))
    (hn : specialIn K (.ref p) "__get__" = some (some (.builtin "property.__get__"))) (ht : takesIn K (.ref p) = some true) (hp : recIn K p "property" = some (.ref fget :: rest)) (F : Fr h₀ L s.heap m) (X₀ : K.In h₀) (I : InstAt s.heap x ox C (some od))
    (h : codeAny (model prog w) A.in1 (.call (.ref fget) ⟨[.ref x], []⟩) (fun r s' => match r with | .ok (.ret v) => wpAny (model prog w) A (handedOut v) Q E s' | .ok _ => False | .error e => wpAny (model prog w) A (noteIf true (.ref x) (.str name s.toks) e) (fun _ s'' => E e s'') E s') { s with toks := s.toks + 1 }) :
    wpAny (model prog w) A (getAttr (.ref x) name expr) Q E s := by
  have X := X₀.keeps F.keep
  have hd := findObj_data (od := od) hc ha hn ht
  exact get_bind X I (plainGet_of hg).1 hd (plainGet_of hg).2 (wpAny_call (prop_get (s := { s with toks := s.toks + 1 }) X hp h))
end
set_option maxRecDepth 100000
set_option maxHeartbeats 8000000
local macro_rules | `(tactic| k_all) => `(tactic| first | assumption)
local macro_rules | `(tactic| k_ne) => `(tactic| (refine neN ?_; (try dsimp only); first | assumption | (apply Ne.symm; assumption)))
local macro_rules | `(tactic| k_room) => `(tactic| ((try simp only [depth_under_make, depth_under_kw, depth_in1, depth_deeper, depth_caller]); show _ < 1000; omega))
local macro_rules | `(tactic| walk_at "delItem ref") => `(tactic| (k_dflt (refine' delItem_own ?k1 ?k2 ?k3 ?k4 ?k5 ?k6 ?_; (case k1 => k_asm); (case k2 => k_asm); (case k3 => k_inst); (case k4 => k_is); (case k5 => k_is); (case k6 => k_is); k_whole)))
variable {w : World} {A₀ : Around} {d u : Nat} {gs : Option (List Code)} {nm : List (Str × NameKind)} {mo : List (Str × PySem.Const)} {gl : Addr} {cl : List (Str × Addr)} {ql : Str} {fn : Option Addr} {co : Value} {bi : Addr} {outer : List Env}
  {base h₀ : Heap} {L : Addr} {s : Shared} {m mg mb : Str → Option Value} {mean : ExcName → Option Value} {loose : List Str} {p : Program} {news : List (Addr × Obj)} {Q : Value → Shared → Prop} {E : Value → Shared → Prop} {keep : List Addr}
variable {c cd dd mx md : Addr} {n cap thr : Int} {t tc tt : Tok} {al : Value}
theorem size_own : d ≤ 500 → Below A₀ base outer h₀ → (hd.heap_39 w.params).In h₀ → Top p loose mean mg mb h₀ → Fr h₀ L s.heap m → News h₀ L s.heap news →
    (c, cacheObj cd dd mx n t (.int cap tc) al (.int thr tt)) ∈ news → (cd, dictOf [] 0) ∈ news → 0 ≤ cap → cap ≤ 4 → 0 ≤ thr → thr ≤ 2 →
    (∀ h' tk' t', Fr h₀ L h' m → News h₀ L h' news → Q (.int (cap + cap * thr) t') { s with heap := h', toks := tk' }) →
    wpAny (model PySem.Challenge.rw_eu0033_01.row.prog w) (AA d u gs nm mo gl cl ql fn co bi L outer) (getAttr (.ref c) (Str.ofString "size_threshold") true) Q E s := by
  k_fill
  intro hdp B X T F N h1 h2 c0 c4 t0 t2 K
  have N1 : News h₀ L s.heap ((c, cacheObj cd dd mx n t (.int cap tc) al (.int thr tt)) :: (cd, dictOf [] 0) :: news) := news_cons N h1 (news_cons N h2 N)
  clear N h1 h2
  refine' prop_slots (name := Str.ofString "size_threshold") ?k5 ?k4 ?k6 ?k7 ?k8 ?k9 ?k1 ?k2 ?k3 ?_
  case k1 => k_asm
  case k2 => k_asm
  case k3 => k_inst
  case k4 => k_is
  case k5 => k_is
  case k6 => k_is
  case k7 => k_is
  case k8 => k_is
  case k9 => k_is
  k_whole
  k_enter
  k_steps
  with_reducible rename News h₀ L _ _ => N9
  exact K _ _ _ (by assumption) (news_mono N9 fun q hq => by simp [hq])
end Mine1
end
section
open PySem PySem.W PyProof.Rows
namespace Mine1
open MineS MineP
set_option maxRecDepth 100000
set_option maxHeartbeats 8000000
local macro_rules | `(tactic| k_all) => `(tactic| first | assumption)
local macro_rules | `(tactic| k_ne) => `(tactic| (refine neN ?_; (try dsimp only); first | assumption | (apply Ne.symm; assumption)))
local macro_rules | `(tactic| k_room) => `(tactic| ((try simp only [depth_under_make, depth_under_kw, depth_in1, depth_deeper, depth_caller]); show _ < 1000; omega))
local macro_rules | `(tactic| walk_at "delItem ref") => `(tactic| (k_dflt (refine' delItem_own ?k1 ?k2 ?k3 ?k4 ?k5 ?k6 ?_; (case k1 => k_asm); (case k2 => k_asm); (case k3 => k_inst); (case k4 => k_is); (case k5 => k_is); (case k6 => k_is); k_whole)))
variable {w : World} {A₀ : Around} {d u : Nat} {gs : Option (List Code)} {nm : List (Str × NameKind)} {mo : List (Str × PySem.Const)} {gl : Addr} {cl : List (Str × Addr)} {ql : Str} {fn : Option Addr} {co : Value} {bi : Addr} {outer : List Env}
  {base h₀ : Heap} {L : Addr} {s : Shared} {m mg mb : Str → Option Value} {mean : ExcName → Option Value} {loose : List Str} {p : Program} {news : List (Addr × Obj)} {Q : Value → Shared → Prop} {E : Value → Shared → Prop} {keep : List Addr}
variable {c cd dd mx md : Addr} {n : Int} {al : Value} {cap thr : Int} {rows : List (Row Str)} {kt : Tok} {b : Bool} {r : Row Str}
theorem cs_touch {t t' tc tt : Tok} {h : Heap} (N : News h₀ L h news) (C : CS w keep news c cd dd mx md n cap thr al b rows) (h1 : (c, cacheObj cd dd mx n t (.int cap tc) al (.int thr tt)) ∈ news) (hr : r ∈ rows) :
    CS w keep ((c, cacheObj cd dd mx (n + 1) t' (.int cap tc) al (.int thr tt)) :: (r.lst, W.listOf #[.int (n + 1) t'] r.ep) :: wo [c, r.lst] news) c cd dd mx md (n + 1) cap thr al b (touch rows r.key (n + 1) t') := by
  obtain ⟨-, h2, ⟨od, h3, hdi⟩, h4, ⟨hs, hk, h5⟩, hrows, hkt, hval, hkn, hnd, hnl, hlen, n2, n7, n8, lo, hoff⟩ := C
  obtain ⟨q1, q2⟩ := hrows r hr
  have hc := dict_cls hdi
  have e1 : ∀ q ∈ news, q.1 ≠ c → q.1 ≠ r.lst → q ∈ (c, cacheObj cd dd mx (n + 1) t' (.int cap tc) al (.int thr tt)) :: (r.lst, W.listOf #[.int (n + 1) t'] r.ep) :: wo [c, r.lst] news := fun q hq a1 a2 => .tail _ (.tail _ (wo_mem hq (by simp [a1, a2])))
  refine { hc := ⟨_, _, _, .head _⟩, hcd := e1 _ h2 ?_ ?_, hdd := ⟨od, e1 _ h3 ?_ ?_, by rw [touch_kvs]; exact hdi⟩, hmx := e1 _ h4 ?_ ?_, hmd := ⟨_, _, e1 _ h5 ?_ ?_⟩, hrows := ?_, hkt := ?_, hval := ?_, hkn := by rw [touch_keys]; exact hkn, hnd := touch_ctrs hkn hnd hnl, hle := ?_, hlen := by simpa [touch] using hlen, n2 := n2, n7 := n7, n8 := n8, lo := lo, hoff := ?_ }
  · exact news_nec N h2 h1 (by simp)
  · exact news_nec N h2 q2 (by simp)
  · exact news_nec N h3 h1 (by rw [hc]; simp)
  · exact news_nec N h3 q2 (by rw [hc]; simp)
  · exact news_nec N h4 h1 (by simp)
  · exact news_nec N h4 q2 (by simp)
  · exact news_nec N h5 h1 (by simp)
  · exact news_nec N h5 q2 (by simp)
  · intro x hx
    obtain ⟨y, hy, rfl⟩ := List.mem_map.mp hx
    obtain ⟨p1, p2⟩ := hrows y hy
    by_cases e : y.key = r.key
    · have := key_inj hkn hy hr e
      subst this
      rw [if_pos rfl]
      exact ⟨e1 _ p1 (news_nec N p1 h1 (by simp)) (news_nec N p1 q2 (by simp)), .tail _ (.head _)⟩
    · rw [if_neg e]
      refine ⟨e1 _ p1 (news_nec N p1 h1 (by simp)) (news_nec N p1 q2 (by simp)), e1 _ p2 (news_nec N p2 h1 (by simp)) (news_ne N p2 q2 fun q => ?_)⟩
      have q' := congrArg Obj.data q
      simp only [W.listOf, Data.seq.injEq] at q'
      have q3 := congrArg Array.toList q'.1
      simp only [List.cons.injEq, Value.int.injEq] at q3
      exact e (congrArg Row.key (ctr_inj hnd hy hr q3.1.1))
  · intro x hx
    obtain ⟨y, hy, rfl⟩ := List.mem_map.mp hx
    obtain ⟨kt, e⟩ := hkt y hy
    split <;> exact ⟨kt, e⟩
  · intro x hx
    obtain ⟨y, hy, rfl⟩ := List.mem_map.mp hx
    obtain ⟨v, vt, e⟩ := hval y hy
    split <;> exact ⟨v, vt, e⟩
  · intro x hx
    obtain ⟨y, hy, rfl⟩ := List.mem_map.mp hx
    have := hnl y hy
    split <;> (try dsimp only) <;> omega
  · intro x hx
    obtain ⟨y, hy, rfl⟩ := List.mem_map.mp hx
    have := hoff y hy
    split <;> exact this
/-- cache[name], the key there; BIG: the whole ledger -/
theorem getitem_cs {big : List (Addr × Obj)} : d ≤ 390 → Below A₀ base outer h₀ → (hd.heap_39 w.params).In h₀ → Top p loose mean mg mb h₀ → Fr h₀ L s.heap m → News h₀ L s.heap big → (∀ q ∈ news, q ∈ big) →
    CS w keep news c cd dd mx md n cap thr al b rows → r ∈ rows →
    (∀ h' tk' t' news', Fr h₀ L h' m → News h₀ L h' news' → News h₀ L h' (wo [c, r.lst] big) → CS w keep news' c cd dd mx md (n + 1) cap thr al b (touch rows r.key (n + 1) t') →
      (∀ q ∈ news, q.1 ≠ c → q.1 ≠ r.lst → q ∈ news') → (∀ q ∈ news', ∃ o, (q.1, o) ∈ news) → Q r.val { s with heap := h', toks := tk' }) →
    wpAny (model PySem.Challenge.rw_eu0033_01.row.prog w) (AA d u gs nm mo gl cl ql fn co bi L outer) (call (.ref 131) [.ref c, .str r.key kt]) Q E s := by
  intro hdp B X T F N sub C hr K
  have C0 := C
  obtain ⟨⟨t, tc, tt, h1⟩, h2, ⟨od, h3, hdi⟩, h4, ⟨hs, hk, h5⟩, hrows, hkt, hval, hkn, hnd, hnl, hlen, n2, n7, n8, lo, hoff⟩ := C
  obtain ⟨q1, q2⟩ := hrows r hr
  have Nn := news_mono N sub
  refine getitem_found (L := L) (by omega) B X T F N (sub _ h1) (sub _ h2) (sub _ h3) hdi lo (rows_at hkn hr) (sub _ q1) (sub _ q2) fun h' tk' t' F' N' => ?_
  refine K h' tk' t' ((c, cacheObj cd dd mx (n + 1) t' (.int cap tc) al (.int thr tt)) :: (r.lst, W.listOf #[.int (n + 1) t'] r.ep) :: wo [c, r.lst] news) F' (news_mono N' fun q hq => ?_) (news_mono N' fun q hq => .tail _ (.tail _ hq)) (cs_touch Nn C0 h1 hr)
    (fun q hq a1 a2 => .tail _ (.tail _ (wo_mem hq (by simp [a1, a2])))) (fun q hq => ?_)
  · rcases List.mem_cons.mp hq with rfl | hq
    · exact .head _
    rcases List.mem_cons.mp hq with rfl | hq
    · exact .tail _ (.head _)
    · exact .tail _ (.tail _ (wo_mem (sub _ (wo_sub hq)) (wo_not hq)))
  · rcases List.mem_cons.mp hq with rfl | hq
    · exact ⟨_, h1⟩
    rcases List.mem_cons.mp hq with rfl | hq
    · exact ⟨_, q2⟩
    · exact ⟨_, wo_sub hq⟩
end Mine1
end
section
namespace Mine1
/-! marks of the walk's phases: a Stop looks for them among the hypotheses -/
def PassIf : Prop := True
def PassLC : Prop := True
def PassTail : Prop := True
end Mine1
end
section
open PySem PySem.W PyProof.Rows MineS MineP
namespace Mine1
set_option maxRecDepth 100000
set_option maxHeartbeats 8000000
def Eff1 (l : Int) (oh : Obj) (n : Int) (rows : List (Row Str)) (oh' : Obj) (n' : Int) (rows' : List (Row Str)) : Prop :=
  (∀ (vs : List Value) (ep : Nat), oh = W.listOf vs.toArray ep → ∃ (t : Tok) (ep' : Nat), oh' = W.listOf (vs ++ [Value.int (rows.length : Int) t]).toArray ep') ∧
  ((l = 2 ∧ n' = n + 1 ∧ ∃ r : Row Str, r.key = Str.ofString "z" ∧ r.ctr = n + 1 ∧ (∃ t, r.val = .int 7 t) ∧ rows' = putRow rows r) ∨ (l = 3 ∧ n' = n ∧ rows' = rows.filter (fun r => decide (r.key ≠ Str.ofString "a"))) ∨ (l ≠ 2 ∧ l ≠ 3 ∧ n' = n ∧ rows' = rows))
def HP1 (oh : Obj) : Prop := ∃ (vs : List Value) (ep : Nat), oh = W.listOf vs.toArray ep ∧ vs.length ≤ 100
theorem int_of {o : Obj} {l : Int} {t : Tok} (h : o.data = .cell (some (.int l t))) : ∃ (x : Int), x = l := ⟨_, rfl⟩
theorem shape11 {h₀ h : Heap} {L : Addr} {p1 p2 p3 p4 p5 p6 p7 p8 p9 p10 p11 : Addr × Obj} (N : News h₀ L h [p1, p2, p3, p4, p5, p6, p7, p8, p9, p10, p11]) : ∃ XI, XI = [p1, p2, p7, p8] := ⟨_, rfl⟩
theorem names3 {h₀ h : Heap} {L : Addr} {f c l : Addr} {o1 o2 o3 : Obj} {R : List (Addr × Obj)} (N : News h₀ L h ((f, o1) :: (c, o2) :: (l, o3) :: R)) : ∃ x y z : Addr, x = f ∧ y = c ∧ z = l := ⟨_, _, _, rfl, rfl, rfl⟩
theorem eff_list {vs : List Value} {ep : Nat} {rows : List (Row Str)} {t : Tok} : ∀ (vs' : List Value) (ep' : Nat), W.listOf vs.toArray ep = W.listOf vs'.toArray ep' → ∃ (t2 : Tok) (ep2 : Nat), W.listOf (vs.toArray.push (.int (((kvsOf rows).length : Nat) : Int) t)) (ep + 1) = W.listOf (vs' ++ [Value.int (rows.length : Int) t2]).toArray ep2 := by
  intro vs' ep' e
  have e1 := congrArg Obj.data e
  simp only [W.listOf, Data.seq.injEq] at e1
  have e2 : vs = vs' := by have := congrArg Array.toList e1.1; simpa using this
  subst e2
  exact ⟨t, ep + 1, by simp [kvsOf]⟩
theorem CS.again {w : World} {keep : List Addr} {news news' : List (Addr × Obj)} {c cd dd mx md : Addr} {n cap thr : Int} {al : Value} {b : Bool} {rows : List (Row Str)} {g h : Heap} {L2 : Addr} (C : CS w keep news c cd dd mx md n cap thr al b rows) (_N : News g L2 h news') {t tc tt : Tok} (h1 : (c, cacheObj cd dd mx n t (.int cap tc) al (.int thr tt)) ∈ news') (h2 : (cd, dictOf [] 0) ∈ news')
    {od : Obj} (hdi : od.IsDictOf (PySem.strKind PySem.Challenge.rw_eu0033_01.row.prog w) (kvsOf rows)) (h3 : (dd, od) ∈ news') (h4 : (mx, lockObj md) ∈ news') {hs : Int} {hk : Tok} (h5 : (md, heldDict hs hk b) ∈ news') (h6 : RowsIn news' rows) : CS w keep news' c cd dd mx md n cap thr al b rows :=
  { C with hc := ⟨_, _, _, h1⟩, hcd := h2, hdd := ⟨_, h3, hdi⟩, hmx := h4, hmd := ⟨_, _, h5⟩, hrows := h6 }
theorem join_al {M : Model} {A : Around} {E : Value → Shared → Prop} {s : Shared} {t : Sem Value} {Q : Value → Shared → Prop} {f : Addr} {l : Int} (h1 : wpAny M A t (fun v s' => (∃ tk, s' = { s with toks := tk }) ∧ ((v = .none ∧ l ≤ 0) ∨ (v = .ref f ∧ 0 < l))) E s)
    (h2 : ∀ al tk, ((al = .none ∧ l ≤ 0) ∨ (al = .ref f ∧ 0 < l)) → Q al { s with toks := tk }) : wpAny M A t Q E s := wpAny_mono h1 (fun v s' ⟨⟨tk, e⟩, ha⟩ => e ▸ h2 v tk ha) fun _ _ e => e
def LM (U T f st : Addr) (room size : Int) (tr ts : Tok) (o1 o2 o3 o4 : Option Value) (mR : Str → Option Value) : Str → Option Value := fun y =>
  if y = Str.ofString "uses" then some (.ref U) else if y = Str.ofString "_" then o1 else if y = Str.ofString "deed" then o2 else if y = Str.ofString "there" then o3 else if y = Str.ofString "value" then o4
  else if y = Str.ofString "times" then some (.ref T) else if y = Str.ofString "_law_heard" then some (.ref f) else if y = Str.ofString "room" then some (.int room tr) else if y = Str.ofString "size" then some (.int size ts)
  else if y = Str.ofString "state" then some (.ref st) else mR y
theorem fr_LM {h₀ h : Heap} {L U T f st : Addr} {room size : Int} {tr ts : Tok} {mR : Str → Option Value}
    (F : Fr h₀ L h (fun y => if y = Str.ofString "uses" then some (.ref U) else if y = Str.ofString "times" then some (.ref T) else if y = Str.ofString "_law_heard" then some (.ref f) else if y = Str.ofString "room" then some (.int room tr) else if y = Str.ofString "size" then some (.int size ts)
      else if y = Str.ofString "state" then some (.ref st) else mR y)) : ∃ o1 o2 o3 o4 mR' tr' ts', Fr h₀ L h (LM U T f st room size tr' ts' o1 o2 o3 o4 mR') := by
  refine ⟨mR (Str.ofString "_"), mR (Str.ofString "deed"), mR (Str.ofString "there"), mR (Str.ofString "value"), mR, tr, ts, ?_⟩
  have e : (LM U T f st room size tr ts (mR (Str.ofString "_")) (mR (Str.ofString "deed")) (mR (Str.ofString "there")) (mR (Str.ofString "value")) mR) = (fun y => if y = Str.ofString "uses" then some (.ref U) else if y = Str.ofString "times" then some (.ref T) else if y = Str.ofString "_law_heard" then some (.ref f) else if y = Str.ofString "room" then some (.int room tr) else if y = Str.ofString "size" then some (.int size ts)
      else if y = Str.ofString "state" then some (.ref st) else mR y) := funext fun y => by
    unfold LM
    by_cases e1 : y = Str.ofString "_"
    · subst e1; rfl
    · by_cases e2 : y = Str.ofString "deed"
      · subst e2; rfl
      · by_cases e3 : y = Str.ofString "there"
        · subst e3; rfl
        · by_cases e4 : y = Str.ofString "value"
          · subst e4; rfl
          · simp [e1, e2, e3, e4]
  rw [e]; exact F
theorem calm_func {keep : List Addr} {k : Addr} {o : Obj} {fd : FuncData} (hd : o.data = .func fd) : Calm keep (k, o) := ⟨fun _ _ e => (by rw [hd] at e; cases e), fun e => (by rw [hd] at e; cases e), .inl fun _ _ e => (by rw [hd] at e; cases e)⟩
theorem calm_fields {keep : List Addr} {k : Addr} {o : Obj} {vs : Array Value} (hd : o.data = .fields vs) : Calm keep (k, o) := ⟨fun _ _ e => (by rw [hd] at e; cases e), fun e => (by rw [hd] at e; cases e), .inl fun _ _ e => (by rw [hd] at e; cases e)⟩
structure LJ (w : World) (X : FX) (fix : List (Addr × Obj)) (f : Addr) (tr tz : Tok) (mR : Str → Option Value) (k : Nat) (m : Str → Option Value) (news : List (Addr × Obj)) (U : Addr) (uses : List Use) (tv hv : List Value) (ts : List Int) (n : Int) (rows : List (Row Str)) (o1 o2 o3 o4 : Option Value) (hep : Nat) : Prop where
  hm : m = LM U X.T f X.st X.thr X.cap tr tz o1 o2 o3 o4 mR
  C : CS w X.keep news X.c X.cd X.dd X.mx X.md n X.cap X.thr X.al false rows
  B : LB X fix news U uses tv
  hH : (X.hl, W.listOf hv.toArray hep) ∈ news
  hT : IntsAre tv ts
  hV : IntsAre hv ts
  hlen : ts.length + k ≤ 12
  rel : Rel rows (uses.map Use.pair)
  hrl : rows.length ≤ 12
  hU : U ∉ X.keep
  hoffU : ∀ r ∈ rows, r.lst ≠ U
theorem shape19 {h₀ h : Heap} {L : Addr} {a1 a2 a3 a4 a5 a6 a7 a8 a9 a10 a11 a12 a13 a14 a15 a16 a17 a18 a19 : Addr} {o1 o2 o3 o4 o5 o6 o8 o9 o10 o11 o12 o13 o14 o15 o16 o17 o18 o19 : Obj} {cl : Addr} {tk0 tc tt : Tok} {cap thr : Int} {al : Value}
    (_N : News h₀ L h [(a1, o1), (a2, o2), (a3, o3), (a4, o4), (a5, o5), (a6, o6), (a7, ⟨.ref cl, some a8, .plain, #[some (.int 0 tk0), some (.ref a4), some (.ref a5), some (.int cap tc), some al, some (.int thr tt)]⟩), (a8, o8), (a9, o9), (a10, o10), (a11, o11), (a12, o12), (a13, o13), (a14, o14), (a15, o15), (a16, o16), (a17, o17), (a18, o18), (a19, o19)]) :
    ∃ (T U dd mx md c cd f fc hl st sc : Addr) (cap' thr' : Int) (al' : Value) (fx : List (Addr × Obj)), T = a2 ∧ U = a3 ∧ dd = a4 ∧ mx = a5 ∧ md = a6 ∧ c = a7 ∧ cd = a8 ∧ f = a9 ∧ fc = a10 ∧ hl = a11 ∧ st = a13 ∧ sc = a14 ∧ cap' = cap ∧ thr' = thr ∧ al' = al ∧ fx = [(a18, o18), (a14, o14), (a19, o19)] :=
  ⟨_, _, _, _, _, _, _, _, _, _, _, _, _, _, _, _, rfl, rfl, rfl, rfl, rfl, rfl, rfl, rfl, rfl, rfl, rfl, rfl, rfl, rfl, rfl, rfl⟩
theorem mem3 {XI fx : List (Addr × Obj)} {p1 p2 p3 : Addr × Obj} (e : fx = [p1, p2, p3]) : p1 ∈ XI ++ fx ∧ p2 ∈ XI ++ fx ∧ p3 ∈ XI ++ fx := by subst e; simp
theorem mem4 {XI fx : List (Addr × Obj)} {p1 p2 p3 p4 : Addr × Obj} (e : XI = [p1, p2, p3, p4]) : p1 ∈ XI ++ fx ∧ p2 ∈ XI ++ fx ∧ p3 ∈ XI ++ fx ∧ p4 ∈ XI ++ fx := by subst e; simp
theorem LB.addfix {X : FX} {fix news : List (Addr × Obj)} {U : Addr} {uses : List Use} {tv : List Value} (B : LB X fix news U uses tv) (p : Addr × Obj) : LB X (p :: fix) (p :: news) U uses tv :=
  { B.mono (fun q hq => List.mem_cons_of_mem p hq) with hfix := fun q hq => (List.mem_cons.mp hq).elim (fun e => e ▸ List.mem_cons_self ..) fun h => List.mem_cons_of_mem _ (B.hfix q h) }
/-- a turn that ends, and raises nothing -/
theorem cut_turn {M : Model} {A : Around} {t : Sem Flow} {E : Value → Shared → Prop} {s s₁ : Shared} {h₀ : Heap} {L I : Addr} {it : Obj} {rest : (Str → Option Value) → List (Addr × Obj) → Prop} {QF : Flow → Shared → Prop}
    (h : wpAny M A t (fun fl s' => fl = .next ∧ UnrEnd h₀ L s₁ I it rest s') (fun _ _ => False) s) : wpAny M A t (UnrPost h₀ L s₁ I it rest QF) E s :=
  wpAny_mono h (fun fl s' ⟨e, h⟩ => by subst e; exact h) fun _ _ e => e.elim
/-- what the If of a turn leaves -/
def Mid (w : World) (X : FX) (fix : List (Addr × Obj)) (f : Addr) (tr tz : Tok) (mR : Str → Option Value) (k : Nat) (h₀ : Heap) (L : Addr) (s : Shared) (fl : Flow) (s' : Shared) : Prop :=
  fl = .next ∧ ∃ h' tk' m' news', s' = { s with heap := h', toks := tk' } ∧ Fr h₀ L h' m' ∧ News h₀ L h' news' ∧ ∃ U uses tv hv ts n rows o1 o2 o3 o4 hep, LJ w X fix f tr tz mR k m' news' U uses tv hv ts n rows o1 o2 o3 o4 hep
theorem lm_of {U T f st : Addr} {room size : Int} {tr ts : Tok} {mR m : Str → Option Value} (e0 : m (Str.ofString "uses") = some (.ref U)) (e1 : m (Str.ofString "times") = some (.ref T)) (e2 : m (Str.ofString "_law_heard") = some (.ref f)) (e3 : m (Str.ofString "room") = some (.int room tr))
    (e4 : m (Str.ofString "size") = some (.int size ts)) (e5 : m (Str.ofString "state") = some (.ref st))
    (eR : ∀ y, y ≠ Str.ofString "uses" → y ≠ Str.ofString "_" → y ≠ Str.ofString "deed" → y ≠ Str.ofString "there" → y ≠ Str.ofString "value" → y ≠ Str.ofString "times" → y ≠ Str.ofString "_law_heard" → y ≠ Str.ofString "room" → y ≠ Str.ofString "size" → y ≠ Str.ofString "state" → m y = mR y) :
    m = LM U T f st room size tr ts (m (Str.ofString "_")) (m (Str.ofString "deed")) (m (Str.ofString "there")) (m (Str.ofString "value")) mR := by
  funext y
  unfold LM
  by_cases h0 : y = Str.ofString "uses"
  · rw [if_pos h0, h0, e0]
  rw [if_neg h0]
  by_cases h1 : y = Str.ofString "_"
  · rw [if_pos h1, h1]
  rw [if_neg h1]
  by_cases h2 : y = Str.ofString "deed"
  · rw [if_pos h2, h2]
  rw [if_neg h2]
  by_cases h3 : y = Str.ofString "there"
  · rw [if_pos h3, h3]
  rw [if_neg h3]
  by_cases h4 : y = Str.ofString "value"
  · rw [if_pos h4, h4]
  rw [if_neg h4]
  by_cases h5 : y = Str.ofString "times"
  · rw [if_pos h5, h5, e1]
  rw [if_neg h5]
  by_cases h6 : y = Str.ofString "_law_heard"
  · rw [if_pos h6, h6, e2]
  rw [if_neg h6]
  by_cases h7 : y = Str.ofString "room"
  · rw [if_pos h7, h7, e3]
  rw [if_neg h7]
  by_cases h8 : y = Str.ofString "size"
  · rw [if_pos h8, h8, e4]
  rw [if_neg h8]
  by_cases h9 : y = Str.ofString "state"
  · rw [if_pos h9, h9, e5]
  rw [if_neg h9]
  exact eR y h0 h1 h2 h3 h4 h5 h6 h7 h8 h9
theorem mid_new {w : World} {X : FX} {fix nw2 rest : List (Addr × Obj)} {f U D : Addr} {tr tz : Tok} {mR m : Str → Option Value} {k ep hep : Nat} {h₀ h' : Heap} {L : Addr} {s1 : Shared} {tk' : Nat} {uses uses' : List Use} {tv hv : List Value} {ts : List Int} {n : Int} {rows : List (Row Str)}
    (F : Fr h₀ L h' m) {vs : List Value} (N : News h₀ L h' ((D, W.listOf vs.toArray ep) :: rest)) (hvs : vs = refsOf uses') (hne : ∀ p ∈ rest, p.1 ≠ D) (sub : ∀ q ∈ nw2, q ∈ rest) (C : CS w X.keep nw2 X.c X.cd X.dd X.mx X.md n X.cap X.thr X.al false rows) (B : LB X fix nw2 U uses tv) (hsc : ∃ o, (X.sc, o) ∈ nw2)
    (hus : ∀ u ∈ uses', (u.tup, u.obj) ∈ rest) (hH : (X.hl, W.listOf hv.toArray hep) ∈ nw2) (hT : IntsAre tv ts) (hV : IntsAre hv ts) (hlen : ts.length + k ≤ 12) (rel : Rel rows (uses'.map Use.pair)) (hrl : rows.length ≤ 12)
    (e0 : m (Str.ofString "uses") = some (.ref D)) (e1 : m (Str.ofString "times") = some (.ref X.T)) (e2 : m (Str.ofString "_law_heard") = some (.ref f)) (e3 : m (Str.ofString "room") = some (.int X.thr tr))
    (e4 : m (Str.ofString "size") = some (.int X.cap tz)) (e5 : m (Str.ofString "state") = some (.ref X.st))
    (eR : ∀ y, y ≠ Str.ofString "uses" → y ≠ Str.ofString "_" → y ≠ Str.ofString "deed" → y ≠ Str.ofString "there" → y ≠ Str.ofString "value" → y ≠ Str.ofString "times" → y ≠ Str.ofString "_law_heard" → y ≠ Str.ofString "room" → y ≠ Str.ofString "size" → y ≠ Str.ofString "state" → m y = mR y) :
    Mid w X fix f tr tz mR k h₀ L s1 .next { s1 with heap := h', toks := tk' } := by
  subst hvs
  have sub2 : ∀ q ∈ nw2, q ∈ (D, W.listOf (refsOf uses').toArray ep) :: rest := fun q hq => List.mem_cons_of_mem _ (sub q hq)
  obtain ⟨osc, hsc⟩ := hsc
  obtain ⟨tep, hTm⟩ := B.hT
  obtain ⟨_, _, _, _, _, _, _, hst⟩ := B.hst
  refine ⟨rfl, h', tk', m, _, rfl, F, N, D, uses', tv, hv, ts, n, rows, m (Str.ofString "_"), m (Str.ofString "deed"), m (Str.ofString "there"), m (Str.ofString "value"), hep, ?_⟩
  refine ⟨lm_of e0 e1 e2 e3 e4 e5 eR, C.mono sub2, { B.mono sub2 with hU := ⟨ep, .head _⟩, hus := fun u hu => .tail _ (hus u hu) }, sub2 _ hH, hT, hV, hlen, rel, hrl, ?_, fun r hr => hne _ (sub _ (C.hrows r hr).2)⟩
  simp only [FX.keep, List.mem_cons, List.mem_nil_iff, or_false, not_or]
  exact ⟨Ne.symm (hne _ (sub _ hH)), Ne.symm (hne _ (sub _ hTm)), Ne.symm (hne _ (sub _ hst)), Ne.symm (hne _ (sub _ hsc))⟩
theorem tup_names {h₀ h : Heap} {L t : Addr} {k : Str} {kt vt : Tok} {v : Int} {rest : List (Addr × Obj)} (_N : News h₀ L h ((t, ({ cls := .type "tuple", data := .seq #[.str k kt, .int v vt] } : Obj)) :: rest)) : ∃ (t' : Addr) (kt' : Tok), t' = t ∧ kt' = kt := ⟨_, _, rfl, rfl⟩
theorem uses_filter (uses : List Use) (k : Str) : (uses.filter fun u => decide (u.key ≠ k)).map Use.pair = (uses.map Use.pair).filter fun x => decide (x.1 ≠ k) := by
  rw [List.filter_map]; rfl
theorem cut_if {M : Model} {A : Around} {t : Sem Flow} {Q : Flow → Shared → Prop} {E : Value → Shared → Prop} {s : Shared} (P : Flow → Shared → Prop) (h1 : wpAny M A t P (fun _ _ => False) s) (h2 : ∀ fl s', P fl s' → Q fl s') : wpAny M A t Q E s := wpAny_mono h1 h2 fun _ _ e => e.elim
theorem filter_one {uses : List Use} {u : Use} (hn : (uses.map (·.key)).Nodup) (hu : u ∈ uses) : uses.filter (fun x => decide (x.key = u.key)) = [u] := by
  induction uses with
  | nil => cases hu
  | cons x xs ih =>
    simp only [List.map_cons, List.nodup_cons] at hn
    rw [List.filter_cons]
    rcases List.mem_cons.mp hu with rfl | hu
    · have e : xs.filter (fun x => decide (x.key = u.key)) = [] := List.filter_eq_nil_iff.mpr fun y hy => by simpa using fun e => hn.1 (List.mem_map.mpr ⟨y, hy, e⟩)
      rw [e]; simp
    · have hne : ¬ x.key = u.key := fun e => hn.1 (List.mem_map.mpr ⟨u, hu, e.symm⟩)
      simpa [hne] using ih hn.2 hu
theorem uses_nodup {rows : List (Row Str)} {uses : List Use} (h : Rel rows (uses.map Use.pair)) (hn : (rows.map (·.key)).Nodup) : (uses.map (·.key)).Nodup := by
  have e := (rel_keys h).nodup_iff.mpr hn
  rw [List.map_map] at e
  exact e
theorem int_names {a : Value} {v : Int} {t : Tok} (_h : a = .int v t) : ∃ (v' : Int) (t' : Tok), v' = v ∧ t' = t := ⟨_, _, rfl, rfl⟩
theorem tup_names2 {h₀ h : Heap} {L t l : Addr} {k : Str} {kt vt : Tok} {v : Int} {rest : List (Addr × Obj)} (_N : News h₀ L h ((l, W.listOf #[.ref t] 0) :: (t, ({ cls := .type "tuple", data := .seq #[.str k kt, .int v vt] } : Obj)) :: rest)) : ∃ (t' l' : Addr) (kt' : Tok), t' = t ∧ l' = l ∧ kt' = kt := ⟨_, _, _, rfl, rfl, rfl⟩
theorem cap_thr {cap thr : Int} (c0 : 0 ≤ cap) (c4 : cap ≤ 4) (t0 : 0 ≤ thr) (t2 : thr ≤ 2) : cap + cap * thr ≤ 12 := by
  have h1 : cap * thr ≤ 4 * 2 := Int.mul_le_mul c4 t2 t0 (by decide)
  omega
theorem clear_rel {rows1 srows : List (Row Str)} {us : List Use} {cap : Int} {M : Nat} (h : Rel rows1 (us.map Use.pair)) (hk : (rows1.map (·.key)).Nodup) (hp : srows.Perm rows1) (ho : srows.Pairwise fun a b => b.ctr < a.ctr) (c0 : 0 ≤ cap) (hM : us.length = M) :
    Rel (left rows1 (srows.drop cap.toNat)) ((us.drop (if (M : Int) - cap > 0 then (M : Int) - cap else 0).toNat).map Use.pair) := by
  have q := rel_left (k := cap.toNat) h hk hp ho
  rw [List.length_map, hM] at q
  have e : (if (M : Int) - cap > 0 then (M : Int) - cap else 0).toNat = M - cap.toNat := by split <;> omega
  rw [e, List.map_drop]
  exact q
theorem clear_len {rows1 srows : List (Row Str)} {cap : Int} (hk : (rows1.map (·.key)).Nodup) (hp : srows.Perm rows1) (c4 : cap ≤ 4) : (left rows1 (srows.drop cap.toNat)).length ≤ 12 := by
  have q := (left_take (k := cap.toNat) hk hp).length_eq
  rw [List.length_take] at q
  omega
theorem refs_drop (us : List Use) (k : Nat) : (refsOf us).drop k = refsOf (us.drop k) := List.map_drop.symm
theorem tup_names3 {h₀ h : Heap} {L t l : Addr} {k : Str} {kt vt : Tok} {v : Int} {rest : List (Addr × Obj)} (N : News h₀ L h ((l, W.listOf #[.ref t] 0) :: (t, ({ cls := .type "tuple", data := .seq #[.str k kt, .int v vt] } : Obj)) :: rest)) :
    ∃ (t' l' : Addr) (kt' vt' : Tok), t' = t ∧ l' = l ∧ News h₀ L h ((l', W.listOf #[.ref t'] 0) :: (t', ({ cls := .type "tuple", data := .seq #[.str k kt', .int v vt'] } : Obj)) :: rest) := ⟨_, _, _, _, rfl, rfl, N⟩
theorem put_len2 {rows : List (Row Str)} {us : List (Str × Int)} (h : Rel rows us) {r : Row Str} {n : Int} (hk : (rows.map (·.key)).Nodup) (hle : ∀ x ∈ rows, x.ctr ≤ n) (hr : r.ctr = n + 1) : (us.filter fun x => decide (x.1 ≠ r.key)).length + 1 = (putRow rows r).length := by
  have := rel_len (rel_put h hk hle hr)
  rw [List.length_append] at this
  exact this
theorem LB.offA {X : FX} {fix news : List (Addr × Obj)} {U : Addr} {uses : List Use} {tv : List Value} {h₀ h : Heap} {L I : Addr} {it : Obj} (N : News h₀ L h news) (B : LB X ((I, it) :: fix) news U uses tv) (hs : ∀ vs n, it.data ≠ .seq vs n) (hc : ∀ v, it.data ≠ .cell v) (hfix : ∀ q ∈ fix, q.1 ≠ I) : LB X fix (wo [I] news) U uses tv := by
  have hI := B.hfix _ (.head _)
  have go : ∀ q ∈ news, q.2 ≠ it → q ∈ wo [I] news := fun q hq e => wo_mem hq (by simpa using news_ne N hq hI e)
  obtain ⟨⟨ep, h1⟩, h2, ⟨ep2, h3⟩, ⟨pos, tp, seed, t, ep3, p1, p2, h4⟩, h5, ⟨o, v, h6, h7⟩⟩ := B
  exact ⟨⟨ep, go _ h1 fun e => hs _ _ (by rw [← e])⟩, fun u hu => go _ (h2 u hu) fun e => hs _ _ (by rw [← e]), ⟨ep2, go _ h3 fun e => hs _ _ (by rw [← e])⟩, ⟨pos, tp, seed, t, ep3, p1, p2, go _ h4 fun e => hs _ _ (by rw [← e])⟩, fun q hq => wo_mem (h5 q (.tail _ hq)) (by simpa using hfix q hq),
    ⟨o, v, go _ h6 fun e => hc v (by rw [← e]; exact h7), h7⟩⟩
theorem touch_kv {α : Type} [DecidableEq α] (rows : List (Row α)) (k : α) (n : Int) (t : Tok) : (touch rows k n t).map (fun r => (r.key, r.val)) = rows.map fun r => (r.key, r.val) := by
  unfold touch
  rw [List.map_map]
  refine List.map_congr_left fun x _ => ?_
  simp only [Function.comp]
  split <;> rfl
theorem touch_lst {α : Type} [DecidableEq α] {rows : List (Row α)} {k : α} {n : Int} {t : Tok} {U : Addr} (h : ∀ r ∈ rows, r.lst ≠ U) : ∀ r ∈ touch rows k n t, r.lst ≠ U := by
  intro r hr
  obtain ⟨y, hy, rfl⟩ := List.mem_map.mp hr
  have := h y hy
  split <;> exact this
theorem ints_vals (us : List Use) : IntsAre (us.map fun u => Value.int u.val u.vt) (us.map (·.val)) := by
  induction us with
  | nil => exact .nil
  | cons u r ih => exact .cons _ _ ih
theorem off3_of {I C D : Addr} : ∀ {l : List (Addr × Obj)}, (∀ p ∈ l, p.1 ≠ I ∧ p.1 ≠ C ∧ p.1 ≠ D) → LCg.Off3 I C D l
  | [], _ => trivial
  | _ :: _, h => ⟨h _ (.head _), off3_of fun p hp => h p (.tail _ hp)⟩
end Mine1
end
open MineS MineP Mine1
local macro_rules | `(tactic| walk_at "call ref") => `(tactic| (k_dflt (
  (refine' next_u ?k1 ?k2 ?k3 ?k4 ?k5 ?k6 ?k7 ?k8 ?k9 ?ka ?kb ?kc ?kd ?ke ?_; (case k1 => (try simp only [depth_deeper, depth_caller]); omega); (case k2 => k_asm); (case k3 => k_asm); (case k4 => k_asm); (case k5 => k_asm); (case k6 => k_asm); (case k7 => k_updF); (case k8 => k_mem); (case k9 => assumption); (case ka => omega); (case kb => omega); (case kc => omega); (case kd => omega); (case ke => omega); k_whole; intro h' tk' r' t' pos' tp' seed' ts' b1 b2 b3 b4 F' N'; (try dsimp only at N'))); (try k_sweep)))
local macro_rules | `(tactic| k_all) => `(tactic| first | assumption)
local macro_rules | `(tactic| k_room) => `(tactic| ((try simp only [depth_under_make, depth_under_kw, depth_in1, depth_deeper, depth_caller]); show _ < 1000; omega))
local macro_rules | `(tactic| walk_at "delItem ref") => `(tactic| (k_dflt (refine' delItem_own ?k1 ?k2 ?k3 ?k4 ?k5 ?k6 ?_; (case k1 => k_asm); (case k2 => k_asm); (case k3 => k_inst); (case k4 => k_is); (case k5 => k_is); (case k6 => k_is); k_whole)))
local macro_rules | `(tactic| k_ne) => `(tactic| (refine neN ?_; (try dsimp only); first | assumption | (apply Ne.symm; assumption)))
local macro_rules | `(tactic| walk_at "call ref") => `(tactic| ((with_reducible show wpAny _ _ (call (Value.ref 152) _) _ _ _); refine stop ?_))
local macro_rules | `(tactic| walk_at "call ref") => `(tactic| ((with_reducible show wpAny _ _ (call (Value.ref 207) _) _ _ _); refine stop ?_))
local macro_rules | `(tactic| walk_at "call builtin:len") => `(tactic| ((with_reducible show wpAny _ _ (call (Value.builtin "len") [Value.ref _]) _ _ _); k_dflt (refine kda_len (knd := PySem.strKind _ _) (by k_asm) (by k_mem) (by k_asm) (by k_asm) (by omega) ?_)))
local macro_rules | `(tactic| walk_at "LeaveX") => `(tactic| (k_dflt (refine' leaveX_ ?F ?N ?T ?_; (case F => k_asm); (case N => k_asm); (case T => first | assumption | exact KtsTurn.refl); k_whole); intro h₀' b'; (try dsimp only)))
local macro_rules | `(tactic| walk_at "exec For") => `(tactic| (refine stop ?_))
local macro_rules | `(tactic| walk_at "exec For Name Call cons nil") => `(tactic| (refine stop ?_))
local macro_rules | `(tactic| walk_at "eval IfExp") => `(tactic| (refine stop ?_))
local macro_rules | `(tactic| walk_at "pyIter ref") => `(tactic| ((with_reducible show wpAny _ _ (pyIter (Value.ref _)) (fun it s₂ => LoopAtV _ _ _ _ _ _ _ _ _ it s₂) _ _); refine stop ?_))
local macro_rules | `(tactic| walk_at "exec Assign cons ListComp") => `(tactic| (refine stop ?_))
local macro_rules | `(tactic| walk_at "exec If") => `(tactic| ((fail_if_success (with_reducible rename PassIf => pm)); (with_reducible show wpAny _ _ (exec (Stmt.If (Expr.Compare (Expr.Name (Str.ofString "deed") _) [CmpOp.Lt] _ _) _ _ _) _) _ _ _); refine stop ?_))
local macro_rules | `(tactic| walk_at "CompSrcT") => `(tactic| (refine stop ?_))
local macro_rules | `(tactic| walk_at "CompSrc") => `(tactic| (refine stop ?_))
local macro_rules | `(tactic| walk_at "SrcLP") => `(tactic| (refine stop ?_))
local macro_rules | `(tactic| walk_at "eval ListComp") => `(tactic| ((fail_if_success (with_reducible rename PassLC => pm)); refine stop ?_))
local macro_rules | `(tactic| walk_at "call ref") => `(tactic| ((with_reducible show wpAny _ _ (call (Value.ref 200) _) _ _ _); refine stop ?_))
local macro_rules | `(tactic| walk_at "call builtin:len") => `(tactic| ((with_reducible show wpAny _ _ (call (Value.builtin "len") [Value.ref _]) _ _ _); k_dflt (refine len_led (by k_asm) (by k_mem) (by assumption) (by omega) ?_); intro tlen' tklen'))
local macro_rules | `(tactic| walk_at "subscriptTail Name Slice ref ref") => `(tactic| ((with_reducible rename PassIf => pm); refine stop ?_))
local macro_rules | `(tactic| walk_at "call builtin:sorted") => `(tactic| ((with_reducible rename PassTail => pt); refine stop ?_))
local macro_rules | `(tactic| walk_at "compareOp NotEq ref ref") => `(tactic| ((with_reducible rename PassTail => pt); refine stop ?_))
local macro_rules | `(tactic| walk_at "call builtin:len") => `(tactic| ((with_reducible rename PassTail => pt); refine stop ?_))
local macro_rules | `(tactic| walk_at "compareOp Eq ref ref") => `(tactic| ((with_reducible rename PassTail => pt); refine stop ?_))
local macro_rules | `(tactic| walk_at "call ref") => `(tactic| ((with_reducible rename PassTail => pt); (with_reducible show wpAny _ _ (call (Value.ref 131) _) _ _ _); refine stop ?_))
set_option maxRecDepth 100000 in
set_option maxHeartbeats 80000000 in
theorem PySem.Challenge.cw_eu0033_01_holds : PySem.Challenge.rw_eu0033_01.Holds := by
  refine Mine1.hd ?_
  k_go0
  (all_goals try k_fold)
  k_steps
  unfold Stop
  with_reducible rename News _ _ _ _ => N9
  rename World => w
  rename Shared => s1
  obtain ⟨XI, hXI⟩ := shape11 N9
  obtain ⟨f, fc, hl, e1, e2, e3⟩ := names3 N9
  subst e1 e2 e3
  with_reducible rename _ = Data.cell (some (Value.int _ _)) => dl
  obtain ⟨ls, els⟩ := int_of dl
  subst els
  with_reducible rename _ = Data.cell (some (Value.ref _)) => dh
  with_reducible rename _ = Data.fields _ => d1'
  have hal : ∀ (c cd dd mx md : Addr) (cap thr : Int) (keep : List Addr), hl ∈ keep → AlertOK w keep f c cd dd mx md hl cap thr XI HP1 (Eff1 ls) := by
    intro c cd dd mx md cap thr keep hin
    subst hXI
    with_reducible rename Fr _ _ _ _ => F9
    clear F9 N9
    unfold AlertOK
    intro A₀ d u gs nm mo gl cl ql fn co bi outer base h₀ L s m mg mb mean loose p news Q E n rows oh hdp hu B XB TB D X T F N C hl50 hh hHP hkp hX K
    obtain ⟨vs, ep, rfl, hvl⟩ := hHP
    simp only [List.forall_mem_cons, List.forall_mem_nil, and_true] at hX
    obtain ⟨x1, x2, x3, x4, -⟩ := hX
    obtain ⟨⟨t, tc, tt, h1⟩, h2, ⟨od, h3, hdi⟩, h4, ⟨hs, hk, h5⟩, hrows, hkt, hval, hkn, hnd, hnl, hlen, n2, n7, n8, lo, hoff⟩ := id C
    have hc := dict_cls hdi
    have n6 : dd ≠ c := news_nec N h3 h1 (by rw [hc]; simp)
    have n1 : cd ≠ c := news_nec N h2 h1 (by simp)
    have n3 : mx ≠ c := news_nec N h4 h1 (by simp)
    have n4 : mx ≠ dd := news_nec N h4 h3 (by rw [hc]; simp)
    have n5 : md ≠ c := news_nec N h5 h1 (by simp)
    have g1 : f ≠ hl := news_nec N x1 hh (by simp)
    have g2 : fc ≠ hl := news_ne N x2 hh (fun e => by rw [e] at d1'; cases d1')
    have g3 := news_ne N x3 hh (fun e => by rw [e] at dl; cases dl)
    have g4 := news_ne N x4 hh (fun e => by rw [e] at dh; cases dh)
    have g5 : c ≠ hl := news_nec N h1 hh (by simp)
    have g6 : cd ≠ hl := news_nec N h2 hh (by simp)
    have g7 : dd ≠ hl := news_nec N h3 hh (by rw [hc]; simp)
    have g8 : mx ≠ hl := news_nec N h4 hh (by simp)
    have g9 : md ≠ hl := news_nec N h5 hh (by simp)
    have hR1 : ∀ q ∈ wo [hl] news, q.1 ≠ hl := wo_ne (by simp)
    have up : ∀ q ∈ news, q.1 ≠ hl → q ∈ wo [hl] news := fun q hq e => wo_mem hq (by simp [e])
    have hrows' : RowsIn (wo [hl] news) rows := fun r hr => ⟨up _ (hrows r hr).1 (news_nec N (hrows r hr).1 hh (by simp)), up _ (hrows r hr).2 fun e => hoff r hr (by rw [show r.lst = hl from e]; exact hin)⟩
    have hkl : (Mine1.kvsOf rows).length = rows.length := by simp [Mine1.kvsOf]
    have N1 := news_cons N x1 (news_cons N x2 (news_cons N x3 (news_cons N x4 (news_cons N hh (news_cons N h1 (news_cons N h2 (news_cons N h3 (news_cons N h4 (news_cons N h5 (news_mono (news' := wo [hl] news) N fun _ h => wo_sub h))))))))))
    have hkp' : ∀ k ∈ keep, k = hl ∨ ∃ o, (k, o) ∈ wo [hl] news := fun k hk => by
      obtain ⟨o, ho⟩ := hkp k hk
      by_cases e : k = hl
      · exact .inl e
      · exact .inr ⟨o, up _ ho e⟩
    generalize wo [hl] news = R at *
    clear N hkp
    refine wpAny_call ?_
    refine' call_SX ?k1Lq ?k2Lq ?k3Lq ?k4Lq ?k5Lq ?XBLq ?TBLq ?DLq rfl rfl rfl (N1 _ (.head _)).1 rfl ?hcdLq ?k8Lq ?k9Lq ?kBLq ?_ ?c5Lq rfl rfl rfl
    case k1Lq => k_asm
    case k2Lq => k_asm
    case k3Lq => k_asm
    case k4Lq => k_asm
    case k5Lq => k_asm
    case XBLq => assumption
    case TBLq => assumption
    case DLq => assumption
    case hcdLq => exact codeRec_news (by k_asm) (by k_mem) (by assumption) (by assumption)
    case k8Lq => k_room
    case k9Lq => exact BindsTo.of_eq rfl
    case kBLq => exact locs rfl
    case c5Lq => decide
    intro g' L' h' F' N' B' X' T' D'
    (try dsimp only)
    (try k_lift B')
    (try k_fold)
    have gc3 := news_ne N1 (.tail _ (.tail _ (.head _))) (.tail _ (.tail _ (.tail _ (.tail _ (.tail _ (.head _)))))) (fun e => by rw [e] at dl; cases dl)
    have gd3 := news_ne N1 (.tail _ (.tail _ (.head _))) (.tail _ (.tail _ (.tail _ (.tail _ (.tail _ (.tail _ (.tail _ (.head _)))))))) (fun e => by rw [e] at dl; obtain ⟨_, _, _, e2, _⟩ := hdi; rw [e2] at dl; cases dl)
    k_steps
    · unfold Stop
      with_reducible rename News _ _ _ _ => N9
      have C1 := CS.again C N9 (by k_mem) (by k_mem) hdi (by k_mem) (by k_mem) (by k_mem) fun r hr => ⟨by have := (hrows' r hr).1; simp [this], by have := (hrows' r hr).2; simp [this]⟩
      k_dflt (refine' setheld_cs ?k1Lq ?k2Lq ?k3Lq ?k4Lq ?k5Lq ?k6Lq C1 ?klLq ?kpLq ?_)
      case k1Lq => (try simp only [depth_deeper]); omega
      case k2Lq => k_asm
      case k3Lq => k_asm
      case k4Lq => k_asm
      case k5Lq => k_asm
      case k6Lq => k_asm
      case klLq => exact hl50
      case kpLq =>
        intro k hk
        rcases hkp' k hk with rfl | ⟨o, ho⟩
        · exact ⟨_, by k_mem⟩
        · exact ⟨o, by simp [ho]⟩
      k_whole
      intro h2' tk2' news2 r F2 N2 C2 e1 e2 e3 hfr2
      have hcell := hfr2 _ (.tail _ (.tail _ (.head _))) gc3 gd3
      have N3 := news_cons N2 hcell N2
      k_steps
      · exfalso; omega
      · rename_i gB bB
        exact K _ _ _ _ _ (n + 1) _ bB (CS.mono C2 fun q hq => .tail _ hq) (.tail _ (hfr2 _ (by k_mem) (Ne.symm g5) (Ne.symm g7))) ⟨eff_list, .inl ⟨by assumption, rfl, r, e1, e2, ⟨_, e3⟩, rfl⟩⟩ fun q hq a1 a2 a3 => .tail _ (hfr2 q (by simp [up q hq a3]) a1 a2)
    · unfold Stop
      with_reducible rename News _ _ _ _ => N9
      have C1 := CS.again C N9 (by k_mem) (by k_mem) hdi (by k_mem) (by k_mem) (by k_mem) fun r hr => ⟨by have := (hrows' r hr).1; simp [this], by have := (hrows' r hr).2; simp [this]⟩
      k_dflt (refine' taken_cs ?k1Lq ?k2Lq ?k3Lq ?k4Lq ?k5Lq ?k6Lq ?k7Lq ?k8Lq ?k9Lq C1 ?_)
      case k1Lq => (try simp only [depth_deeper]); omega
      case k2Lq => k_asm
      case k3Lq => k_asm
      case k4Lq => k_asm
      case k5Lq => k_asm
      case k6Lq => k_asm
      case k7Lq => k_asm
      case k8Lq => k_asm
      case k9Lq => k_asm
      k_whole
      intro h2' tk2' g2' news2 rows2 res Bk C2 e1 e2 hfr2
      obtain ⟨KT, F2, N2, B2, X2, T2, D2⟩ := Bk
      k_steps
      rename_i gB bB
      exact K _ _ _ _ _ n _ bB C2 (hfr2 _ (by k_mem) (Ne.symm g7)) ⟨eff_list, .inr (.inl ⟨by assumption, rfl, e2⟩)⟩ fun q hq a1 a2 a3 => hfr2 q (by simp [up q hq a3]) a2
    · rename_i gB bB
      have N9 := bB.2.2.1
      have C1 := CS.again C N9 (by k_mem) (by k_mem) hdi (by k_mem) (by k_mem) (by k_mem) fun r hr => ⟨by have := (hrows' r hr).1; simp [this], by have := (hrows' r hr).2; simp [this]⟩
      exact K _ _ _ _ _ n rows bB C1 (by k_mem) ⟨eff_list, .inr (.inr ⟨by assumption, by assumption, rfl, rfl⟩)⟩ fun q hq a1 a2 a3 => by simp [up q hq a3]
  refine join_al (f := f) (l := ls) ?_ fun al tka hjoin => ?_
  · with_reducible refine IfExp_ ?_
    k_steps
    · exact .inr ⟨rfl, by omega⟩
    · exact .inl ⟨rfl, by omega⟩
  · k_steps
    unfold Stop
    with_reducible rename Fr _ _ _ _ => F0
    with_reducible rename News _ _ _ _ => N0
    with_unfolding_all refine' For_invVF F0 ?k1Lr ?k2Lr ?_
    case k1Lr => exact rfl
    case k2Lr => exact rfl
    k_steps
    unfold Stop
    with_reducible rename News _ _ _ _ => N0
    with_reducible rename Fr _ _ _ _ => F0
    with_reducible rename IsRange _ _ _ _ _ _ _ _ => hR
    with_reducible rename List (Addr × Obj) => XI
    with_reducible rename XI = _ => hXI
    obtain ⟨T, U, dd, mx, md, c, cd, f, fc, hl, st, sc, cap, thr, al, fx, e1, e2, e3, e4, e5, e6, e7, e8, e9, e10, e11, e12, e13, e14, e15, hfx⟩ := shape19 N0
    subst e1 e2 e3 e4 e5 e6 e7 e8 e9 e10 e11 e12 e13 e14 e15
    obtain ⟨o1, o2, o3, o4, mR, tr, tz, F1⟩ := fr_LM F0
    with_reducible rename Obj.IsDictOf (PySem.strKind _ _) _ [] => hsd
    with_reducible rename (dd == sysModules) = false => hlo
    with_reducible rename IntsAre _ (List.take _ _) => hsc
    with_reducible rename _ = Data.cell (some (Value.ref c)) => dcc
    with_reducible rename _ = Data.cell (some (Value.ref hl)) => dch
    with_reducible rename _ = Data.cell (some (Value.int _ _)) => dcl
    with_reducible rename _ = Data.fields _ => dfc
    have hlt1 : cd ≠ dd := by refine neN ?_; omega
    have hlt2 : md ≠ dd := by refine neN ?_; omega
    have hlt3 : md ≠ cd := by refine neN ?_; omega
    have hq1 : T ≠ hl := by refine neN ?_; omega
    have hq2 : T ≠ st := by refine neN ?_; omega
    have hq3 : T ≠ sc := by refine neN ?_; omega
    have hq4 : T ≠ (209 : Nat) := by refine neN ?_; omega
    have hq5 : T ≠ s1.heap.objs.size + 1 := by refine neN ?_; omega
    have hq6 : T ≠ s1.heap.objs.size + 1 + 1 := by refine neN ?_; omega
    have hq7 : T ≠ s1.heap.objs.size + 1 + 1 + 1 := by refine neN ?_; omega
    have hq8 : T ≠ s1.heap.objs.size + 1 + 1 + 1 + 1 := by refine neN ?_; omega
    have hs1 : st ≠ hl := by refine neN ?_; omega
    have hs2 : st ≠ sc := by refine neN ?_; omega
    have hs3 : st ≠ (209 : Nat) := by refine neN ?_; omega
    have hs5 : st ≠ s1.heap.objs.size + 1 := by refine neN ?_; omega
    have hs6 : st ≠ s1.heap.objs.size + 1 + 1 := by refine neN ?_; omega
    have hs7 : st ≠ s1.heap.objs.size + 1 + 1 + 1 := by refine neN ?_; omega
    have hs8 : st ≠ s1.heap.objs.size + 1 + 1 + 1 + 1 := by refine neN ?_; omega
    have hk1 : s1.heap.objs.size + 1 + 1 ≠ hl := by refine neN ?_; omega
    have hk2 : s1.heap.objs.size + 1 + 1 ≠ sc := by refine neN ?_; omega
    have hk3 : s1.heap.objs.size + 1 + 1 ≠ (209 : Nat) := by refine neN ?_; omega
    have hk5 : s1.heap.objs.size + 1 + 1 ≠ s1.heap.objs.size + 1 := by refine neN ?_; omega
    have hk6 : s1.heap.objs.size + 1 + 1 ≠ s1.heap.objs.size + 1 + 1 + 1 := by refine neN ?_; omega
    have hk7 : s1.heap.objs.size + 1 + 1 ≠ s1.heap.objs.size + 1 + 1 + 1 + 1 := by refine neN ?_; omega
    have hh1 : sc ≠ hl := by refine neN ?_; omega
    have hh2 : (209 : Nat) ≠ hl := by refine neN ?_; omega
    have hh3 : s1.heap.objs.size + 1 ≠ hl := by refine neN ?_; omega
    have hh4 : s1.heap.objs.size + 1 + 1 + 1 ≠ hl := by refine neN ?_; omega
    have hh5 : s1.heap.objs.size + 1 + 1 + 1 + 1 ≠ hl := by refine neN ?_; omega
    have hh6 : f ≠ hl := by refine neN ?_; omega
    have hh7 : fc ≠ hl := by refine neN ?_; omega
    have hg1 : hl ≠ md := by refine neN ?_; omega
    have hg2 : hl ≠ dd := by refine neN ?_; omega
    have hg3 : hl ≠ c := by refine neN ?_; omega
    have hU : U ∉ [hl, T, st, sc] := by
      simp only [List.mem_cons, List.mem_nil_iff, or_false, not_or]
      refine ⟨?_, ?_, ?_, ?_⟩ <;> (refine neN ?_; omega)
    have hXo : ∀ q ∈ XI, q.1 ≠ md ∧ q.1 ≠ c ∧ q.1 ≠ dd := by
      subst hXI
      simp only [List.forall_mem_cons]
      refine ⟨⟨?_, ?_, ?_⟩, ⟨?_, ?_, ?_⟩, ⟨?_, ?_, ?_⟩, ⟨?_, ?_, ?_⟩, fun _ h => nomatch h⟩ <;> (refine neN ?_; (try dsimp only); omega)
    have hfo : ∀ q ∈ XI ++ fx, q.1 ≠ T ∧ q.1 ≠ st ∧ q.1 ≠ s1.heap.objs.size + 1 + 1 := by
      rw [hXI, hfx]
      simp only [List.forall_mem_append, List.forall_mem_cons]
      refine ⟨⟨⟨?_, ?_, ?_⟩, ⟨?_, ?_, ?_⟩, ⟨?_, ?_, ?_⟩, ⟨?_, ?_, ?_⟩, fun _ h => nomatch h⟩, ⟨?_, ?_, ?_⟩, ⟨?_, ?_, ?_⟩, ⟨?_, ?_, ?_⟩, fun _ h => nomatch h⟩ <;> (refine neN ?_; (try dsimp only); omega)
    repeat (with_reducible rename _ ∧ _ => hjunk; clear hjunk)
    with_reducible rename ∀ (c cd dd mx md : Addr) (cap thr : Int) (keep : List Addr), _ => hal
    with_reducible rename _ ∨ _ => hjoin
    have hcalm : ∀ q ∈ XI ++ fx, Calm [sc] q ∧ q.1 ≠ hl := by
      subst hXI hfx
      simp only [List.forall_mem_append, List.forall_mem_cons]
      exact ⟨⟨⟨calm_func rfl, hh6⟩, ⟨calm_fields dfc, hh7⟩, ⟨calm_kn dcl, hh5⟩, ⟨calm_kn dch, hh4⟩, fun _ h => nomatch h⟩, ⟨calm_kn dcc, hh3⟩, ⟨calm_keep rfl (by simp), hh1⟩, ⟨calm_fields rfl, hh2⟩, fun _ h => nomatch h⟩
    clear F0
    with_unfolding_all refine iter_rangeUnr (by rfl) hR (small_one (by decide) (by decide) (by omega) (by omega)) (rangeSize_nat _ _) F1 N0 ?_
    intro I hI
    refine rangeRest_inv (J := fun k m n => ∃ U uses tv hv ts nn rows p1 p2 p3 p4 hep, LJ w ⟨hl, T, st, sc, s1.heap.objs.size + 1 + 1, c, cd, dd, mx, md, cap, thr, al⟩ (XI ++ fx) f tr tz mR k m n U uses tv hv ts nn rows p1 p2 p3 p4 hep) ?stepLr ?doneLr _ 0 _ _ ⟨U, [], [], [], [], 0, [], o1, o2, o3, o4, 0, ?startLr⟩
    case startLr =>
      refine ⟨rfl, ⟨⟨_, _, _, by k_mem⟩, by k_mem, ⟨_, by k_mem, hsd⟩, by k_mem, ⟨_, _, by k_mem⟩, fun _ h => (nomatch h), fun _ h => (nomatch h), fun _ h => (nomatch h), .nil, .nil, fun _ h => (nomatch h), Nat.zero_le _, hlt1, hlt2, hlt3, hlo, fun _ h => (nomatch h)⟩,
        ⟨⟨0, by k_mem⟩, fun _ h => (nomatch h), ⟨0, by k_mem⟩, ⟨_, _, _, _, _, ?_, ?_, by k_mem⟩, ?_, ⟨_, _, by k_mem, by assumption⟩⟩, by k_mem, .nil, .nil, ?_, rel_nil, Nat.zero_le _, hU, fun _ h => (nomatch h)⟩
      · assumption
      · assumption
      · rw [hXI, hfx]
        simp only [List.forall_mem_append, List.forall_mem_cons]
        exact ⟨⟨by k_mem, by k_mem, by k_mem, by k_mem, fun _ h => nomatch h⟩, by k_mem, by k_mem, by k_mem, fun _ h => nomatch h⟩
      · simp only [List.length_nil]; omega
    case stepLr =>
      have hIX : ∀ q ∈ XI ++ fx, q.1 ≠ I := fun q hq => Nat.ne_of_lt (hI q (by
        revert q
        rw [hXI, hfx]
        simp only [List.forall_mem_append, List.forall_mem_cons]
        exact ⟨⟨by k_mem, by k_mem, by k_mem, by k_mem, fun _ h => nomatch h⟩, by k_mem, by k_mem, by k_mem, fun _ h => nomatch h⟩))
      clear hsd hlo N0 F1 hI
      repeat (with_reducible rename PyProof.V.FlatPairs _ _ _ => hjunk; clear hjunk)
      repeat (with_reducible rename Obj.IsDictOf _ _ _ => hjunk; clear hjunk)
      intro k m n hj i t h tk F N
      obtain ⟨U, uses, tv, hv, ts, nn, rows, p1, p2, p3, p4, hep, hm, C, B, hH, hT, hV, hlen, rel, hrl, hU, hoffU⟩ := hj
      subst hm
      unfold LM at F
      generalize ((1 + _ - 0 : Int).toNat : Int) = NN at N ⊢
      obtain ⟨mk1, mk2, mk3⟩ := mem3 (XI := XI) hfx
      obtain ⟨mx1, mx2, mx3, mx4⟩ := mem4 (fx := fx) hXI
      have B1 := B.addfix (I, itR (0 + ((i + 1 : Nat) : Int)) (NN - ((i + 1 : Nat) : Int)))
      have C1 := C.mono (news' := (I, itR (0 + ((i + 1 : Nat) : Int)) (NN - ((i + 1 : Nat) : Int))) :: n) fun q hq => List.mem_cons_of_mem _ hq
      have hH1 := List.mem_cons_of_mem (I, itR (0 + ((i + 1 : Nat) : Int)) (NN - ((i + 1 : Nat) : Int))) hH
      clear B C hH
      refine cut_turn ?_
      obtain ⟨⟨uep, bU⟩, bus, ⟨tep, bT⟩, ⟨pos, tp, seed, tsd, sep, bp1, bp2, bst⟩, bfix, ⟨okn, vkn, bkn, dkn⟩⟩ := id B1
      dsimp only at bT bst bkn
      have f1 := bfix _ (List.mem_cons_of_mem _ mk1)
      have f2 := bfix _ (List.mem_cons_of_mem _ mk2)
      have f3 := bfix _ (List.mem_cons_of_mem _ mx3)
      have n1 : U ≠ s1.heap.objs.size + 1 + 1 := news_ne N bU bkn fun e => by rw [← e] at dkn; cases dkn
      have n2 : U ≠ st := fun e => hU (by rw [e]; simp)
      have n3 : U ≠ T := fun e => hU (by rw [e]; simp)
      have N1 := news_cons N bst (news_cons N bkn (news_cons N bT (news_cons N f2 (news_cons N f1 (news_cons N f3 (news_cons N bU (news_mono (news' := wo [st, s1.heap.objs.size + 1 + 1, T] _) N fun _ h => wo_sub h)))))))
      have hR1 : ∀ q ∈ wo [st, s1.heap.objs.size + 1 + 1, T] ((I, itR (0 + ((i + 1 : Nat) : Int)) (NN - ((i + 1 : Nat) : Int))) :: n), q.1 ≠ st := wo_ne (by simp)
      have hR2 : ∀ q ∈ wo [st, s1.heap.objs.size + 1 + 1, T] ((I, itR (0 + ((i + 1 : Nat) : Int)) (NN - ((i + 1 : Nat) : Int))) :: n), q.1 ≠ s1.heap.objs.size + 1 + 1 := wo_ne (by simp)
      have hR3 : ∀ q ∈ wo [st, s1.heap.objs.size + 1 + 1, T] ((I, itR (0 + ((i + 1 : Nat) : Int)) (NN - ((i + 1 : Nat) : Int))) :: n), q.1 ≠ T := wo_ne (by simp)
      have up : ∀ q ∈ (I, itR (0 + ((i + 1 : Nat) : Int)) (NN - ((i + 1 : Nat) : Int))) :: n, q.1 ≠ st → q.1 ≠ s1.heap.objs.size + 1 + 1 → q.1 ≠ T → q ∈ wo [st, s1.heap.objs.size + 1 + 1, T] ((I, itR (0 + ((i + 1 : Nat) : Int)) (NN - ((i + 1 : Nat) : Int))) :: n) := fun q hq e1 e2 e3 => wo_mem hq (by simp [e1, e2, e3])
      generalize wo [st, s1.heap.objs.size + 1 + 1, T] _ = R at *
      k_steps
      unfold Stop
      with_reducible rename News _ _ _ _ => N9
      with_reducible rename Fr _ _ _ _ => F9
      generalize Txt.item (Str.ofString "abcdef") _ = key at *
      have hIT : I ≠ T ∧ I ≠ st ∧ I ≠ s1.heap.objs.size + 1 + 1 := ⟨news_nec N (.head _) bT (by simp [itR]), news_nec N (.head _) bst (by simp [itR]), news_ne N (.head _) bkn fun e => by rw [← e] at dkn; cases dkn⟩
      have hfo2 : ∀ q ∈ (I, itR (0 + ((i + 1 : Nat) : Int)) (NN - ((i + 1 : Nat) : Int))) :: (XI ++ fx), q.1 ≠ T ∧ q.1 ≠ st ∧ q.1 ≠ s1.heap.objs.size + 1 + 1 := by
        rw [List.forall_mem_cons]; exact ⟨hIT, hfo⟩
      have hUo : U ≠ T ∧ U ≠ st ∧ U ≠ s1.heap.objs.size + 1 + 1 := ⟨n3, n2, n1⟩
      have C2 := CS.turnN N9 [st, s1.heap.objs.size + 1 + 1, T] N C1 (by
        simp only [List.forall_mem_cons]
        exact ⟨⟨_, bst, .inr ⟨⟨_, _, rfl⟩, by simp⟩⟩, ⟨_, bkn, .inl ⟨_, dkn⟩⟩, ⟨_, bT, .inr ⟨⟨_, _, rfl⟩, by simp⟩⟩, fun _ h => nomatch h⟩) (fun q hq e => by
        simp only [List.mem_cons, List.mem_nil_iff, or_false, not_or] at e
        exact .tail _ (.tail _ (.tail _ (.tail _ (.tail _ (.tail _ (.tail _ (.tail _ (up q hq e.1 e.2.1 e.2.2)))))))))
      have B2 := LB.turnN N9 N B1 hfo2 hUo (fun q hq a1 a2 a3 => .tail _ (.tail _ (.tail _ (.tail _ (.tail _ (.tail _ (.tail _ (.tail _ (up q hq a1 a2 a3))))))))) (by k_mem) (by k_mem) (by assumption) (by assumption) (by k_mem) (by assumption)
      have hH2 := memN N9 (q := (hl, W.listOf hv.toArray hep)) (List.Mem.tail _ (.tail _ (.tail _ (.tail _ (.tail _ (.tail _ (.tail _ (.tail _ (up _ hH1 (Ne.symm hs1) (Ne.symm hk1) (Ne.symm hq1))))))))))
      refine pt_assign F9 rfl (by with_unfolding_all rfl) (by with_unfolding_all rfl) (by decide) (by rfl) (by decide) (by rfl) (by rfl) (by decide) (by rfl) (by rfl) ?_
      k_steps
      have hul : uses.length ≤ 12 := by have := rel_len rel; rw [List.length_map] at this; omega
      with_reducible rename Fr _ _ _ _ => F9
      with_reducible rename News _ _ _ _ => N9
      refine pu_src (kp := fun u => decide (u.key = key)) rfl (by omega) F9 N9 (by k_mem) B2.hus (fun _ => rfl) (fun _ => rfl) (by decide) ?evLt ?finLt
      case evLt =>
        intro u hu C oC m₂ h2 tk2 E2 hC ha hb F2 N2
        k_steps
      case finLt =>
        unfold FinB
        intro D2 h2 tk2 F2 N2 hD2
        have C3 := C2.mono (news' := (D2, LCg.lst ((uses.filter fun u => decide (u.key = key)).map fun u => .int u.val u.vt)) :: _) fun q hq => List.mem_cons_of_mem _ hq
        have B3 := B2.mono (news' := (D2, LCg.lst ((uses.filter fun u => decide (u.key = key)).map fun u => .int u.val u.vt)) :: _) fun q hq => List.mem_cons_of_mem _ hq
        have hH3 := List.mem_cons_of_mem (D2, LCg.lst ((uses.filter fun u => decide (u.key = key)).map fun u => .int u.val u.vt)) hH2
        have hDl := fresh_lst C2 fun p hp => Nat.ne_of_lt (hD2 p hp)
        have hDo : D2 ≠ T ∧ D2 ≠ st ∧ D2 ≠ s1.heap.objs.size + 1 + 1 ∧ D2 ≠ hl ∧ D2 ≠ U := ⟨Nat.ne_of_gt (hD2 (T, _) (by k_mem)), Nat.ne_of_gt (hD2 (st, _) (by k_mem)), Nat.ne_of_gt (hD2 (s1.heap.objs.size + 1 + 1, _) (by k_mem)), Nat.ne_of_gt (hD2 _ hH2), Nat.ne_of_gt (hD2 (U, _) (by k_mem))⟩
        clear C2 B2 hH2
        k_steps
        unfold Stop
        have hDm := memN N2 (.head _)
        have hKm := memN N2 (q := (s1.heap.objs.size + 1 + 1, _)) (by k_mem)
        with_reducible rename _ = Data.cell (some (Value.str key _)) => dkn2
        generalize (D2, _) :: _ = nw at N2 C3 B3 hH3 hDm hKm
        clear hD2 up hR1 hR2 hR3 N1 N9 F9 B1 C1 hH1 bU bus bT bst bfix bkn dkn f1 f2 f3 N
        refine cut_if (Mid w ⟨hl, T, st, sc, s1.heap.objs.size + 1 + 1, c, cd, dd, mx, md, cap, thr, al⟩ ((I, itR (0 + ((i + 1 : Nat) : Int)) (NN - ((i + 1 : Nat) : Int))) :: (XI ++ fx)) f tr tz mR k (ghostOf s1.heap [(211, 209)]) s1.heap.objs.size s1) ?ifPartLt ?tailPartLt
        case ifPartLt =>
          have pm : PassIf := trivial
          obtain ⟨⟨uep, bU⟩, bus, ⟨tep, bT⟩, ⟨pos, tp, seed, tsd, sep, bp1, bp2, bst⟩, bfix, -⟩ := id B3
          dsimp only at bT bst
          have f1 := bfix _ (List.mem_cons_of_mem _ mk1)
          have f2 := bfix _ (List.mem_cons_of_mem _ mk2)
          have f3 := bfix _ (List.mem_cons_of_mem _ mx3)
          obtain ⟨hD1, hD2, hD3, hD4, hD5⟩ := id hDo
          obtain ⟨ct, ctc, ctt, bc⟩ := C3.hc
          have bcd := C3.hcd
          dsimp only at bc bcd
          have hcd1 : cd ≠ st := news_nec N2 bcd bst (by simp)
          have hcd2 : cd ≠ s1.heap.objs.size + 1 + 1 := news_ne N2 bcd hKm fun e => by rw [← e] at dkn2; cases dkn2
          have hcd3 : cd ≠ T := news_nec N2 bcd bT (by simp)
          have hc1 : c ≠ st := news_nec N2 bc bst (by simp)
          have hc2 : c ≠ s1.heap.objs.size + 1 + 1 := news_ne N2 bc hKm fun e => by rw [← e] at dkn2; cases dkn2
          have hc3 : c ≠ T := news_nec N2 bc bT (by simp)
          have N1 := news_cons N2 bst (news_cons N2 hKm (news_cons N2 bT (news_cons N2 f2 (news_cons N2 f1 (news_cons N2 f3 (news_cons N2 bU (news_cons N2 hDm (news_cons N2 bc (news_cons N2 bcd (news_mono (news' := wo [st, s1.heap.objs.size + 1 + 1, T] nw) N2 fun _ h => wo_sub h))))))))))
          have hR1 : ∀ q ∈ wo [st, s1.heap.objs.size + 1 + 1, T] nw, q.1 ≠ st := wo_ne (by simp)
          have hR2 : ∀ q ∈ wo [st, s1.heap.objs.size + 1 + 1, T] nw, q.1 ≠ s1.heap.objs.size + 1 + 1 := wo_ne (by simp)
          have hR3 : ∀ q ∈ wo [st, s1.heap.objs.size + 1 + 1, T] nw, q.1 ≠ T := wo_ne (by simp)
          have up : ∀ q ∈ nw, q.1 ≠ st → q.1 ≠ s1.heap.objs.size + 1 + 1 → q.1 ≠ T → q ∈ wo [st, s1.heap.objs.size + 1 + 1, T] nw := fun q hq e1 e2 e3 => wo_mem hq (by simp [e1, e2, e3])
          generalize wo [st, s1.heap.objs.size + 1 + 1, T] nw = R at *
          have hN2s := fun (_ : Unit) => N2
          have hok : FixOk ⟨hl, T, st, sc, s1.heap.objs.size + 1 + 1, c, cd, dd, mx, md, cap, thr, al⟩ ((I, itR (0 + ((i + 1 : Nat) : Int)) (NN - ((i + 1 : Nat) : Int))) :: (XI ++ fx)) := ⟨by
              rw [List.forall_mem_cons]; exact ⟨calm_fields rfl, fun q hq => (hcalm q hq).1⟩, by
              rw [List.forall_mem_cons]; exact ⟨news_nec N2 (bfix _ (.head _)) hH3 (by simp [itR]), fun q hq => (hcalm q hq).2⟩, hq1, hs1⟩
          have C4 := C3.keepU hoffU
          have C5 := C4.keepU hDl
          have hnd := uses_nodup rel C3.hkn
          have hUh : U ≠ hl := fun e => hU (by rw [e]; simp)
          k_steps
          · unfold Stop
            k_dflt (refine' asked_cs (A₀ := callerA) (base := ghostOf s1.heap [(211, 209)]) (outer := []) ?k1LA ?k2LA ?k3LA ?k4LA ?k5LA ?k6LA ?k7LA ?k8LA ?k9LA C3 ?_)
            case k1LA => (try simp only [depth_deeper, depth_caller]); omega
            case k2LA => k_asm
            case k3LA => k_asm
            case k4LA => k_asm
            case k5LA => exact fun _ h => (nomatch h)
            case k6LA => k_asm
            case k7LA => k_asm
            case k8LA => k_asm
            case k9LA => k_asm
            k_whole
            intro h' tk' h₀' nw2 n' rows' res Bk C6 hcase hfr
            obtain ⟨F6, N6⟩ := back_nil Bk
            have hgo : ∀ q ∈ nw, Calm (D2 :: U :: [hl, T, st, sc]) q → q ∈ nw2 := fun q hq hc => hfr q hq (calm_ne N2 C5 hq hc).1 (calm_ne N2 C5 hq hc).2.2.2
            have B6 := LB.frame N2 B3 hok C4 hUh hH3 fun q hq a1 a2 a3 a4 a5 => hfr q hq a1 a5
            have hH6 := hgo _ hH3 (calm_keep rfl (by simp))
            have g1 := hgo _ hKm (calm_kn dkn2)
            have g2 := hgo _ bU (calm_keep rfl (by simp))
            rcases hcase with ⟨r, t', hr, hrk, hres, rfl, rfl⟩ | ⟨hno, ⟨tn, rfl⟩, rfl, rfl⟩
            · obtain ⟨u, hu, huk, huv⟩ := rel_use rel hr
              obtain ⟨v, vt, hv⟩ := C3.hval r hr
              have hrv : rv r = v := by unfold rv; rw [hv]
              have e1 : (uses.filter fun u => decide (u.key = key)) = [u] := by rw [← hrk, ← huk]; exact filter_one hnd hu
              rw [e1] at hDm
              simp only [List.map_cons, List.map_nil] at hDm
              have g3 := hgo _ hDm (calm_keep rfl (by simp))
              rw [hres, hv]
              rw [hrv] at huv
              subst huv
              have N7 := news_cons N6 g1 (news_cons N6 g2 (news_cons N6 g3 N6))
              clear N1 N2
              k_steps
              · exact absurd rfl (by assumption)
              unfold Stop
              with_reducible rename News _ _ _ _ => N8
              with_reducible rename Fr _ _ _ _ => F8
              refine LCt.ListComp_T F8 (by with_unfolding_all rfl) (by decide) (by rfl) (by decide) (by rfl) ?_
              k_steps
              unfold Stop
              with_reducible rename News _ _ _ _ => N8
              with_reducible rename Fr _ _ _ _ => F8
              refine LCt.CompSrcT.ledger (its := (Mine1.refsOf uses).toArray) rfl F8 N8 (by k_mem) (by rw [sizeLine_eq, List.size_toArray, List.length_map]; omega) ?_
              intro gg
              refine uf_ne (k := key) rfl (by assumption) (Or.inr ⟨_, by k_mem, rfl, _, rfl⟩) (fun u hu => by
                have q := B6.hus u hu
                repeat (first | exact q | apply List.Mem.tail)) (fun _ => rfl) (fun _ => rfl) (by decide) (by rfl) (fun CC ss' EE QQ NN' hq => kcf_cell NN' (by rfl) (by k_mem) dkn2 (hq _ ss'.toks)) ?fin1LA
              case fin1LA =>
                unfold LCg.FinE
                intro D3 h9 tk9 F9 N9 hO
                k_steps
                unfold Stop
                with_reducible rename News _ _ _ _ => N8
                with_reducible rename Fr _ _ _ _ => F8
                refine LCg.ListComp_U F8 (by with_unfolding_all rfl) (by decide) (by rfl) (by decide) (by rfl) ?_
                k_steps
                unfold Stop
                with_reducible rename News _ _ _ _ => N8
                with_reducible rename Fr _ _ _ _ => F8
                refine LCg.CompSrc.ledger (its := #[Value.int u.val u.vt]) rfl F8 N8 (by k_mem) (by rw [sizeLine_eq]; exact Nat.le_of_ble_eq_true rfl) ?_
                intro gg2
                refine LCg.CompRest.succ ?_
                intro v I3 oI3 CC3 oC3 D4 m3 h10 tk10 E10 hv10 hC10 hx10 F10 N10 off10 q10
                obtain rfl : Value.int u.val u.vt = v := by simpa using hv10
                k_steps
                with_reducible rename News _ _ _ _ => N11
                with_reducible rename Fr _ _ _ _ => F11
                with_reducible rename _ ∧ _ => l11
                obtain ⟨Dt, kt, eDt, ekt⟩ := tup_names N11
                subst eDt ekt
                refine compEnd_new F11 N11 l11.1 l11.2.1 l11.2.2.1 off10 (Or.inr ⟨_, by k_mem, rfl, _, rfl⟩) (LCg.CompRest.zero ?_)
                unfold LCg.FinE
                intro D5 h12 tk12 F12 N12 hO12
                clear hx10 hC10 off10 q10 hv10
                refine add_new F12 N12 (vs := Mine1.refsOf (uses.filter fun u => decide (u.key ≠ key))) (ws := [Value.ref Dt]) (by k_mem) (by k_mem) (by
                  have q1 := List.length_filter_le (fun u : Use => decide (u.key ≠ key)) uses
                  rw [List.length_map]; simp only [List.length_cons, List.length_nil]; omega) ?_
                intro D6 h13 F13 N13 hD6
                k_steps
                with_reducible rename News _ _ _ _ => N14
                with_reducible rename Fr _ _ _ _ => F14
                refine mid_new (nw2 := nw2) (uses' := (uses.filter fun u => decide (u.key ≠ key)) ++ [⟨key, kt, u.val, u.vt, Dt⟩]) F14 N14 (by simp [Mine1.refsOf]) (fun p hp => Nat.ne_of_lt (hD6 p hp)) ?subLA C6 B6 ⟨_, B6.hfix _ (.tail _ mk2)⟩ ?husLA hH6 hT hV (by omega) ?relLA (by simpa [touch] using hrl) (by rfl) (by rfl) (by rfl) (by rfl) (by rfl) (by rfl) ?eRLA
                case subLA => exact fun q hq => by repeat (first | exact hq | apply List.Mem.tail)
                case husLA =>
                  intro x hx
                  rcases List.mem_append.mp hx with hx | hx
                  · have q := B6.hus x (List.mem_filter.mp hx).1
                    repeat (first | exact q | apply List.Mem.tail)
                  · rw [List.mem_singleton.mp hx]; k_mem
                case relLA =>
                  have q := rel_touch (t := t') rel C3.hkn C3.hle hr
                  rw [hrk, hrv] at q
                  rw [List.map_append, uses_filter]
                  exact q
                case eRLA =>
                  intro y a0 a1 a2 a3 a4 a5 a6 a7 a8 a9
                  simp only [a0, a1, a2, a3, a4, a5, a6, a7, a8, a9, if_false]
            · have hun : ∀ u ∈ uses, u.key ≠ key := fun u hu e => by
                obtain ⟨r, hr, hk, -⟩ := rel_at rel (List.mem_map.mpr ⟨u, hu, rfl⟩)
                exact hno r hr (hk.trans e)
              have e1 : (uses.filter fun u => decide (u.key = key)) = [] := List.filter_eq_nil_iff.mpr fun u hu => by simpa using hun u hu
              rw [e1] at hDm
              simp only [List.map_nil] at hDm
              have g3 := hgo _ hDm (calm_keep rfl (by simp))
              have N7 := news_cons N6 g1 (news_cons N6 g2 (news_cons N6 g3 N6))
              clear N1 N2
              k_steps
              unfold Stop
              with_reducible rename News _ _ _ _ => N8
              with_reducible rename Fr _ _ _ _ => F8
              refine LCt.ListComp_T F8 (by with_unfolding_all rfl) (by decide) (by rfl) (by decide) (by rfl) ?_
              k_steps
              unfold Stop
              with_reducible rename News _ _ _ _ => N8
              with_reducible rename Fr _ _ _ _ => F8
              refine LCt.CompSrcT.ledger (its := (Mine1.refsOf uses).toArray) rfl F8 N8 (by k_mem) (by rw [sizeLine_eq, List.size_toArray, List.length_map]; omega) ?_
              intro gg
              refine uf_ne (k := key) rfl (by assumption) (Or.inr ⟨_, by k_mem, rfl, _, rfl⟩) (fun u hu => by
                have q := B6.hus u hu
                repeat (first | exact q | apply List.Mem.tail)) (fun _ => rfl) (fun _ => rfl) (by decide) (by rfl) (fun CC ss' EE QQ NN' hq => kcf_cell NN' (by rfl) (by k_mem) dkn2 (hq _ ss'.toks)) ?fin2LA
              case fin2LA =>
                unfold LCg.FinE
                intro D3 h9 tk9 F9 N9 hO
                k_steps
                unfold Stop
                with_reducible rename News _ _ _ _ => N8
                with_reducible rename Fr _ _ _ _ => F8
                refine LCg.ListComp_U F8 (by with_unfolding_all rfl) (by decide) (by rfl) (by decide) (by rfl) ?_
                k_steps
                unfold Stop
                with_reducible rename News _ _ _ _ => N8
                with_reducible rename Fr _ _ _ _ => F8
                refine LCg.CompSrc.ledger (its := #[]) rfl F8 N8 (by k_mem) (by rw [sizeLine_eq]; exact Nat.le_of_ble_eq_true rfl) ?_
                intro gg2
                refine LCg.CompRest.zero ?_
                unfold LCg.FinE
                intro D5 h12 tk12 F12 N12 hO12
                refine add_new F12 N12 (vs := Mine1.refsOf (uses.filter fun u => decide (u.key ≠ key))) (ws := []) (by k_mem) (by k_mem) (by
                  have q1 := List.length_filter_le (fun u : Use => decide (u.key ≠ key)) uses
                  rw [List.length_map]; simp only [List.length_nil]; omega) ?_
                intro D6 h13 F13 N13 hD6
                k_steps
                with_reducible rename News _ _ _ _ => N14
                with_reducible rename Fr _ _ _ _ => F14
                refine mid_new (nw2 := nw2) (uses' := uses.filter fun u => decide (u.key ≠ key)) F14 N14 (by simp [Mine1.refsOf]) (fun p hp => Nat.ne_of_lt (hD6 p hp)) ?sub2LA C6 B6 ⟨_, B6.hfix _ (.tail _ mk2)⟩ ?hus2LA hH6 hT hV (by omega) ?rel2LA hrl (by rfl) (by rfl) (by rfl) (by rfl) (by rfl) (by rfl) ?eR2LA
                case sub2LA => exact fun q hq => by repeat (first | exact hq | apply List.Mem.tail)
                case hus2LA =>
                  intro x hx
                  have q := B6.hus x (List.mem_filter.mp hx).1
                  repeat (first | exact q | apply List.Mem.tail)
                case rel2LA =>
                  rw [List.filter_eq_self.mpr fun u hu => by simpa using hun u hu]
                  exact rel
                case eR2LA =>
                  intro y a0 a1 a2 a3 a4 a5 a6 a7 a8 a9
                  simp only [a0, a1, a2, a3, a4, a5, a6, a7, a8, a9, if_false]
          · unfold Stop
            k_dflt (refine' taken_cs (A₀ := callerA) (base := ghostOf s1.heap [(211, 209)]) (outer := []) ?k1LB ?k2LB ?k3LB ?k4LB ?k5LB ?k6LB ?k7LB ?k8LB ?k9LB C3 ?_)
            case k1LB => (try simp only [depth_deeper, depth_caller]); omega
            case k2LB => k_asm
            case k3LB => k_asm
            case k4LB => k_asm
            case k5LB => exact fun _ h => (nomatch h)
            case k6LB => k_asm
            case k7LB => k_asm
            case k8LB => k_asm
            case k9LB => k_asm
            k_whole
            intro h' tk' h₀' nw2 rows' res Bk C6 hres hrows' hfr
            obtain ⟨F6, N6⟩ := back_nil Bk
            subst hrows'
            have hgo : ∀ q ∈ nw, Calm (D2 :: U :: [hl, T, st, sc]) q → q ∈ nw2 := fun q hq hc => hfr q hq (calm_ne N2 C5 hq hc).2.1
            have B6 := LB.frame N2 B3 hok C4 hUh hH3 fun q hq a1 a2 a3 a4 a5 => hfr q hq a2
            have hH6 := hgo _ hH3 (calm_keep rfl (by simp))
            have g1 := hgo _ hKm (calm_kn dkn2)
            have g2 := hgo _ bU (calm_keep rfl (by simp))
            have hrl2 : (rows.filter fun r => decide (r.key ≠ key)).length ≤ 12 := Nat.le_trans (List.length_filter_le _ _) hrl
            have fin : ∀ (m : Str → Option Value) (D : Addr) (rest : List (Addr × Obj)) (hh : Heap) (tk9 : Nat), Fr (ghostOf s1.heap [(211, 209)]) s1.heap.objs.size hh m → News (ghostOf s1.heap [(211, 209)]) s1.heap.objs.size hh ((D, LCg.lst (Mine1.refsOf (uses.filter fun u => decide (u.key ≠ key)))) :: rest) → (∀ p ∈ rest, p.1 ≠ D) → (∀ q ∈ nw2, q ∈ rest) →
                m (Str.ofString "uses") = some (.ref D) → m (Str.ofString "times") = some (.ref T) → m (Str.ofString "_law_heard") = some (.ref f) → m (Str.ofString "room") = some (.int thr tr) → m (Str.ofString "size") = some (.int cap tz) → m (Str.ofString "state") = some (.ref st) →
                (∀ y, y ≠ Str.ofString "uses" → y ≠ Str.ofString "_" → y ≠ Str.ofString "deed" → y ≠ Str.ofString "there" → y ≠ Str.ofString "value" → y ≠ Str.ofString "times" → y ≠ Str.ofString "_law_heard" → y ≠ Str.ofString "room" → y ≠ Str.ofString "size" → y ≠ Str.ofString "state" → m y = mR y) →
                Mid w ⟨hl, T, st, sc, s1.heap.objs.size + 1 + 1, c, cd, dd, mx, md, cap, thr, al⟩ ((I, itR (0 + ((i + 1 : Nat) : Int)) (NN - ((i + 1 : Nat) : Int))) :: (XI ++ fx)) f tr tz mR k (ghostOf s1.heap [(211, 209)]) s1.heap.objs.size s1 .next { s1 with heap := hh, toks := tk9 } :=
              fun m D rest hh tk9 F9 N9 hne sub a0 a1 a2 a3 a4 a5 aR => mid_new (nw2 := nw2) (uses' := uses.filter fun u => decide (u.key ≠ key)) F9 N9 rfl hne sub C6 B6 ⟨_, B6.hfix _ (.tail _ mk2)⟩ (fun x hx => sub _ (B6.hus x (List.mem_filter.mp hx).1)) hH6 hT hV (by omega) (by rw [uses_filter]; exact rel_del rel key) hrl2 a0 a1 a2 a3 a4 a5 aR
            by_cases hex : ∃ r ∈ rows, r.key = key
            · have hres2 : res = true := by rw [hres]; simpa using hex
              obtain ⟨r, hr, hrk⟩ := hex
              obtain ⟨u, hu, huk, huv⟩ := rel_use rel hr
              have e1 : (uses.filter fun u => decide (u.key = key)) = [u] := by rw [← hrk, ← huk]; exact filter_one hnd hu
              rw [e1] at hDm
              simp only [List.map_cons, List.map_nil] at hDm
              have g3 := hgo _ hDm (calm_keep rfl (by simp))
              rw [hres2]
              have N7 := news_cons N6 g1 (news_cons N6 g2 (news_cons N6 g3 N6))
              clear N1 N2
              k_steps
              · rename_i hbad; simp at hbad
              unfold Stop
              with_reducible rename News _ _ _ _ => N8
              with_reducible rename Fr _ _ _ _ => F8
              refine LCt.Assign_ListComp_T F8 rfl (by with_unfolding_all rfl) (by with_unfolding_all rfl) (by decide) (by rfl) (by decide) (by rfl) (by rfl) (by rfl) ?_
              k_steps
              unfold Stop
              with_reducible rename News _ _ _ _ => N8
              with_reducible rename Fr _ _ _ _ => F8
              refine LCt.CompSrcT.ledger (its := (Mine1.refsOf uses).toArray) rfl F8 N8 (by k_mem) (by rw [sizeLine_eq, List.size_toArray, List.length_map]; omega) ?_
              intro gg
              refine uf_ne (k := key) rfl (by assumption) (Or.inr ⟨_, by k_mem, rfl, _, rfl⟩) (fun u hu => by
                have q := B6.hus u hu
                repeat (first | exact q | apply List.Mem.tail)) (fun _ => rfl) (fun _ => rfl) (by decide) (by rfl) (fun CC ss' EE QQ NN' hq => kcf_cell NN' (by rfl) (by k_mem) dkn2 (hq _ ss'.toks)) ?fin1LB
              case fin1LB =>
                unfold LCg.FinA
                intro D5 h12 tk12 F12 N12 hO12
                k_steps
                exact fin _ D5 _ _ _ F12 N12 (off1_mem hO12) (fun q hq => by repeat (first | exact hq | apply List.Mem.tail)) (by rfl) (by rfl) (by rfl) (by rfl) (by rfl) (by rfl) (fun y a0 a1 a2 a3 a4 a5 a6 a7 a8 a9 => by simp only [a0, a1, a2, a3, a4, a5, a6, a7, a8, a9, if_false])
            · have hres2 : res = false := by rw [hres]; simpa using hex
              have hun : ∀ u ∈ uses, u.key ≠ key := fun u hu e => by
                obtain ⟨r, hr, hk, -⟩ := rel_at rel (List.mem_map.mpr ⟨u, hu, rfl⟩)
                exact hex ⟨r, hr, hk.trans e⟩
              have e1 : (uses.filter fun u => decide (u.key = key)) = [] := List.filter_eq_nil_iff.mpr fun u hu => by simpa using hun u hu
              rw [e1] at hDm
              simp only [List.map_nil] at hDm
              have g3 := hgo _ hDm (calm_keep rfl (by simp))
              rw [hres2]
              have N7 := news_cons N6 g1 (news_cons N6 g2 (news_cons N6 g3 N6))
              clear N1 N2
              k_steps
              unfold Stop
              with_reducible rename News _ _ _ _ => N8
              with_reducible rename Fr _ _ _ _ => F8
              refine LCt.Assign_ListComp_T F8 rfl (by with_unfolding_all rfl) (by with_unfolding_all rfl) (by decide) (by rfl) (by decide) (by rfl) (by rfl) (by rfl) ?_
              k_steps
              unfold Stop
              with_reducible rename News _ _ _ _ => N8
              with_reducible rename Fr _ _ _ _ => F8
              refine LCt.CompSrcT.ledger (its := (Mine1.refsOf uses).toArray) rfl F8 N8 (by k_mem) (by rw [sizeLine_eq, List.size_toArray, List.length_map]; omega) ?_
              intro gg
              refine uf_ne (k := key) rfl (by assumption) (Or.inr ⟨_, by k_mem, rfl, _, rfl⟩) (fun u hu => by
                have q := B6.hus u hu
                repeat (first | exact q | apply List.Mem.tail)) (fun _ => rfl) (fun _ => rfl) (by decide) (by rfl) (fun CC ss' EE QQ NN' hq => kcf_cell NN' (by rfl) (by k_mem) dkn2 (hq _ ss'.toks)) ?fin2LB
              case fin2LB =>
                unfold LCg.FinA
                intro D5 h12 tk12 F12 N12 hO12
                k_steps
                exact fin _ D5 _ _ _ F12 N12 (off1_mem hO12) (fun q hq => by repeat (first | exact hq | apply List.Mem.tail)) (by rfl) (by rfl) (by rfl) (by rfl) (by rfl) (by rfl) (fun y a0 a1 a2 a3 a4 a5 a6 a7 a8 a9 => by simp only [a0, a1, a2, a3, a4, a5, a6, a7, a8, a9, if_false])
          · unfold Stop
            with_reducible rename News _ _ _ _ => N3
            with_reducible rename Fr _ _ _ _ => F3
            have N2 := hN2s ()
            obtain ⟨okn, vkn, bkn, dkn⟩ := B3.hkn
            dsimp only at bkn
            have C6 := CS.turnN N3 [st, s1.heap.objs.size + 1 + 1, T] N2 C4 (by
              simp only [List.forall_mem_cons]
              exact ⟨⟨_, bst, .inr ⟨⟨_, _, rfl⟩, by simp⟩⟩, ⟨_, hKm, .inl ⟨_, dkn2⟩⟩, ⟨_, bT, .inr ⟨⟨_, _, rfl⟩, by simp⟩⟩, fun _ h => nomatch h⟩) (fun q hq e => by
              simp only [List.mem_cons, List.mem_nil_iff, or_false, not_or] at e
              have q1 := up q hq e.1 e.2.1 e.2.2
              repeat (first | exact q1 | apply List.Mem.tail))
            have B6 := LB.turnN N3 N2 B3 hfo2 hUo (fun q hq a1 a2 a3 => by
              have q1 := up q hq a1 a2 a3
              repeat (first | exact q1 | apply List.Mem.tail)) (by k_mem) (by k_mem) (by assumption) (by assumption) (by k_mem) (by assumption)
            have hH6 := memN N3 (q := (hl, W.listOf hv.toArray hep)) (by
              have q1 := up _ hH3 (Ne.symm hs1) (Ne.symm hk1) (Ne.symm hq1)
              repeat (first | exact q1 | apply List.Mem.tail))
            have hXn := fun q hq => B6.hfix q (List.mem_cons_of_mem _ (List.mem_append_left fx hq))
            have hkn6 := memN N3 (q := (s1.heap.objs.size + 1 + 1, _)) (by k_mem)
            obtain ⟨uep6, bU6⟩ := B6.hU
            obtain ⟨tep6, bT6⟩ := B6.hT
            obtain ⟨_, _, _, _, _, _, _, bst6⟩ := B6.hst
            have hvl : hv.length ≤ 100 := by have := hV.length; omega
            have hal2 : al = .none ∨ al = .ref f ∧ AlertOK w (U :: [hl, T, st, sc]) f c cd dd mx md hl cap thr XI HP1 (Eff1 ls) := by
              rcases hjoin with ⟨e, -⟩ | ⟨e, -⟩
              · exact .inl e
              · exact .inr ⟨e, hal c cd dd mx md cap thr _ (by simp)⟩
            k_dflt (refine' setitem_cs (A₀ := callerA) (base := ghostOf s1.heap [(211, 209)]) (outer := []) (oh := W.listOf hv.toArray hep) hal2 ?k1LC ?kuLC ?k2LC ?k3LC ?k4LC ?k5LC ?k6LC ?k7LC ?k8LC ?k9LC C6 ?kaLC hH6 ⟨hv, hep, rfl, hvl⟩ ?kpLC hXn hXo hg1 hg2 hg3 (B6.hfix _ (List.mem_cons_of_mem _ mx1)) ?b1LC ?b2LC ?b3LC ?b4LC ?_)
            case k1LC => (try simp only [depth_deeper, depth_caller]); omega
            case kuLC => exact Nat.le_of_ble_eq_true rfl
            case k2LC => k_asm
            case k3LC => k_asm
            case k4LC => k_asm
            case k5LC => exact fun _ h => (nomatch h)
            case k6LC => k_asm
            case k7LC => k_asm
            case k8LC => k_asm
            case k9LC => k_asm
            case kaLC => omega
            case kpLC =>
              simp only [List.forall_mem_cons]
              exact ⟨⟨_, bU6⟩, ⟨_, hH6⟩, ⟨_, bT6⟩, ⟨_, bst6⟩, ⟨_, B6.hfix _ (List.mem_cons_of_mem _ mk2)⟩, fun _ h => nomatch h⟩
            case b1LC => omega
            case b2LC => omega
            case b3LC => omega
            case b4LC => omega
            k_whole
            intro h' tk' h₀' nw2 oh' n' rows' r Bk C7 hH7 hrk hrc hrv hmp hfr
            obtain ⟨F7, N7⟩ := back_nil Bk
            obtain ⟨v, vt, ev1, ev2⟩ := int_names hrv
            subst ev1 ev2
            have B7 := LB.frame N3 B6 hok C6 hUh hH6 fun q hq a1 a2 a3 a4 _ => hfr q hq a1 a2 a3 a4
            have hkn7 := hfr _ hkn6 (calm_ne N3 C6 hkn6 (calm_kn dkn2)).1 (calm_ne N3 C6 hkn6 (calm_kn dkn2)).2.1 hk1 (calm_ne N3 C6 hkn6 (calm_kn dkn2)).2.2.1
            obtain ⟨⟨uep7, bU7⟩, bus7, ⟨tep7, bT7⟩, ⟨pos7, tp7, seed7, tsd7, sep7, bp71, bp72, bst7⟩, bfix7, -⟩ := id B7
            dsimp only at bT7 bst7
            have f37 := bfix7 _ (List.mem_cons_of_mem _ mx3)
            have C8 := C7.dropU
            have hoffU8 : ∀ r ∈ rows', r.lst ≠ U := fun r hr e => C7.hoff r hr (by rw [e]; simp)
            have hm1 := put_len2 rel C3.hkn C3.hle hrc
            rw [← uses_filter, List.length_map, hrk] at hm1
            have N8 := news_cons N7 bT7 (news_cons N7 hkn7 (news_cons N7 f37 (news_cons N7 bU7 (news_mono (news' := wo [T] nw2) N7 fun _ h => wo_sub h))))
            have hR7 : ∀ q ∈ wo [T] nw2, q.1 ≠ T := wo_ne (by simp)
            have up7 : ∀ q ∈ nw2, q.1 ≠ T → q ∈ wo [T] nw2 := fun q hq e1 => wo_mem hq (by simp [e1])
            generalize wo [T] nw2 = R7 at *
            have bus8 : ∀ u ∈ uses, (u.tup, u.obj) ∈ R7 := fun u hu => up7 _ (bus7 u hu) (news_nec N7 (bus7 u hu) bT7 (by simp))
            clear hN2s N2 N3
            have hN7s := fun (_ : Unit) => N7
            clear N7
            k_steps
            unfold Stop
            with_reducible rename News _ _ _ _ => N8
            with_reducible rename Fr _ _ _ _ => F8
            refine LCt.ListComp_T F8 (by with_unfolding_all rfl) (by decide) (by rfl) (by decide) (by rfl) ?_
            k_steps
            unfold Stop
            with_reducible rename News _ _ _ _ => N8
            with_reducible rename Fr _ _ _ _ => F8
            refine LCt.CompSrcT.ledger (its := (Mine1.refsOf uses).toArray) rfl F8 N8 (by k_mem) (by rw [sizeLine_eq, List.size_toArray, List.length_map]; omega) ?_
            intro gg
            refine uf_ne (k := key) rfl (by assumption) (Or.inr ⟨_, by k_mem, rfl, _, rfl⟩) (fun u hu => by
              have q := bus8 u hu
              repeat (first | exact q | apply List.Mem.tail)) (fun _ => rfl) (fun _ => rfl) (by decide) (by rfl) (fun CC ss' EE QQ NN' hq => kcf_cell NN' (by rfl) (by k_mem) dkn2 (hq _ ss'.toks)) ?fin1LC
            case fin1LC =>
              unfold LCg.FinE
              intro D3 h9 tk9 F9 N9 hO
              k_steps
              with_reducible rename News _ _ _ _ => N12
              with_reducible rename Fr _ _ _ _ => F12
              have hTD3 : T ≠ D3 := off1_mem hO (T, _) (by k_mem)
              have htl : tv.length ≤ 12 := by have := hT.length; omega
              obtain ⟨Dt, Dl, kt, eDt, eDl, ekt⟩ := tup_names2 N12
              subst eDt eDl ekt
              have hql := List.length_filter_le (fun u : Use => decide (u.key ≠ key)) uses
              have hl6 : (Mine1.refsOf (uses.filter fun u => decide (u.key ≠ key)) ++ [Value.ref Dt]).length = (putRow rows r).length := by rw [List.length_append, List.length_map]; exact hm1
              have hpl : (putRow rows r).length ≤ 13 := Nat.le_trans (put_len _ _) (by omega)
              refine add_new F12 N12 (vs := Mine1.refsOf (uses.filter fun u => decide (u.key ≠ key))) (ws := [Value.ref Dt]) (by k_mem) (by k_mem) (by
                rw [List.length_map]; simp only [List.length_cons, List.length_nil]; omega) ?_
              intro D6 h13 F13 N13 hD6
              have hTD6 : T ≠ D6 := Nat.ne_of_lt (hD6 (T, _) (by k_mem))
              obtain ⟨us2, hus2⟩ : ∃ us2 : List Use, us2 = (uses.filter fun u => decide (u.key ≠ key)) ++ [⟨key, kt, v, vt, Dt⟩] := ⟨_, rfl⟩
              have hu2r : Mine1.refsOf (uses.filter fun u => decide (u.key ≠ key)) ++ [Value.ref Dt] = Mine1.refsOf us2 := by rw [hus2]; simp [Mine1.refsOf]
              have hu2t : ∀ u ∈ us2, (u.tup, u.obj) ∈ (Dt, ({ cls := .type "tuple", data := .seq #[.str key kt, .int v vt] } : Obj)) :: R7 := by
                rw [hus2]
                intro u hu
                rcases List.mem_append.mp hu with hu | hu
                · exact List.mem_cons_of_mem _ (bus8 u (List.mem_filter.mp hu).1)
                · rw [List.mem_singleton.mp hu]; exact List.mem_cons_self ..
              have hrel2 : Rel (putRow rows r) (us2.map Use.pair) := by
                have q := rel_put (r := r) rel C3.hkn C3.hle hrc
                rw [hus2, List.map_append, uses_filter]
                have e : rv r = v := by unfold rv; rw [hrv]
                rw [hrk, e] at q
                exact q
              rw [hu2r] at N13 hl6
              have hl62 : us2.length = (putRow rows r).length := by rw [← hl6, List.length_map]
              have hkn2 := put_keys (r := r) C3.hkn
              have hnd2 := put_ctrs C3.hkn C3.hnd C3.hle hrc
              have hle2 : ∀ x ∈ putRow rows r, x.ctr ≤ nn + 1 := fun x hx => by
                rcases put_mem hx with rfl | ⟨hx, -⟩
                · exact Int.le_of_eq hrc
                · have := C3.hle x hx; omega
              clear hus2 hu2r
              rcases hmp with ⟨hfit, rfl, rfl, rfl⟩ | ⟨hover, rows1, srows, hnone, heff, hperm, hord, rfl⟩
              · k_steps
                with_reducible rename News _ _ _ _ => N14
                with_reducible rename Fr _ _ _ _ => F14
                have hN7 := hN7s ()
                refine mid_new (nw2 := nw2) (uses' := us2) F14 N14 rfl ?ne0LC ?sub0LC C8 B7 ⟨_, bfix7 _ (.tail _ mk2)⟩ ?hus0LC hH7 hT hV (by omega) hrel2 ?hrl0LC (by rfl) (by rfl) (by rfl) (by rfl) (by rfl) (by rfl) ?eR0LC
                case ne0LC => exact fun p hp => Nat.ne_of_lt (hD6 p hp)
                case sub0LC =>
                  intro q hq
                  by_cases e : q.1 = T
                  · have q1 := news_same hN7 bT7 hq e
                    rw [q1]; k_mem
                  · have q1 := up7 q hq e
                    repeat (first | exact q1 | apply List.Mem.tail)
                case hus0LC =>
                  intro x hx
                  have q1 := hu2t x hx
                  rcases List.mem_cons.mp q1 with q1 | q1
                  · rw [q1]; k_mem
                  · repeat (first | exact q1 | apply List.Mem.tail)
                case hrl0LC => have := cap_thr (cap := cap) (thr := thr) (by omega) (by omega) (by omega) (by omega); omega
                case eR0LC => exact fun y a0 a1 a2 a3 a4 a5 a6 a7 a8 a9 => by simp only [a0, a1, a2, a3, a4, a5, a6, a7, a8, a9, if_false]
              · have hkl1 := hover
                rcases hjoin with ⟨hj1, hj2⟩ | ⟨hj1, hj2⟩
                · obtain ⟨rfl, rfl, rfl⟩ := hnone hj1
                  k_steps
                  · exfalso; omega
                  · exfalso; omega
                  unfold Stop
                  with_reducible rename News _ _ _ _ => N15
                  with_reducible rename Fr _ _ _ _ => F15
                  k_dflt (refine slice_tail (F15.push _) (News.push F15 N15 _) (.tail _ (.head _)) (.head _) ?za1LC ?zb1LC ?zc1LC ?zd1LC)
                  case za1LC => split <;> omega
                  case zb1LC => rw [hl6]; split <;> omega
                  case zc1LC => omega
                  case zd1LC =>
                    intro h17 D7 F17 N17 hD7
                    k_steps
                    with_reducible rename News _ _ _ _ => N18
                    with_reducible rename Fr _ _ _ _ => F18
                    have hN7 := hN7s ()
                    have C10 := CS.turnN (news_mono N18 fun q hq => List.mem_cons_of_mem _ hq) [T] hN7 C8 (by
                      simp only [List.forall_mem_cons]
                      exact ⟨⟨_, bT7, .inr ⟨⟨_, _, rfl⟩, by simp⟩⟩, fun _ h => nomatch h⟩) (fun q hq e => by
                      have q1 := up7 q hq (by simpa using e)
                      repeat (first | exact q1 | apply List.Mem.tail))
                    have B10 := LB.turnN (tv' := tv) (news_mono N18 fun q hq => List.mem_cons_of_mem _ hq) hN7 B7 hfo2 hUo (fun q hq a1 a2 a3 => by
                      have q1 := up7 q hq a3
                      repeat (first | exact q1 | apply List.Mem.tail)) (by k_mem) (by
                      have q1 := up7 _ bst7 (Ne.symm hq2)
                      repeat (first | exact q1 | apply List.Mem.tail)) (by assumption) (by assumption) (by k_mem) (by assumption)
                    refine mid_new (uses' := us2.drop (if ((putRow rows r).length : Int) - cap > 0 then ((putRow rows r).length : Int) - cap else 0).toNat) F18 N18 (refs_drop _ _) (fun p hp => Nat.ne_of_lt (hD7 p hp)) (fun q hq => hq) C10 B10 ⟨_, B10.hfix _ (List.mem_cons_of_mem _ mk2)⟩ ?hus1LC (by
                      have q1 := up7 _ hH7 (Ne.symm hq1)
                      repeat (first | exact q1 | apply List.Mem.tail)) hT hV (by omega) (clear_rel hrel2 hkn2 hperm hord (by omega) hl62) (clear_len hkn2 hperm (by omega)) (by rfl) (by rfl) (by rfl) (by rfl) (by rfl) (by rfl) ?eR1LC
                    case hus1LC =>
                      intro x hx
                      have q1 := hu2t x (List.mem_of_mem_drop hx)
                      rcases List.mem_cons.mp q1 with q1 | q1
                      · rw [q1]; k_mem
                      · repeat (first | exact q1 | apply List.Mem.tail)
                    case eR1LC => exact fun y a0 a1 a2 a3 a4 a5 a6 a7 a8 a9 => by simp only [a0, a1, a2, a3, a4, a5, a6, a7, a8, a9, if_false]
                · obtain ⟨hE1, hE2⟩ := heff hj1
                  obtain ⟨tE, epE, rfl⟩ := hE1 hv hep rfl
                  rcases hE2 with ⟨hl2, rfl, rz, hz1, hz2, ⟨tz7, hz3⟩, rfl⟩ | ⟨hl3, rfl, rfl⟩ | ⟨hl2, hl3, rfl, rfl⟩
                  · k_steps
                    rotate_left
                    · exact absurd hl2 (by assumption)
                    unfold Stop
                    with_reducible rename News _ _ _ _ => N14
                    with_reducible rename Fr _ _ _ _ => F14
                    refine LCt.ListComp_T F14 (by with_unfolding_all rfl) (by decide) (by rfl) (by decide) (by rfl) ?_
                    k_steps
                    unfold Stop
                    with_reducible rename News _ _ _ _ => N14
                    with_reducible rename Fr _ _ _ _ => F14
                    refine LCt.CompSrcT.ledger (its := (Mine1.refsOf us2).toArray) rfl F14 N14 (by k_mem) (by rw [sizeLine_eq, List.size_toArray, hl6]; omega) ?_
                    intro gg3
                    refine uf_ne (k := Str.ofString "z") rfl (by assumption) (Or.inr ⟨_, by k_mem, rfl, _, rfl⟩) (fun u hu => by
                      have q := hu2t u hu
                      simp only [List.mem_cons] at q
                      rcases q with q | q
                      · rw [q]; k_mem
                      · repeat (first | exact q | apply List.Mem.tail)) (fun _ => rfl) (fun _ => rfl) (by decide) (by rfl) (fun CC ss' EE QQ NN' hq => Calls.Constant_str (hq _ _)) ?finZLC
                    case finZLC =>
                      unfold LCg.FinE
                      intro D8 h18 tk18 F16 N16 hO16
                      k_steps
                      with_reducible rename News _ _ _ _ => N17
                      with_reducible rename Fr _ _ _ _ => F17
                      obtain ⟨Dz, Dlz, ktz, vtz, eDz, eDlz, Nz17⟩ := tup_names3 N17
                      subst eDz eDlz
                      have hqz := List.length_filter_le (fun u : Use => decide (u.key ≠ Str.ofString "z")) us2
                      refine add_new F17 Nz17 (vs := Mine1.refsOf (us2.filter fun u => decide (u.key ≠ Str.ofString "z"))) (ws := [Value.ref Dz]) (by k_mem) (by k_mem) (by
                        rw [List.length_map]; simp only [List.length_cons, List.length_nil]; omega) ?_
                      intro D9 h19 F19 N19 hD9
                      have hrel3 := rel_put (r := rz) hrel2 hkn2 hle2 hz2
                      have hkn3 := put_keys (r := rz) hkn2
                      obtain ⟨us3, hus3⟩ : ∃ us3 : List Use, us3 = (us2.filter fun u => decide (u.key ≠ Str.ofString "z")) ++ [⟨Str.ofString "z", ktz, 7, vtz, Dz⟩] := ⟨_, rfl⟩
                      have hu3r : Mine1.refsOf (us2.filter fun u => decide (u.key ≠ Str.ofString "z")) ++ [Value.ref Dz] = Mine1.refsOf us3 := by rw [hus3]; simp [Mine1.refsOf]
                      have hrel4 : Rel (putRow (putRow rows r) rz) (us3.map Use.pair) := by
                        rw [hus3, List.map_append, uses_filter]
                        have e : rv rz = 7 := by unfold rv; rw [hz3]
                        rw [hz1, e] at hrel3
                        exact hrel3
                      rw [hu3r] at N19
                      have hu3t : ∀ u ∈ us3, (u.tup, u.obj) ∈ (Dz, ({ cls := .type "tuple", data := .seq #[.str (Str.ofString "z") ktz, .int 7 vtz] } : Obj)) :: (Dt, ({ cls := .type "tuple", data := .seq #[.str key kt, .int v vt] } : Obj)) :: R7 := by
                        rw [hus3]
                        intro u hu
                        rcases List.mem_append.mp hu with hu | hu
                        · exact List.mem_cons_of_mem _ (hu2t u (List.mem_filter.mp hu).1)
                        · rw [List.mem_singleton.mp hu]; exact List.mem_cons_self ..
                      have hl72 : us3.length = (putRow (putRow rows r) rz).length := by have := rel_len hrel4; rwa [List.length_map] at this
                      have hl7 : (Mine1.refsOf us3).length = (putRow (putRow rows r) rz).length := by rw [List.length_map]; exact hl72
                      have hl73 : (putRow (putRow rows r) rz).length ≤ 14 := Nat.le_trans (put_len _ _) (by omega)
                      clear hus3 hu3r hrel3
                      k_steps
                      · exfalso; omega
                      unfold Stop
                      with_reducible rename News _ _ _ _ => N15
                      with_reducible rename Fr _ _ _ _ => F15
                      k_dflt (refine slice_tail (xs := Mine1.refsOf us3) (F15.push _) (News.push F15 N15 _) (by k_mem) (.head _) ?za4LC ?zb4LC ?zc4LC ?zd4LC)
                      case za4LC => split <;> omega
                      case zb4LC => rw [hl7]; split <;> omega
                      case zc4LC => omega
                      case zd4LC =>
                        intro h17 D7 F17 N17 hD7
                        k_steps
                        with_reducible rename News _ _ _ _ => N18
                        with_reducible rename Fr _ _ _ _ => F18
                        simp only [List.push_toArray] at N18 hD7
                        have hN7 := hN7s ()
                        have C10 := CS.turnN (news_mono N18 fun q hq => List.mem_cons_of_mem _ hq) [T] hN7 C8 (by
                          simp only [List.forall_mem_cons]
                          exact ⟨⟨_, bT7, .inr ⟨⟨_, _, rfl⟩, by simp⟩⟩, fun _ h => nomatch h⟩) (fun q hq e => by
                          have q1 := up7 q hq (by simpa using e)
                          repeat (first | exact q1 | apply List.Mem.tail))
                        have B10 := LB.turnN (tv' := tv ++ [_]) (news_mono N18 fun q hq => List.mem_cons_of_mem _ hq) hN7 B7 hfo2 hUo (fun q hq a1 a2 a3 => by
                          have q1 := up7 q hq a3
                          repeat (first | exact q1 | apply List.Mem.tail)) (by k_mem) (by
                          have q1 := up7 _ bst7 (Ne.symm hq2)
                          repeat (first | exact q1 | apply List.Mem.tail)) (by assumption) (by assumption) (by k_mem) (by assumption)
                        refine mid_new (uses' := us3.drop (if ((putRow (putRow rows r) rz).length : Int) - cap > 0 then ((putRow (putRow rows r) rz).length : Int) - cap else 0).toNat) F18 N18 (refs_drop _ _) (fun p hp => Nat.ne_of_lt (hD7 p hp)) (fun q hq => hq) C10 B10 ⟨_, B10.hfix _ (List.mem_cons_of_mem _ mk2)⟩ ?hus4LC (by
                          have q1 := up7 _ hH7 (Ne.symm hq1)
                          repeat (first | exact q1 | apply List.Mem.tail)) (hT.append (.cons _ _ .nil)) (hV.append (.cons _ _ .nil)) (by rw [List.length_append, List.length_singleton]; omega) (clear_rel hrel4 hkn3 hperm hord (by omega) hl72) (clear_len hkn3 hperm (by omega)) (by rfl) (by rfl) (by rfl) (by rfl) (by rfl) (by rfl) ?eR4LC
                        case hus4LC =>
                          intro x hx
                          have q1 := hu3t x (List.mem_of_mem_drop hx)
                          simp only [List.mem_cons] at q1
                          rcases q1 with q1 | q1 | q1
                          · rw [q1]; k_mem
                          · rw [q1]; k_mem
                          · repeat (first | exact q1 | apply List.Mem.tail)
                        case eR4LC => exact fun y a0 a1 a2 a3 a4 a5 a6 a7 a8 a9 => by simp only [a0, a1, a2, a3, a4, a5, a6, a7, a8, a9, if_false]
                  · k_steps
                    · exfalso; omega
                    rotate_left
                    · exfalso; omega
                    unfold Stop
                    with_reducible rename News _ _ _ _ => N14
                    with_reducible rename Fr _ _ _ _ => F14
                    refine LCt.Assign_ListComp_T F14 rfl (by with_unfolding_all rfl) (by with_unfolding_all rfl) (by decide) (by rfl) (by decide) (by rfl) (by rfl) (by rfl) ?_
                    k_steps
                    unfold Stop
                    with_reducible rename News _ _ _ _ => N14
                    with_reducible rename Fr _ _ _ _ => F14
                    refine LCt.CompSrcT.ledger (its := (Mine1.refsOf us2).toArray) rfl F14 N14 (by k_mem) (by rw [sizeLine_eq, List.size_toArray, hl6]; omega) ?_
                    intro gg3
                    refine uf_ne (k := Str.ofString "a") rfl (by assumption) (Or.inr ⟨_, by k_mem, rfl, _, rfl⟩) (fun u hu => by
                      have q := hu2t u hu
                      simp only [List.mem_cons] at q
                      rcases q with q | q
                      · rw [q]; k_mem
                      · repeat (first | exact q | apply List.Mem.tail)) (fun _ => rfl) (fun _ => rfl) (by decide) (by rfl) (fun CC ss' EE QQ NN' hq => Calls.Constant_str (hq _ _)) ?finALC
                    case finALC =>
                      unfold LCg.FinA
                      intro D8 h18 tk18 F16 N16 hO16
                      have hrel3 := rel_del hrel2 (Str.ofString "a")
                      rw [← uses_filter] at hrel3
                      have hkn3 := hkn2.sublist ((List.filter_sublist (p := fun r => decide (r.key ≠ Str.ofString "a")) (l := putRow rows r)).map (·.key))
                      obtain ⟨us3, hus3⟩ : ∃ us3 : List Use, us3 = us2.filter fun u => decide (u.key ≠ Str.ofString "a") := ⟨_, rfl⟩
                      rw [← hus3] at N16 hrel3
                      have hu3t : ∀ u ∈ us3, (u.tup, u.obj) ∈ (Dt, ({ cls := .type "tuple", data := .seq #[.str key kt, .int v vt] } : Obj)) :: R7 := fun u hu => hu2t u (by rw [hus3] at hu; exact (List.mem_filter.mp hu).1)
                      have hl72 : us3.length = ((putRow rows r).filter fun r => decide (r.key ≠ Str.ofString "a")).length := by have := rel_len hrel3; rwa [List.length_map] at this
                      have hl7 : (Mine1.refsOf us3).length = ((putRow rows r).filter fun r => decide (r.key ≠ Str.ofString "a")).length := by rw [List.length_map]; exact hl72
                      have hl73 : ((putRow rows r).filter fun r => decide (r.key ≠ Str.ofString "a")).length ≤ 13 := Nat.le_trans (List.length_filter_le _ _) hpl
                      clear hus3
                      k_steps
                      unfold Stop
                      with_reducible rename News _ _ _ _ => N15
                      with_reducible rename Fr _ _ _ _ => F15
                      k_dflt (refine slice_tail (xs := Mine1.refsOf us3) (F15.push _) (News.push F15 N15 _) (by k_mem) (.head _) ?za3LC ?zb3LC ?zc3LC ?zd3LC)
                      case za3LC => split <;> omega
                      case zb3LC => rw [hl7]; split <;> omega
                      case zc3LC => omega
                      case zd3LC =>
                        intro h17 D7 F17 N17 hD7
                        k_steps
                        with_reducible rename News _ _ _ _ => N18
                        with_reducible rename Fr _ _ _ _ => F18
                        simp only [List.push_toArray] at N18 hD7
                        have hN7 := hN7s ()
                        have C10 := CS.turnN (news_mono N18 fun q hq => List.mem_cons_of_mem _ hq) [T] hN7 C8 (by
                          simp only [List.forall_mem_cons]
                          exact ⟨⟨_, bT7, .inr ⟨⟨_, _, rfl⟩, by simp⟩⟩, fun _ h => nomatch h⟩) (fun q hq e => by
                          have q1 := up7 q hq (by simpa using e)
                          repeat (first | exact q1 | apply List.Mem.tail))
                        have B10 := LB.turnN (tv' := tv ++ [_]) (news_mono N18 fun q hq => List.mem_cons_of_mem _ hq) hN7 B7 hfo2 hUo (fun q hq a1 a2 a3 => by
                          have q1 := up7 q hq a3
                          repeat (first | exact q1 | apply List.Mem.tail)) (by k_mem) (by
                          have q1 := up7 _ bst7 (Ne.symm hq2)
                          repeat (first | exact q1 | apply List.Mem.tail)) (by assumption) (by assumption) (by k_mem) (by assumption)
                        refine mid_new (uses' := us3.drop (if (((putRow rows r).filter fun r => decide (r.key ≠ Str.ofString "a")).length : Int) - cap > 0 then (((putRow rows r).filter fun r => decide (r.key ≠ Str.ofString "a")).length : Int) - cap else 0).toNat) F18 N18 (refs_drop _ _) (fun p hp => Nat.ne_of_lt (hD7 p hp)) (fun q hq => hq) C10 B10 ⟨_, B10.hfix _ (List.mem_cons_of_mem _ mk2)⟩ ?hus3LC (by
                          have q1 := up7 _ hH7 (Ne.symm hq1)
                          repeat (first | exact q1 | apply List.Mem.tail)) (hT.append (.cons _ _ .nil)) (hV.append (.cons _ _ .nil)) (by rw [List.length_append, List.length_singleton]; omega) (clear_rel hrel3 hkn3 hperm hord (by omega) hl72) (clear_len hkn3 hperm (by omega)) (by rfl) (by rfl) (by rfl) (by rfl) (by rfl) (by rfl) ?eR3LC
                        case hus3LC =>
                          intro x hx
                          have q1 := hu3t x (List.mem_of_mem_drop hx)
                          simp only [List.mem_cons] at q1
                          rcases q1 with q1 | q1
                          · rw [q1]; k_mem
                          · repeat (first | exact q1 | apply List.Mem.tail)
                        case eR3LC => exact fun y a0 a1 a2 a3 a4 a5 a6 a7 a8 a9 => by simp only [a0, a1, a2, a3, a4, a5, a6, a7, a8, a9, if_false]
                  · k_steps
                    · exfalso; omega
                    · exfalso; omega
                    unfold Stop
                    with_reducible rename News _ _ _ _ => N15
                    with_reducible rename Fr _ _ _ _ => F15
                    k_dflt (refine slice_tail (xs := Mine1.refsOf us2) (F15.push _) (News.push F15 N15 _) (by k_mem) (.head _) ?za2LC ?zb2LC ?zc2LC ?zd2LC)
                    case za2LC => split <;> omega
                    case zb2LC => rw [hl6]; split <;> omega
                    case zc2LC => omega
                    case zd2LC =>
                      intro h17 D7 F17 N17 hD7
                      k_steps
                      with_reducible rename News _ _ _ _ => N18
                      with_reducible rename Fr _ _ _ _ => F18
                      simp only [List.push_toArray] at N18 hD7
                      have hN7 := hN7s ()
                      have C10 := CS.turnN (news_mono N18 fun q hq => List.mem_cons_of_mem _ hq) [T] hN7 C8 (by
                        simp only [List.forall_mem_cons]
                        exact ⟨⟨_, bT7, .inr ⟨⟨_, _, rfl⟩, by simp⟩⟩, fun _ h => nomatch h⟩) (fun q hq e => by
                        have q1 := up7 q hq (by simpa using e)
                        repeat (first | exact q1 | apply List.Mem.tail))
                      have B10 := LB.turnN (tv' := tv ++ [_]) (news_mono N18 fun q hq => List.mem_cons_of_mem _ hq) hN7 B7 hfo2 hUo (fun q hq a1 a2 a3 => by
                        have q1 := up7 q hq a3
                        repeat (first | exact q1 | apply List.Mem.tail)) (by k_mem) (by
                        have q1 := up7 _ bst7 (Ne.symm hq2)
                        repeat (first | exact q1 | apply List.Mem.tail)) (by assumption) (by assumption) (by k_mem) (by assumption)
                      refine mid_new (uses' := us2.drop (if ((putRow rows r).length : Int) - cap > 0 then ((putRow rows r).length : Int) - cap else 0).toNat) F18 N18 (refs_drop _ _) (fun p hp => Nat.ne_of_lt (hD7 p hp)) (fun q hq => hq) C10 B10 ⟨_, B10.hfix _ (List.mem_cons_of_mem _ mk2)⟩ ?hus2LC (by
                        have q1 := up7 _ hH7 (Ne.symm hq1)
                        repeat (first | exact q1 | apply List.Mem.tail)) (hT.append (.cons _ _ .nil)) (hV.append (.cons _ _ .nil)) (by rw [List.length_append, List.length_singleton]; omega) (clear_rel hrel2 hkn2 hperm hord (by omega) hl62) (clear_len hkn2 hperm (by omega)) (by rfl) (by rfl) (by rfl) (by rfl) (by rfl) (by rfl) ?eR2LC
                      case hus2LC =>
                        intro x hx
                        have q1 := hu2t x (List.mem_of_mem_drop hx)
                        simp only [List.mem_cons] at q1
                        rcases q1 with q1 | q1
                        · rw [q1]; k_mem
                        · repeat (first | exact q1 | apply List.Mem.tail)
                      case eR2LC => exact fun y a0 a1 a2 a3 a4 a5 a6 a7 a8 a9 => by simp only [a0, a1, a2, a3, a4, a5, a6, a7, a8, a9, if_false]
        case tailPartLt =>
          intro fl s' hM
          have pt : PassTail := trivial
          have pl : PassLC := trivial
          obtain ⟨rfl, h', tk', m', news', rfl, F', N', U', uses', tv', hv', ts', n', rows', q1', q2', q3', q4', hep', J⟩ := hM
          obtain ⟨hm', C', B', hH', hT', hV', hlen', rel', hrl', hU', hoffU'⟩ := J
          subst hm'
          unfold LM at F'
          dsimp only at hH' F'
          dsimp only
          clear C3 B3 hH3 hDm hKm dkn2 N2 F2 hDo hDl rel hT hV hoffU hrl
          obtain ⟨⟨uep', bU'⟩, bus', ⟨tep', bT'⟩, ⟨pos', tp', seed', tsd', sep', bp1', bp2', bst'⟩, bfix', ⟨okn', vkn', bkn', dkn'⟩⟩ := id B'
          obtain ⟨ct, ctc, ctt, bc⟩ := C'.hc
          have bcd := C'.hcd
          dsimp only at bT' bst' bc bcd bkn'
          have f1 := bfix' _ (List.mem_cons_of_mem _ mk1)
          have f4 := bfix' _ (List.mem_cons_of_mem _ mx4)
          have N1 := news_cons N' f1 (news_cons N' f4 (news_cons N' bc (news_cons N' bcd (news_cons N' bU' (news_cons N' bT' (news_cons N' hH' N'))))))
          have hul' : uses'.length = rows'.length := by have := rel_len rel'; rwa [List.length_map] at this
          k_steps
          unfold Stop
          with_reducible rename News _ _ _ _ => N5
          with_reducible rename Fr _ _ _ _ => F5
          have C5 := C'.mono (news' := (s1.heap.objs.size + 1, _) :: _) fun q hq => memN N5 (by repeat (first | exact hq | apply List.Mem.tail))
          k_dflt (refine' sorted_cs (A₀ := callerA) (base := ghostOf s1.heap [(211, 209)]) (outer := []) ?k1Lv ?k2Lv ?k3Lv ?k4Lv ?k5Lv ?k6Lv C5 ?_)
          case k1Lv => (try simp only [depth_deeper, depth_caller]); omega
          case k2Lv => k_asm
          case k3Lv => k_asm
          case k4Lv => k_asm
          case k5Lv => k_asm
          case k6Lv => k_asm
          k_whole
          intro D6 h6 tk6 e6 srt6 hp6 hs6 F6 N6 hD6
          k_steps
          unfold Stop
          with_reducible rename News _ _ _ _ => N7
          with_reducible rename Fr _ _ _ _ => F7
          refine LCp.SrcLP.ledger (its := (Mine1.refsOf uses').toArray) rfl F7 N7 (by k_mem) (by rw [sizeLine_eq, List.size_toArray, List.length_map]; omega) ?_
          intro gg
          refine up_rest (res := fun u => Value.str u.key u.kt) (Or.inr ⟨_, by k_mem, rfl, _, rfl⟩) (fun u hu => by
            have q := bus' u hu
            repeat (first | exact q | apply List.Mem.tail)) ?ev1Lv ?fin1Lv
          case ev1Lv =>
            intro u hu I1 oI1 C1 oC1 D1 ys1 m1 h1 tk1 E1 hC1 ha1 hb1 F1 N1
            k_steps
          case fin1Lv =>
            unfold LCg.FinE
            intro D8 h8 tk8 F8 N8 hO8
            k_steps
            unfold Stop
            with_reducible rename News _ _ _ _ => N9
            with_reducible rename Fr _ _ _ _ => F9
            have ekt : (uses'.map fun u => Value.str u.key u.kt) = txs (uses'.map fun u => (u.key, u.kt)) := by
              show _ = List.map (fun p : Str × Tok => Value.str p.1 p.2) (List.map _ _)
              rw [List.map_map]; rfl
            have ekk : (uses'.map fun u => (u.key, u.kt)).map (·.1) = uses'.map (·.key) := by rw [List.map_map]; rfl
            rw [ekt] at N9
            refine sorted_list F9 N9 ⟨_, (N9 _ (.head _)).1, rfl, _, rfl⟩ (by rw [List.length_map]; omega) (by rw [ekk]; exact uses_nodup rel' C'.hkn) ?_
            intro D10 h10 e10 srt10 hs10 F10 N10 hD10
            k_steps
            unfold Stop
            with_reducible rename News _ _ _ _ => N9
            with_reducible rename Fr _ _ _ _ => F9
            have hkeys : srt6.map (·.1) = srt10.map (·.1) := texts_uniq (hp6.trans (by
              have q1 := rel_keys rel'
              rw [List.map_map] at q1
              have q2 := hs10.1.map (fun p : Str × Tok => p.1)
              rw [ekk] at q2
              exact q1.symm.trans q2.symm)) hs6 hs10.2
            refine ne_texts ⟨_, (N9 (D6, _) (by k_mem)).1, rfl, _, rfl⟩ ⟨_, (N9 _ (.head _)).1, rfl, _, rfl⟩ hkeys (by first | k_units | units_room | exact Nat.le_of_ble_eq_true rfl) ?_
            k_steps
            unfold Stop
            with_reducible rename News _ _ _ _ => N11
            with_reducible rename Fr _ _ _ _ => F11
            have C11 := C'.mono (news' := (D10, _) :: _) fun q hq => memN N11 (by repeat (first | exact hq | apply List.Mem.tail))
            k_dflt (refine' lenc_cs (A₀ := callerA) (base := ghostOf s1.heap [(211, 209)]) (outer := []) ?k1Lv ?k2Lv ?k3Lv ?k4Lv ?k5Lv ?k6Lv C11 ?_)
            case k1Lv => (try simp only [depth_deeper, depth_caller]); omega
            case k2Lv => k_asm
            case k3Lv => k_asm
            case k4Lv => k_asm
            case k5Lv => k_asm
            case k6Lv => k_asm
            k_whole
            intro h12 tk12 t12 F12 N12
            k_steps
            unfold Stop
            with_reducible rename News _ _ _ _ => F12N
            refine len_led (n := rows'.length) F12N (by k_mem) (by rw [List.length_map]; exact hul') (by omega) ?_
            intro tlen' tklen'
            refine ne_int ?_
            simp only [bne_self_eq_false, ne_eq, not_true_eq_false, decide_false]
            k_steps
            unfold Stop
            with_reducible rename News _ _ _ _ => N13
            refine ke_ne_ints (ns := ts') (ms := ts') ⟨_, (N13 (hl, _) (by k_mem)).1, rfl, _, rfl⟩ ⟨_, (N13 (T, _) (by k_mem)).1, rfl, _, rfl⟩ hV' hT' (by first | k_units | units_room | exact Nat.le_of_ble_eq_true rfl) ?_
            rw [decide_eq_true rfl]
            k_steps
            with_reducible rename News _ _ _ _ => N14
            with_reducible rename Fr _ _ _ _ => F14
            k_dflt (refine' size_own (A₀ := callerA) (base := ghostOf s1.heap [(211, 209)]) (outer := []) ?k1Lv ?k2Lv ?k3Lv ?k4Lv ?k5Lv ?k6Lv ?k7Lv ?k8Lv ?k9Lv ?kaLv ?kbLv ?kcLv ?_)
            case k1Lv => (try simp only [depth_deeper, depth_caller]); omega
            case k2Lv => k_asm
            case k3Lv => k_asm
            case k4Lv => k_asm
            case k5Lv => k_asm
            case k6Lv => k_asm
            case k7Lv => k_mem
            case k8Lv => k_mem
            case k9Lv => omega
            case kaLv => omega
            case kbLv => omega
            case kcLv => omega
            k_whole
            intro h15 tk15 t15 F15 N15
            k_steps
            · exact absurd rfl (by assumption)
            · exact absurd rfl (by assumption)
            with_reducible rename News _ _ _ _ => N16
            with_reducible rename Fr _ _ _ _ => F16
            have C16 := C'.mono (news' := (D10, _) :: _) fun q hq => memN N16 (by repeat (first | exact hq | apply List.Mem.tail))
            have B16 := B'.mono (news' := (D10, _) :: _) fun q hq => memN N16 (by repeat (first | exact hq | apply List.Mem.tail))
            have hI16 := B16.hfix _ (.head _)
            have C17 := CS.off N16 C16 hI16 (fun _ _ e => by cases e) (fun _ _ e => by cases e) (fun e => by cases e)
            have B17 := LB.offA N16 B16 (fun _ _ e => by cases e) (fun _ e => by cases e) hIX
            have hH16 := memN N16 (q := (hl, W.listOf hv'.toArray hep')) (by k_mem)
            have hH17 := wo_mem (xs := [I]) hH16 (by simpa using news_nec N16 hH16 hI16 (by simp [itR]))
            exact unrEnd_wo F16 N16 hI16 ⟨U', uses', tv', hv', ts', n', rows', q1', q2', q3', q4', hep', rfl, C17, B17, hH17, hT', hV', hlen', rel', hrl', hU', hoffU'⟩
    case doneLr =>
      intro m n hj h tk Fd Nd
      have pt : PassTail := trivial
      have pl : PassLC := trivial
      repeat (with_reducible rename PyProof.V.FlatPairs _ _ _ => hjunk; clear hjunk)
      repeat (with_reducible rename Obj.IsDictOf _ _ _ => hjunk; clear hjunk)
      obtain ⟨U', uses', tv', hv', ts', n', rows', q1', q2', q3', q4', hep', J⟩ := hj
      obtain ⟨hm', C', B', hH', hT', hV', hlen', rel', hrl', hU', hoffU'⟩ := J
      subst hm'
      unfold LM at Fd
      dsimp only at hH' Fd
      dsimp only
      obtain ⟨mk1, mk2, mk3⟩ := mem3 (XI := XI) hfx
      obtain ⟨⟨uep', bU'⟩, bus', -, -, bfix', -⟩ := id B'
      have f1 := bfix' _ mk1
      have f3 := bfix' _ mk3
      have N1 := news_cons Nd f1 (news_cons Nd f3 (news_cons Nd bU' Nd))
      have hul' : uses'.length = rows'.length := by have := rel_len rel'; rwa [List.length_map] at this
      k_steps
      unfold Stop
      with_reducible rename News _ _ _ _ => N5
      with_reducible rename Fr _ _ _ _ => F5
      refine LCp.SrcLP.ledger (its := (Mine1.refsOf uses').toArray) rfl F5 Nd bU' (by rw [sizeLine_eq, List.size_toArray, List.length_map]; omega) ?_
      intro gg
      refine compRestP_inv (NN := (Mine1.refsOf uses').toArray.size) (J := fun i ys nl => ∃ rw nn, CS w [hl, T, st, sc] nl c cd dd mx md nn cap thr al false rw ∧ LB ⟨hl, T, st, sc, s1.heap.objs.size + 1 + 1, c, cd, dd, mx, md, cap, thr, al⟩ (XI ++ fx) nl U' uses' tv' ∧ (hl, W.listOf hv'.toArray hep') ∈ nl ∧
        rw.map (fun r => (r.key, r.val)) = rows'.map (fun r => (r.key, r.val)) ∧ (∀ r ∈ rw, r.lst ≠ U') ∧ IntsAre ys ((uses'.take i).map (·.val))) ?stepCLw ?doneCLw _ 0 [] n (by simp) ⟨rows', n', C', B', hH', rfl, hoffU', by simpa using IntsAre.nil⟩
      case stepCLw =>
        rintro i ys nl hi ⟨rws, nn, Ci, Bi, Hi, ekv, hofi, hys⟩ v hv
        obtain ⟨u, hu, rfl⟩ := item_refs hv
        have hum : u ∈ uses' := List.mem_of_getElem? hu
        refine ⟨u.tup, u.obj, _, _, _, rfl, Bi.hus u hum, rfl, rfl, fun I1 oI1 C1 oC1 D1 m2 h2 tk2 E2 hC hx hx2 F2 N2 off q => ?_⟩
        have g1 := Bi.hfix _ mk1
        obtain ⟨ct, ctc, ctt, bc⟩ := Ci.hc
        have bcd := Ci.hcd
        have N3 := news_cons N2 (.head _) (news_cons N2 (.tail _ (.head _)) (news_cons N2 (.tail _ (.tail _ (.head _))) (news_cons N2 (.tail _ (.tail _ (.tail _ g1))) (news_cons N2 (.tail _ (.tail _ (.tail _ bc))) (news_cons N2 (.tail _ (.tail _ (.tail _ bcd))) N2)))))
        k_steps
        unfold Stop
        obtain ⟨r, hr, hrk, hrv⟩ : ∃ r ∈ rws, r.key = u.key ∧ ∃ t, r.val = .int u.val t := by
          obtain ⟨r0, hr0, e1, e2⟩ := rel_at rel' (List.mem_map.mpr ⟨u, hum, rfl⟩)
          have hm : (r0.key, r0.val) ∈ rws.map fun r => (r.key, r.val) := by rw [ekv]; exact List.mem_map.mpr ⟨r0, hr0, rfl⟩
          obtain ⟨r, hr, e⟩ := List.mem_map.mp hm
          obtain ⟨v0, t0, ev0⟩ := C'.hval r0 hr0
          have e3 := congrArg Prod.snd e
          have e4 := congrArg Prod.fst e
          dsimp only [Use.pair] at e1 e2 e3 e4
          refine ⟨r, hr, e4.trans e1, t0, ?_⟩
          unfold rv at e2
          rw [ev0] at e2
          rw [e3, ev0]
          dsimp only at e2
          rw [e2]
        rw [← hrk]
        k_dflt (refine' getitem_cs (A₀ := callerA) (base := ghostOf s1.heap [(211, 209)]) (outer := []) (news := nl) ?k1Lw ?k2Lw ?k3Lw ?k4Lw ?k5Lw N2 (fun q hq => .tail _ (.tail _ (.tail _ hq))) Ci hr ?_)
        case k1Lw => (try simp only [depth_deeper, depth_caller]); omega
        case k2Lw => k_asm
        case k3Lw => k_asm
        case k4Lw => k_asm
        case k5Lw => k_asm
        k_whole
        intro h4 tk4 t4 nl4 F4 Na Nb C4 hfr had
        have hom := LCg.Off3.mem off
        have hrl := (Ci.hrows r hr).2
        have Nn := news_mono (news' := nl) N2 fun q hq => .tail _ (.tail _ (.tail _ hq))
        obtain ⟨uepi, bUi⟩ := Bi.hU
        obtain ⟨o1, o2, o3⟩ := hom _ bc
        obtain ⟨p1, p2, p3⟩ := hom _ hrl
        dsimp only at bUi o1 o2 o3 p1 p2 p3 bc
        have m1 := hfr _ bUi (news_nec Nn bUi bc (by simp)) (Ne.symm (hofi r hr))
        have m2 := hfr _ Hi hg3 (fun e => Ci.hoff r hr (by rw [← e]; simp))
        have Nz := news_cons Nb (wo_mem (.head _) (by simp [Ne.symm o1, Ne.symm p1])) (news_cons Nb (wo_mem (.tail _ (.head _)) (by simp [Ne.symm o2, Ne.symm p2])) (news_cons Nb (wo_mem (.tail _ (.tail _ (.head _))) (by simp [Ne.symm o3, Ne.symm p3])) Na))
        obtain ⟨t0, hrv⟩ := hrv
        have hok : FixOk ⟨hl, T, st, sc, s1.heap.objs.size + 1 + 1, c, cd, dd, mx, md, cap, thr, al⟩ (XI ++ fx) := ⟨fun q hq => (hcalm q hq).1, fun q hq => (hcalm q hq).2, hq1, hs1⟩
        have hUh : U' ≠ hl := fun e => hU' (by rw [e]; simp)
        refine LCg.CompEnd.intro F4 Nz nl4 (fun p hp => hp) (off3_of fun p hp => (had p hp).elim fun o ho => hom (p.1, o) ho) (Or.inr ⟨_, m1, rfl, _, rfl⟩) ⟨_, _, C4, LB.frame Nn Bi hok (Ci.keepU hofi) hUh Hi fun q hq a1 a2 a3 a4 a5 => hfr q hq a1 (a5 r hr), m2, (touch_kv ..).trans ekv, touch_lst hofi, ?_⟩
        rw [List.take_add_one, hu, hrv]
        simp only [Option.toList_some, List.map_append, List.map_cons, List.map_nil]
        exact hys.append (.cons _ _ .nil)
      case doneCLw =>
        rintro ys nl ⟨rws, nn, Ci, Bi, Hi, ekv, hofi, hys⟩
        unfold LCg.FinE
        intro D8 h8 tk8 F8 N8 hO8
        have g1 := Bi.hfix _ mk1
        have g3 := Bi.hfix _ mk3
        obtain ⟨uepi, bUi⟩ := Bi.hU
        have N9 := news_cons N8 (.head _) (news_cons N8 (.tail _ g1) (news_cons N8 (.tail _ g3) (news_cons N8 (.tail _ bUi) N8)))
        rw [List.size_toArray, List.length_map, List.take_length] at hys
        refine LCp.ListComp_P F8 (by with_unfolding_all rfl) (by decide) (by rfl) (by decide) (by rfl) (by rfl) (by decide) ?_
        k_steps
        unfold Stop
        with_reducible rename News _ _ _ _ => N10
        with_reducible rename Fr _ _ _ _ => F10
        refine LCp.SrcLP.ledger (its := (Mine1.refsOf uses').toArray) rfl F10 N10 (by k_mem) (by rw [sizeLine_eq, List.size_toArray, List.length_map]; omega) ?_
        intro gg2
        refine up_rest (res := fun u => Value.int u.val u.vt) (Or.inr ⟨_, by k_mem, rfl, _, rfl⟩) (fun u hu => by
          have q := Bi.hus u hu
          repeat (first | exact q | apply List.Mem.tail)) ?ev1Lw ?fin1Lw
        case ev1Lw =>
          intro u hu I1 oI1 C1 oC1 D1 ys1 m1 h1 tk1 E1 hC1 ha1 hb1 F1 N1
          k_steps
        case fin1Lw =>
          unfold LCg.FinE
          intro D11 h11 tk11 F11 N11 hO11
          k_steps
          unfold Stop
          with_reducible rename News _ _ _ _ => N12
          refine ke_eq_ints (ns := uses'.map (·.val)) (ms := uses'.map (·.val)) ⟨_, (N12 (D8, _) (by k_mem)).1, rfl, _, rfl⟩ ⟨_, (N12 _ (.head _)).1, rfl, _, rfl⟩ hys (ints_vals uses') (by first | k_units | units_room | exact Nat.le_of_ble_eq_true rfl) ?_
          rw [decide_eq_true rfl]
          k_steps
