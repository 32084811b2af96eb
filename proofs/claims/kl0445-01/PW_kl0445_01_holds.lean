import PyProof.Rows.All
import Wide.All
import OpenK.AllK
import Wide.FinOn
import PySem.Challenge.RW_kl0445_01
set_option Elab.async false

section
open PySem PySem.W PyProof.Rows
namespace Mine
set_option maxRecDepth 100000 in
set_option maxHeartbeats 8000000 in
open_top hd for PySem.Challenge.rw_kl0445_01
end Mine
end

section
open PySem PySem.W PySem.Spec PySem.Calls PyProof.Rows
namespace Mine

theorem bits_le {x : Int} {k : Nat} (h0 : 0 ≤ x) (h : x < 2 ^ k) : Builtin.Int.intBits x ≤ k := by
  unfold Builtin.Int.intBits
  split
  · exact Nat.zero_le _
  · rename_i hx
    have hx' : x.natAbs ≠ 0 := by
      intro e
      apply hx
      have : x = 0 := Int.natAbs_eq_zero.mp e
      simp [this]
    have h2 : x.natAbs < 2 ^ k := by
      have hc := kbt_cast k
      have : (x.natAbs : Int) < ((2 ^ k : Nat) : Int) := by
        rw [hc]
        omega
      exact Int.ofNat_lt.mp this
    have := (Nat.log2_lt hx').mpr h2
    omega

abbrev tup2 (x : Int) (t : Tok) (y : Int) (t' : Tok) : Obj := { cls := .type "tuple", data := .seq #[.int x t, .int y t'] }

end Mine
end

section
open PySem PySem.W PySem.Spec PySem.Calls PyProof.Rows
namespace Mine
set_option maxRecDepth 100000
set_option maxHeartbeats 8000000

/-- what is handed on behind a call that leaves the caller's own objects as they were -/
def Kept (news : List (Addr × Obj)) (R : Result → Shared → Prop) (r : Result) (s' : Shared) : Prop := (∀ p ∈ news, s'.heap.get? p.1 = some p.2) → R r s'

/-- no address stands in both -/
def Disj (a b : List (Addr × Obj)) : Prop := ∀ p ∈ a, ∀ q ∈ b, p.1 ≠ q.1

theorem disj_hide {h₀ h : Heap} {L : Addr} {act news : List (Addr × Obj)} (N : News h₀ L h (act ++ news)) (hd : Disj act news) : ∀ p ∈ news, (hideAll h (act.map (·.1))).get? p.1 = some p.2 := fun p hp =>
  hideAll_get _ (N p (List.mem_append_right _ hp)).1 fun q => by
    obtain ⟨r, hr, e⟩ := List.mem_map.mp q
    exact hd r hr p hp e

section
variable {prog : Program} {w : World} {A A₀ : Around} {s : Shared} {K : Frag} {L : Addr} {h₀ base : Heap} {m mg mb : Str → Option Value} {act news : List (Addr × Obj)} {p : Program} {loose : List Str} {mean : ExcName → Option Value}

theorem leave_kept {g : Heap} {R : Result → Shared → Prop} {v : Value} {s' : Shared} (hg : ∀ p ∈ news, g.get? p.1 = some p.2)
    (lv : ∀ v s', LeaveK h₀ L m g (Kept news R) v s' → Kept news R (.ok (.ret v)) s') (hl : LeaveK h₀ L m g (Kept news R) v s') : R (.ok (.ret v)) s' := by
  have h1 := lv _ _ hl
  obtain ⟨L', m', news', F', _, _⟩ := hl
  exact h1 fun p hp => F'.keep _ _ (hg p hp)

theorem callX_plainF {env : Env} {outer : List Env} {R : Result → Shared → Prop} {name qual : Str} {params : Arguments} {body : List Stmt} {scope : Scope} {cl : List (Str × Addr)} {dV kV doc pm cdv ct : Value} {an : Option Addr} {fo : Obj} {f : Addr} {args : Args} {binds : List (Str × Value)}
    (B : Below A₀ base outer h₀) (F : Fr h₀ L s.heap m) (N : News h₀ L s.heap (act ++ news)) (hdis : Disj act news) (hlim : h₀.NoLimit) (hA : A.frames = some (env :: outer)) (hf : env.frame = some L) (hke : env.scope.kind = .function)
    (ho : s.heap.get? f = some fo) (hd : fo.data = .func (fnX name qual params body scope cl dV kV doc pm an cdv ct)) (hcd : s.heap.CodeRec cdv qual) (hroom : A.depth < recursionLimit)
    (hbind : BindsTo s (fnX name qual params body scope cl dV kV doc pm an cdv ct) args binds) (hloc : ∀ y ∈ binds, scope.names.lookup y.1 = some .local)
    (h : ∀ g L' h₁, Fr h₀ L g m → Fr g L' h₁ (fun y => binds.reverse.lookup y) → News g L' h₁ act → Below A base (env :: outer) g → h₀.StaysIn g → (∀ p ∈ news, g.get? p.1 = some p.2) → (∀ p ∈ act, p.1 < L') →
      wpAny (model prog w) (A.deeper (envX qual scope L' f cdv cl)) (execs body (envX qual scope L' f cdv cl))
        (fun fl s' => LeaveK h₀ L m g (Kept news R) (match fl with | .ret v => v | _ => .none) s')
        (fun e s' => wpAny (model prog w) (A.deeper (envX qual scope L' f cdv cl)) (leaving (envX qual scope L' f cdv cl) e) (fun _ s'' => R (.error e) s'') (fun e' s'' => R (.error e') s'') s')
        { s with heap := h₁, toks := s.toks + binds.length })
    (hcell : ∀ x ∈ scope.names, x.2 ≠ .cell) (hco : scope.isCoroutine = false := by rfl) (hgen : scope.isGenerator = false := by rfl) (hk : scope.kind = .function := by rfl) : codeAny (model prog w) A (.call (.ref f) args) R s := by
  have NA : News h₀ L s.heap act := fun p hp => N p (List.mem_append_left _ hp)
  have hgk := disj_hide N hdis
  obtain ⟨FG, BG, st, lv⟩ := groundX (R := Kept news R) B F NA hA hf hke
  refine codeAny_call_def (fd := fnX name qual params body scope cl dV kV doc pm an cdv ct) (body := body) (binds := binds) hroom ho hd (hlim.keeps F.keep) hcd rfl hbind hcell hloc (fun h₁ hns hk₁ => ?_) hco hgen hk
  exact wpAny_mono (h _ s.heap.objs.size h₁ FG ⟨hns, fun b o e => hk₁ b o (of_hideAll _ e), Nat.le_of_eq (hideAll_size _ _)⟩
    (fun p hp => ⟨hk₁ _ _ (NA p hp).1, Nat.ne_of_lt (Heap.lt_size (NA p hp).1), hideAll_none _ (List.mem_map_of_mem hp)⟩) BG st hgk (fun p hp => Heap.lt_size (NA p hp).1)) (fun fl s' hl => leave_kept hgk lv hl) fun _ _ y => y

theorem callX_cellsF {env : Env} {outer : List Env} {R : Result → Shared → Prop} {name qual : Str} {params : Arguments} {body : List Stmt} {scope : Scope} {dV kV doc pm cdv ct : Value} {an : Option Addr} {fo : Obj} {f : Addr} {args : Args} {binds : List (Str × Value)}
    (B : Below A₀ base outer h₀) (F : Fr h₀ L s.heap m) (N : News h₀ L s.heap (act ++ news)) (hdis : Disj act news) (hlim : h₀.NoLimit) (hA : A.frames = some (env :: outer)) (hf : env.frame = some L) (hke : env.scope.kind = .function)
    (ho : s.heap.get? f = some fo) (hd : fo.data = .func (fnX name qual params body scope [] dV kV doc pm an cdv ct)) (hcd : s.heap.CodeRec cdv qual) (hroom : A.depth < recursionLimit)
    (hbind : BindsTo s (fnX name qual params body scope [] dV kV doc pm an cdv ct) args binds)
    (hkind : ∀ n, ∀ x ∈ binds, scope.names.lookup x.1 = some .local ∨ (scope.names.lookup x.1 = some .cell ∧ ((cellsFrom n scope.names []).lookup x.1).isSome = true))
    (hnd : ((cellsFrom 0 scope.names []).map (·.1)).Nodup)
    (h : ∀ g L' h₁ tk cells, Fr h₀ L g m → Fr g L' h₁ (bindL (envOfC qual scope L' f cdv).kindOf binds fun _ => none) → News g L' h₁ (cells ++ act) →
      CellsAre (bindC (envOfC qual scope L' f cdv).kindOf binds fun _ => none) (cellsFrom (L' + 1) scope.names []) cells → Below A base (env :: outer) g → h₀.StaysIn g → (∀ p ∈ news, g.get? p.1 = some p.2) → (∀ p ∈ act, p.1 < L') →
      wpAny (model prog w) (A.deeper (envOfC qual scope L' f cdv)) (execs body (envOfC qual scope L' f cdv))
        (fun fl s' => LeaveK h₀ L m g (Kept news R) (match fl with | .ret v => v | _ => .none) s')
        (fun e s' => wpAny (model prog w) (A.deeper (envOfC qual scope L' f cdv)) (leaving (envOfC qual scope L' f cdv) e) (fun _ s'' => R (.error e) s'') (fun e' s'' => R (.error e') s'') s')
        { s with heap := h₁, toks := tk })
    (hco : scope.isCoroutine = false := by rfl) (hgen : scope.isGenerator = false := by rfl) (hk : scope.kind = .function := by rfl) : codeAny (model prog w) A (.call (.ref f) args) R s := by
  have NA : News h₀ L s.heap act := fun p hp => N p (List.mem_append_left _ hp)
  have hgk := disj_hide N hdis
  obtain ⟨FG, BG, st, lv⟩ := groundX (R := Kept news R) B F NA hA hf hke
  refine codeAny_call_function hroom ho hd hco hgen rfl hcd (hbind _ _ _ _ ?_)
  refine wpAny_newFunctionEnv_cells hk (hkind _) fun env' he s' x => ?_
  subst he
  refine ⟨(hlim.keeps F.keep).keeps x.toInCall.keep, codeAny_func ?_⟩
  obtain ⟨h₁, tk, rfl, _⟩ := x.done
  have hk₁ := x.toInCall.keep
  obtain ⟨cells, NC, Y⟩ := Cl.news (h₀ := s.heap) (Nat.le_refl _) fun n c hm => ⟨x.cell n c (lookup_of_mem_nodup (cellsFrom_names scope.names 0 (s.heap.objs.size + 1) [] [] rfl ▸ hnd) hm), x.above n c hm⟩
  refine wpAny_mono (h _ s.heap.objs.size h₁ tk cells FG ⟨x.toInCall.ns, fun b o e => hk₁ b o (of_hideAll _ e), Nat.le_of_eq (hideAll_size _ _)⟩ (fun p hp => ?_) Y BG st hgk (fun p hp => Heap.lt_size (NA p hp).1)) (fun fl s' hl => leave_kept hgk lv hl) fun _ _ y => y
  rcases List.mem_append.mp hp with hp | hp
  · refine ⟨(NC p hp).1, (NC p hp).2.1, ?_⟩
    cases q : (hideAll s.heap (act.map (·.1))).get? p.1 with
    | none => rfl
    | some o => have := of_hideAll _ q; rw [(NC p hp).2.2] at this; cases this
  · exact ⟨hk₁ _ _ (NA p hp).1, Nat.ne_of_lt (Heap.lt_size (NA p hp).1), hideAll_none _ (List.mem_map_of_mem hp)⟩

theorem code_defF {env : Env} {outer : List Env} {R : Result → Shared → Prop} {name qual : Str} {params : Arguments} {body : List Stmt} {scope : Scope} {dV kV doc pm cdv ct oc : Value} {an od : Option Addr} {osl : Array (Option Value)} {f : Addr} {args : Args} {binds : List (Str × Value)}
    (B : Below A₀ base outer h₀) (F : Fr h₀ L s.heap m) (X₀ : K.In h₀) (N : News h₀ L s.heap (act ++ news)) (hdis : Disj act news) (T : Top p loose mean mg mb h₀) (hA : A.frames = some (env :: outer)) (hf : env.frame = some L) (hke : env.scope.kind = .function)
    (ho : K.lookup f = some ⟨oc, od, .func (fnOf name qual params body scope dV kV doc pm an cdv ct), osl⟩) (hcd : codeIn K cdv qual = true) (hroom : A.depth < recursionLimit)
    (hbind : BindsTo s (fnOf name qual params body scope dV kV doc pm an cdv ct) args binds) (hloc : ∀ y ∈ binds, scope.names.lookup y.1 = some .local)
    (h : ∀ g L' h₁, Fr h₀ L g m → Fr g L' h₁ (fun y => binds.reverse.lookup y) → News g L' h₁ act → Below A base (env :: outer) g → K.In g → Top p loose mean mg mb g → (∀ p ∈ news, g.get? p.1 = some p.2) → (∀ p ∈ act, p.1 < L') →
      wpAny (model prog w) (A.deeper (envOf qual scope L' f cdv)) (execs body (envOf qual scope L' f cdv))
        (fun fl s' => LeaveK h₀ L m g (Kept news R) (match fl with | .ret v => v | _ => .none) s')
        (fun e s' => wpAny (model prog w) (A.deeper (envOf qual scope L' f cdv)) (leaving (envOf qual scope L' f cdv) e) (fun _ s'' => R (.error e) s'') (fun e' s'' => R (.error e') s'') s')
        { s with heap := h₁, toks := s.toks + binds.length })
    (hco : scope.isCoroutine = false) (hgen : scope.isGenerator = false) (hk : scope.kind = .function)
    (hcell : ∀ x ∈ scope.names, x.2 ≠ .cell) : codeAny (model prog w) A (.call (.ref f) args) R s :=
  callX_plainF (cl := []) B F N hdis T.nolimit hA hf hke ((X₀.keeps F.keep) _ _ ho) rfl (codeRec_of (X₀.keeps F.keep) hcd) hroom hbind hloc (fun g L' h₁ FG F' N' B' st y l => h g L' h₁ FG F' N' B' (X₀.keeps st) (T.keeps st) y l) hcell hco hgen hk

theorem code_defCF {env : Env} {outer : List Env} {R : Result → Shared → Prop} {name qual : Str} {params : Arguments} {body : List Stmt} {scope : Scope} {dV kV doc pm cdv ct oc : Value} {an od : Option Addr} {osl : Array (Option Value)} {f : Addr} {args : Args} {binds : List (Str × Value)}
    (B : Below A₀ base outer h₀) (F : Fr h₀ L s.heap m) (X₀ : K.In h₀) (N : News h₀ L s.heap (act ++ news)) (hdis : Disj act news) (T : Top p loose mean mg mb h₀) (hA : A.frames = some (env :: outer)) (hf : env.frame = some L) (hke : env.scope.kind = .function)
    (ho : K.lookup f = some ⟨oc, od, .func (fnOf name qual params body scope dV kV doc pm an cdv ct), osl⟩) (hcd : codeIn K cdv qual = true) (hroom : A.depth < recursionLimit)
    (hbind : BindsTo s (fnOf name qual params body scope dV kV doc pm an cdv ct) args binds) (hkind : (binds.all fun y => scope.names.lookup y.1 == some .local || scope.names.lookup y.1 == some .cell) = true)
    (hnd : ((cellsFrom 0 scope.names []).map (·.1)).Nodup)
    (h : ∀ g L' h₁ tk cells, Fr h₀ L g m → Fr g L' h₁ (bindL (envOfC qual scope L' f cdv).kindOf binds fun _ => none) → News g L' h₁ (cells ++ act) →
      CellsAre (bindC (envOfC qual scope L' f cdv).kindOf binds fun _ => none) (cellsFrom (L' + 1) scope.names []) cells → Below A base (env :: outer) g → K.In g → Top p loose mean mg mb g → (∀ p ∈ news, g.get? p.1 = some p.2) → (∀ p ∈ act, p.1 < L') →
      wpAny (model prog w) (A.deeper (envOfC qual scope L' f cdv)) (execs body (envOfC qual scope L' f cdv))
        (fun fl s' => LeaveK h₀ L m g (Kept news R) (match fl with | .ret v => v | _ => .none) s')
        (fun e s' => wpAny (model prog w) (A.deeper (envOfC qual scope L' f cdv)) (leaving (envOfC qual scope L' f cdv) e) (fun _ s'' => R (.error e) s'') (fun e' s'' => R (.error e') s'') s')
        { s with heap := h₁, toks := tk })
    (hco : scope.isCoroutine = false) (hgen : scope.isGenerator = false) (hk : scope.kind = .function) : codeAny (model prog w) A (.call (.ref f) args) R s :=
  callX_cellsF B F N hdis T.nolimit hA hf hke ((X₀.keeps F.keep) _ _ ho) rfl (codeRec_of (X₀.keeps F.keep) hcd) hroom hbind (kindsX hkind) hnd (fun g L' h₁ tk cells FG F' N' Y B' st y l => h g L' h₁ tk cells FG F' N' Y B' (X₀.keeps st) (T.keeps st) y l) hco hgen hk
end

theorem news_join {h₀ h h' : Heap} {L : Addr} {act news news' : List (Addr × Obj)} (N : News h₀ L h (act ++ news)) (N' : News h₀ L h' news') (k : ∀ p ∈ news, h'.get? p.1 = some p.2) : News h₀ L h' (news' ++ news) := by
  intro p hp
  rcases List.mem_append.mp hp with hp | hp
  · exact N' p hp
  · exact ⟨k p hp, (N p (List.mem_append_right _ hp)).2⟩
theorem disj_of_kept {g h' : Heap} {L' : Addr} {news news' : List (Addr × Obj)} (N' : News g L' h' news') (hg : ∀ p ∈ news, g.get? p.1 = some p.2) : Disj news' news := by
  intro p hp q hq e
  have h1 := hg q hq
  have h2 := (N' p hp).2.2
  rw [e, h1] at h2
  cases h2

/-- what a call of the def at f gives, upon the ledger act ++ rest: rest stays -/
def Gives (w : World) (f : Addr) (vs : List Value) (sz : Nat) (pre : List (Addr × Obj) → List (Addr × Obj) → Prop) (post : List (Addr × Obj) → List (Addr × Obj) → Value → List (Addr × Obj) → Prop) : Prop :=
  ∀ (p : Program) (loose : List Str) (mean : ExcName → Option Value) (mg mb : Str → Option Value) (dp un : Nat) (gd : Option (List Code)) (cn : Str) (cs : Scope) (a : Addr) (ccd : Value) (cl : List (Str × Addr)) (outer : List Env) (A₀ : Around) (base h₀ : Heap) (L : Addr) (m : Str → Option Value) (act rest : List (Addr × Obj)) (s : Shared) (Q E : Value → Shared → Prop),
    Below A₀ base outer h₀ → Fr h₀ L s.heap m → (hd.heap_39 w.params).In h₀ → News h₀ L s.heap (act ++ rest) → Disj act rest → Top p loose mean mg mb h₀ → cs.kind = .function → pre act rest →
    dp + sz < recursionLimit → un + 8 * sz < cLine →
    (∀ v act' h' tk', Fr h₀ L h' m → News h₀ L h' (act' ++ rest) → Disj act' rest → post act rest v act' → Q v { s with heap := h', toks := tk' }) →
    wpAny (model PySem.Challenge.rw_kl0445_01.row.prog w) (ktrTop dp un gd cn cs L a ccd cl outer) (call (.ref f) vs) Q E s

theorem Gives.use {w : World} {f : Addr} {vs : List Value} {sz : Nat} {pre : List (Addr × Obj) → List (Addr × Obj) → Prop} {post : List (Addr × Obj) → List (Addr × Obj) → Value → List (Addr × Obj) → Prop} (C : Gives w f vs sz pre post)
    {p : Program} {loose : List Str} {mean : ExcName → Option Value} {mg mb : Str → Option Value} {dp un : Nat} {gd : Option (List Code)} {cn : Str} {cs : Scope} {a : Addr} {ccd : Value} {cl : List (Str × Addr)} {outer : List Env} {A₀ : Around} {base h₀ : Heap} {L : Addr} {m : Str → Option Value} {act rest : List (Addr × Obj)} {s : Shared} {Q E : Value → Shared → Prop}
    (B : Below A₀ base outer h₀) (F : Fr h₀ L s.heap m) (X : (hd.heap_39 w.params).In h₀) (N : News h₀ L s.heap (act ++ rest)) (hdis : Disj act rest) (T : Top p loose mean mg mb h₀) (hk : cs.kind = .function) (hp : pre act rest)
    (hd : dp + sz < recursionLimit) (hu : un + 8 * sz < cLine)
    (ret : ∀ v act' h' tk', Fr h₀ L h' m → News h₀ L h' (act' ++ rest) → Disj act' rest → post act rest v act' → Q v { s with heap := h', toks := tk' }) :
    wpAny (model PySem.Challenge.rw_kl0445_01.row.prog w) (ktrTop dp un gd cn cs L a ccd cl outer) (call (.ref f) vs) Q E s := C _ _ _ _ _ _ _ _ _ _ _ _ _ _ _ _ _ _ _ _ _ _ _ _ B F X N hdis T hk hp hd hu ret

def AllNe (d : Nat) : List (Addr × Obj) → Prop
  | [] => True
  | p :: r => @Ne Nat p.1 d ∧ AllNe d r
theorem allNe_of {d : Addr} {l : List (Addr × Obj)} (h : ∀ p ∈ l, p.1 ≠ d) : AllNe d l := by
  induction l with
  | nil => exact trivial
  | cons p r ih => exact ⟨h p (.head _), ih fun q hq => h q (.tail _ hq)⟩
theorem AllNe.out {d : Addr} {l : List (Addr × Obj)} (h : AllNe d l) : ∀ p ∈ l, p.1 ≠ d := by
  induction l with
  | nil => intro q hq; cases hq
  | cons p r ih =>
    intro q hq
    cases hq with
    | head => exact h.1
    | tail _ hq => exact ih h.2 q hq

theorem disj_nil {b : List (Addr × Obj)} : Disj [] b := fun _ h => nomatch h
end Mine
end

section
open PySem PySem.W PySem.Spec PySem.Calls PyProof.Rows
namespace Mine
set_option maxRecDepth 100000
set_option maxHeartbeats 8000000

/-- a tuple of two ints, made anew -/
def PairOut (x y : Int) (_ _ : List (Addr × Obj)) (v : Value) (act' : List (Addr × Obj)) : Prop :=
  ∃ d t t', v = .ref d ∧ act' = [(d, tup2 x t y t')]

theorem c_div2n1n {w : World} {x b n : Int} {t1 t2 t3 : Tok} (h0 : 0 ≤ x) (h1 : x < 65536) (hb : 0 < b) (hb1 : b < 1024) (hn : 0 ≤ n) (hn1 : n ≤ 16) :
    Gives w 21 [.int x t1, .int b t2, .int n t3] 1 (fun act _ => act = []) (PairOut (Int.fdiv x b) (Int.fmod x b)) := by
  w_on
  unfold Gives
  k_fill
  intro p loose mean mg mb dp un gd cn cs a ccd cl outer A₀ base h₀ L m act rest s Q E B F X N hdis T hk hp hd hu hret
  have hb2 : b ≠ 0 := by omega
  have hbits : (Builtin.Int.intBits x : Int) - n ≤ 4000 := by
    have := bits_le (k := 16) h0 (by omega)
    omega
  subst hp
  refine wpAny_call ?_
  k_dflt (refine' code_defF ?k1u1 ?k2u1 ?k3u1 ?k4u1 ?kDisu1 ?k5u1 ?kAu1 ?kFu1 ?kKu1 ?k6u1 ?k7u1 ?k8u1 ?k9u1 ?kBu1 ?_ ?c2u1 ?c3u1 ?c4u1 ?c5u1; (case kAu1 => exact rfl); (case kFu1 => exact rfl); (case kKu1 => assumption); (case k1u1 => k_asm); (case k2u1 => k_asm); (case k3u1 => k_asm); (case k4u1 => k_asm); (case kDisu1 => k_asm); (case k5u1 => k_asm); (case k6u1 => k_is); (case k7u1 => k_is); (case k8u1 => ktr_room); (case k9u1 => exact BindsTo.of_eq rfl); (case c5u1 => decide); (case kBu1 => exact locs rfl); (case c2u1 => exact rfl); (case c3u1 => exact rfl); (case c4u1 => exact rfl); k_whole; intro g' L' h' FG' F' N' B' X' T' hg l1; (try k_lt l1); (try dsimp only); (try k_lift B'); (try k_fold))
  k_steps
  all_goals exact fun hN => hret _ _ _ _ (by k_asm) (news_join N (by assumption) hN) (disj_of_kept (by assumption) hg) ⟨_, _, _, rfl, rfl⟩
end Mine
end

section
open PySem PySem.W PySem.Spec PySem.Calls PyProof.Rows
namespace Mine

/-- the figures of x, k of them, each of n bits, the least first -/
def digs (n : Nat) : Nat → Int → List Int
  | 0, _ => []
  | k + 1, x => x % 2 ^ n :: digs n k (x / 2 ^ n)

theorem digs_length (n k : Nat) (x : Int) : (digs n k x).length = k := by
  induction k generalizing x with
  | zero => rfl
  | succ k ih => simp [digs, ih]

theorem two_pos (k : Nat) : (0 : Int) < 2 ^ k := kbt_pos k

theorem digs_add (n a b : Nat) (x : Int) : digs n (a + b) x = digs n a x ++ digs n b (x / 2 ^ (n * a)) := by
  induction a generalizing x with
  | zero => simp [digs]
  | succ a ih =>
    rw [show a + 1 + b = (a + b) + 1 by omega]
    simp only [digs, List.cons_append]
    rw [ih, Int.ediv_ediv_of_nonneg (Int.le_of_lt (two_pos n)), ← Int.pow_add, Nat.mul_succ, Nat.add_comm n]

theorem mod_mod_pow (x : Int) (a b : Nat) : x % 2 ^ (a + b) % 2 ^ a = x % 2 ^ a := by
  apply Int.emod_emod_of_dvd
  rw [Int.pow_add]
  exact Int.dvd_mul_right _ _

theorem mod_div_pow (x : Int) (a b : Nat) : x % 2 ^ (a + b) / 2 ^ a = x / 2 ^ a % 2 ^ b := by
  have h1 := Int.emod_def x (2 ^ (a + b))
  have hp := two_pos a
  rw [h1, Int.pow_add, Int.mul_assoc, Int.sub_eq_add_neg, ← Int.mul_neg, Int.add_mul_ediv_left _ _ (by omega), ← Int.sub_eq_add_neg]
  rw [Int.emod_def (x / 2 ^ a) (2 ^ b), Int.ediv_ediv_of_nonneg (by omega)]

theorem digs_mod (n a : Nat) (x : Int) : digs n a (x % 2 ^ (n * a)) = digs n a x := by
  induction a generalizing x with
  | zero => rfl
  | succ a ih =>
    simp only [digs]
    rw [Nat.mul_succ, Nat.add_comm, mod_mod_pow, mod_div_pow, ih]

theorem xor_low {x : Int} (k : Nat) (h : 0 ≤ x) : Builtin.bitXor x (x.fdiv (2 ^ k) * 2 ^ k) = x % 2 ^ k := by
  have hp := two_pos k
  rw [Int.fdiv_eq_ediv_of_nonneg _ (by omega)]
  have hq : 0 ≤ x / 2 ^ k := Int.ediv_nonneg h (by omega)
  have hy : 0 ≤ x / 2 ^ k * 2 ^ k := Int.mul_nonneg hq (by omega)
  rw [bitXor_and, bitAnd_pp h hy]
  have e1 : ((x.toNat : Nat) : Int) = x := Int.toNat_of_nonneg h
  have e2 : (x / 2 ^ k * 2 ^ k).toNat = x.toNat / 2 ^ k * 2 ^ k := by
    have : x / 2 ^ k * 2 ^ k = ((x.toNat / 2 ^ k * 2 ^ k : Nat) : Int) := by
      rw [Int.natCast_mul, Int.natCast_ediv, e1, kbt_cast]
    rw [this, Int.toNat_natCast]
  have e3 : x.toNat &&& (x.toNat / 2 ^ k * 2 ^ k) = x.toNat / 2 ^ k * 2 ^ k := by
    apply Nat.eq_of_testBit_eq
    intro i
    rw [Nat.testBit_and, Nat.testBit_mul_two_pow, Nat.testBit_div_two_pow]
    by_cases hi : k ≤ i
    · simp [hi, Nat.sub_add_cancel hi]
    · simp [hi]
  rw [e2, e3, Int.natCast_mul, Int.natCast_ediv, e1, kbt_cast]
  have := Int.emod_def x (2 ^ k)
  rw [this, Int.mul_comm (2 ^ k)]
  omega

/-- ds laid over ns from lo on -/
def fill (ns : List Int) (lo : Nat) (ds : List Int) : List Int := ns.take lo ++ ds ++ ns.drop (lo + ds.length)

theorem fill_length {ns ds : List Int} {lo : Nat} (h : lo + ds.length ≤ ns.length) : (fill ns lo ds).length = ns.length := by
  simp [fill]; omega

theorem fill_one {ns : List Int} {lo : Nat} {x : Int} (h : lo < ns.length) : ns.set lo x = fill ns lo [x] := by
  unfold fill
  rw [List.set_eq_take_append_cons_drop, if_pos h]
  simp

theorem fill_fill {ns d1 d2 : List Int} {lo : Nat} (h : lo + d1.length + d2.length ≤ ns.length) : fill (fill ns lo d1) (lo + d1.length) d2 = fill ns lo (d1 ++ d2) := by
  unfold fill
  have e1 : (ns.take lo ++ d1).length = lo + d1.length := by simp; omega
  rw [List.take_append_of_le_length (by omega), List.take_of_length_le (by omega)]
  rw [List.drop_append, List.drop_of_length_le (by omega), e1, List.nil_append, List.drop_drop, List.length_append, List.append_assoc _ d1 d2]
  congr 2
  omega

/-- what figures of n bits tell -/
def dval (n : Nat) : List Int → Int
  | [] => 0
  | d :: r => d + dval n r * 2 ^ n

theorem dval_append (n : Nat) (a b : List Int) : dval n (a ++ b) = dval n b * 2 ^ (n * a.length) + dval n a := by
  induction a with
  | nil => simp [dval]
  | cons d r ih =>
    simp only [List.cons_append, dval, ih, List.length_cons]
    rw [Nat.mul_succ, Int.pow_add, Int.add_mul, Int.mul_assoc]
    omega

theorem dval_bounds {n : Nat} : ∀ {ds : List Int}, (∀ d ∈ ds, 0 ≤ d ∧ d < 2 ^ n) → 0 ≤ dval n ds ∧ dval n ds < 2 ^ (n * ds.length)
  | [], _ => by simp [dval]
  | d :: r, h => by
    have h1 := h d (List.mem_cons_self ..)
    have h2 := dval_bounds (n := n) (ds := r) fun e he => h e (List.mem_cons_of_mem _ he)
    simp only [dval, List.length_cons]
    have hp := two_pos n
    rw [Nat.mul_succ, Int.pow_add]
    have h3 : 0 ≤ dval n r * 2 ^ n := Int.mul_nonneg h2.1 (by omega)
    have h4 : (dval n r + 1) * 2 ^ n ≤ 2 ^ (n * r.length) * 2 ^ n := Int.mul_le_mul_of_nonneg_right (by omega) (by omega)
    rw [Int.add_mul] at h4
    omega
end Mine
end

section
open PySem PySem.W PySem.Spec PySem.Calls PyProof.Rows
namespace Mine
set_option maxRecDepth 100000
set_option maxHeartbeats 8000000

/-- the ledger within _int2digits, once its own def is made -/
abbrev shpI (f : Addr) (fo : Obj) (D : Addr) (vs : List Value) (k : Nat) (l0 : Addr) (o0 : Obj) (c1 : Addr) (o1 : Obj) (c2 : Addr) (o2 : Obj) (c3 : Addr) (o3 : Obj) (tb : Obj) (c' : Addr) (oc : Obj) : List (Addr × Obj) :=
  [(f, fo), (c', oc), (D, listOf vs.toArray k), (l0, o0), (c1, o1), (c2, o2), (c3, o3), (30, tb)]

/-- inner(x, lo, hi), hi - lo = len -/
def InnerI (w : World) (n : Nat) (f : Addr) (fo : Obj) (D : Addr) (l0 : Addr) (o0 : Obj) (c1 : Addr) (o1 : Obj) (c2 : Addr) (o2 : Obj) (c3 : Addr) (o3 : Obj) (tb : Obj) (c' : Addr) (oc : Obj) (len : Nat) : Prop :=
  ∀ (p : Program) (loose : List Str) (mean : ExcName → Option Value) (mg mb : Str → Option Value) (dp un : Nat) (gd : Option (List Code)) (cn : Str) (cs : Scope) (a : Addr) (ccd : Value) (cl : List (Str × Addr)) (outer : List Env) (A₀ : Around) (base h₀ : Heap) (L : Addr) (m : Str → Option Value) (s : Shared) (Q E : Value → Shared → Prop)
    (x : Int) (lo : Nat) (t1 t2 t3 : Tok) (vs : List Value) (ns : List Int) (k : Nat),
    Below A₀ base outer h₀ → Fr h₀ L s.heap m → (hd.heap_39 w.params).In h₀ → News h₀ L s.heap (shpI f fo D vs k l0 o0 c1 o1 c2 o2 c3 o3 tb c' oc) → Top p loose mean mg mb h₀ → cs.kind = .function →
    IntsAre vs ns → 0 < len → lo + len ≤ ns.length → ns.length ≤ 16 → 0 ≤ x → x < 65536 → x < 2 ^ (n * len) →
    dp + len < recursionLimit → un + 8 * len < cLine →
    (∀ vs' k' h' tk', Fr h₀ L h' m → News h₀ L h' (shpI f fo D vs' k' l0 o0 c1 o1 c2 o2 c3 o3 tb c' oc) → IntsAre vs' (fill ns lo (digs n len x)) → Q .none { s with heap := h', toks := tk' }) →
    wpAny (model PySem.Challenge.rw_kl0445_01.row.prog w) (ktrTop dp un gd cn cs L a ccd cl outer) (call (.ref f) [.int x t1, .int (lo : Int) t2, .int ((lo : Int) + (len : Int)) t3]) Q E s

theorem innerI_rec {w : World} {n : Nat} {f : Addr} {fo : Obj} {D : Addr} {l0 : Addr} {o0 : Obj} {c1 : Addr} {o1 : Obj} {c2 : Addr} {o2 : Obj} {c3 : Addr} {o3 : Obj} {tb : Obj} {c' : Addr} {oc : Obj}
    (step : ∀ len, (∀ len' < len, InnerI w n f fo D l0 o0 c1 o1 c2 o2 c3 o3 tb c' oc len') → InnerI w n f fo D l0 o0 c1 o1 c2 o2 c3 o3 tb c' oc len) : ∀ len, InnerI w n f fo D l0 o0 c1 o1 c2 o2 c3 o3 tb c' oc len := fun len => by
  induction len using Nat.strongRecOn with
  | ind len ih => exact step len ih

theorem innerI_use {w : World} {n : Nat} {f : Addr} {fo : Obj} {D : Addr} {l0 : Addr} {o0 : Obj} {c1 : Addr} {o1 : Obj} {c2 : Addr} {o2 : Obj} {c3 : Addr} {o3 : Obj} {tb : Obj} {c' : Addr} {oc : Obj}
    {p : Program} {loose : List Str} {mean : ExcName → Option Value} {mg mb : Str → Option Value} {dp un : Nat} {gd : Option (List Code)} {cn : Str} {cs : Scope} {a : Addr} {ccd : Value} {cl : List (Str × Addr)} {outer : List Env} {A₀ : Around} {base h₀ : Heap} {L : Addr} {m : Str → Option Value} {s : Shared} {Q E : Value → Shared → Prop}
    {x y z : Int} {lo len : Nat} {t1 t2 t3 : Tok} {vs : List Value} {ns : List Int} {k : Nat}
    (C : InnerI w n f fo D l0 o0 c1 o1 c2 o2 c3 o3 tb c' oc len)
    (B : Below A₀ base outer h₀) (F : Fr h₀ L s.heap m) (X : (hd.heap_39 w.params).In h₀) (N : News h₀ L s.heap (shpI f fo D vs k l0 o0 c1 o1 c2 o2 c3 o3 tb c' oc)) (T : Top p loose mean mg mb h₀) (hk : cs.kind = .function)
    (hi : IntsAre vs ns) (h0 : 0 < len) (h1 : lo + len ≤ ns.length) (h2 : ns.length ≤ 16) (h3 : 0 ≤ x) (h4 : x < 65536) (h5 : x < 2 ^ (n * len)) (hd : dp + len < recursionLimit) (hu : un + 8 * len < cLine) (ey : y = (lo : Int)) (ez : z = (lo : Int) + (len : Int))
    (ret : ∀ vs' k' h' tk', Fr h₀ L h' m → News h₀ L h' (shpI f fo D vs' k' l0 o0 c1 o1 c2 o2 c3 o3 tb c' oc) → IntsAre vs' (fill ns lo (digs n len x)) → Q .none { s with heap := h', toks := tk' }) :
    wpAny (model PySem.Challenge.rw_kl0445_01.row.prog w) (ktrTop dp un gd cn cs L a ccd cl outer) (call (.ref f) [.int x t1, .int y t2, .int z t3]) Q E s := by
  subst ey ez
  exact C _ _ _ _ _ _ _ _ _ _ _ _ _ _ _ _ _ _ _ _ _ _ _ _ _ _ _ _ _ _ B F X N T hk hi h0 h1 h2 h3 h4 h5 hd hu ret

section
variable {h₀ h : Heap} {L : Addr} {f c d l c1 c2 c3 t : Addr × Obj}
theorem news_hit8 (N : News h₀ L h [f, d, l, c1, c2, c3, t, c]) : News h₀ L h [f, c, d, l, c1, c2, c3, t] := fun p hp => N p (by
  simp only [List.mem_cons, List.not_mem_nil, or_false] at hp ⊢
  rcases hp with h | h | h | h | h | h | h | h <;> simp [h])
theorem news_end8 (N : News h₀ L h [f, c, d, l, c1, c2, c3, t]) : News h₀ L h [d, t, c] := fun p hp => N p (by
  simp only [List.mem_cons, List.not_mem_nil, or_false] at hp ⊢
  rcases hp with h | h | h <;> simp [h])
end

/-- the table of a maker's own defs: empty, or with the one code made -/
def TabFull (P : Addr) (line col : Nat) (qual : Str) (T : List (Addr × Obj)) : Prop :=
  ∃ (c : Nat) (oc : Obj) (vs : Array Value) (t : Tok), T = [(P, tabObj #[rawInt line, rawInt col, .ref c]), (c, oc)] ∧ oc.data = .fields vs ∧ vs[1]? = some (.str qual t) ∧ @Ne Nat P c
def TabOk (P : Addr) (line col : Nat) (qual : Str) (T : List (Addr × Obj)) : Prop :=
  T = [(P, tabObj #[])] ∨ TabFull P line col qual T
theorem tabFull_ne {P P' : Addr} {line col : Nat} {qual : Str} (h : TabFull P line col qual [(P', tabObj #[])]) : False := by
  obtain ⟨c, oc, vs, t, e, _⟩ := h
  cases e

theorem rep_flat (m : Nat) (x : Int) : (List.replicate m [x]).flatten = List.replicate m x := by
  induction m with
  | zero => rfl
  | succ m ih => rw [List.replicate_succ, List.flatten_cons, ih, List.replicate_succ]; rfl

theorem fill_all (m n : Nat) (x : Int) : fill (List.replicate m (0 : Int)) 0 (digs n m x) = digs n m x := by
  simp [fill, digs_length]
end Mine
end

section
open PySem PySem.W PySem.Spec PySem.Calls PyProof.Rows
namespace Mine
set_option maxRecDepth 100000
set_option maxHeartbeats 8000000

theorem cnt_bounds {b : Nat} {n : Int} (hb : b ≤ 16) (hn : 0 < n) : 0 ≤ ((b : Int) + n - 1).fdiv n ∧ ((b : Int) + n - 1).fdiv n ≤ 16 ∧ (0 < b → 1 ≤ ((b : Int) + n - 1).fdiv n) := by
  rw [Int.fdiv_eq_ediv_of_nonneg _ (by omega)]
  refine ⟨Int.ediv_nonneg (by omega) (by omega), ?_, fun h => ?_⟩
  · have : ((b : Int) + n - 1) / n < 17 := Int.ediv_lt_of_lt_mul hn (by omega)
    omega
  · exact Int.le_ediv_of_mul_le hn (by omega)

theorem mid_is (lo len : Nat) : ((lo : Int) + ((lo : Int) + (len : Int))).fdiv (2 ^ Int.toNat 1) = (lo : Int) + ((len / 2 : Nat) : Int) := by
  rw [show ((2 : Int) ^ Int.toNat 1) = 2 from by decide, Int.fdiv_eq_ediv_of_nonneg _ (by omega)]
  omega

theorem shift_is {lo len n : Nat} : (((lo : Int) + ((lo : Int) + (len : Int))).fdiv (2 ^ Int.toNat 1) - (lo : Int)) * (n : Int) = ((n * (len / 2) : Nat) : Int) := by
  rw [mid_is, Int.natCast_mul, Int.mul_comm (n : Int)]
  congr 1
  omega

theorem up_le {x : Int} {k : Nat} (h : 0 ≤ x) : 0 ≤ x.fdiv (2 ^ k) ∧ x.fdiv (2 ^ k) ≤ x := by
  have hp := two_pos k
  rw [Int.fdiv_eq_ediv_of_nonneg _ (by omega)]
  exact ⟨Int.ediv_nonneg h (by omega), Int.ediv_le_self _ h⟩

theorem digs_one {n : Nat} {x : Int} (h : 0 ≤ x) (h1 : x < 2 ^ n) : digs n 1 x = [x] := by
  simp only [digs]
  rw [Int.emod_eq_of_lt h h1]

theorem mod_le {x : Int} {k : Nat} (h : 0 ≤ x) : x % 2 ^ k ≤ x := by
  have h1 := Int.emod_def x (2 ^ k)
  have h2 : 0 ≤ 2 ^ k * (x / 2 ^ k) := Int.mul_nonneg (by have := two_pos k; omega) (Int.ediv_nonneg h (by have := two_pos k; omega))
  omega

theorem up_lt {x : Int} {a b : Nat} (h : 0 ≤ x) (h1 : x < 2 ^ (a + b)) : x.fdiv (2 ^ a) < 2 ^ b := by
  have hp := two_pos a
  rw [Int.fdiv_eq_ediv_of_nonneg _ (by omega)]
  rw [Int.pow_add, Int.mul_comm] at h1
  exact Int.ediv_lt_of_lt_mul hp h1

theorem bits_pos {x : Int} (_h : 0 ≤ x) (hx : x ≠ 0) : 0 < Builtin.Int.intBits x := by
  unfold Builtin.Int.intBits
  rw [if_neg (by simpa using hx)]
  omega
theorem bits_zero : Builtin.Int.intBits 0 = 0 := by decide
theorem allNe2 {d : Nat} {p q : Addr × Obj} (h1 : @Ne Nat p.1 d) (h2 : @Ne Nat q.1 d) : AllNe d [p, q] := ⟨h1, h2, trivial⟩
theorem allNe1 {d : Nat} {p : Addr × Obj} (h1 : @Ne Nat p.1 d) : AllNe d [p] := ⟨h1, trivial⟩

theorem digs_zero (n m : Nat) : digs n m 0 = List.replicate m 0 := by
  induction m with
  | zero => rfl
  | succ m ih => simp [digs, ih, List.replicate_succ]

/-- how many figures of n bits x has -/
def cnt (n : Nat) (x : Int) : Nat := (((Builtin.Int.intBits x : Int) + (n : Int) - 1).fdiv (n : Int)).toNat

theorem lt_bits {x : Int} (h : 0 ≤ x) : x < 2 ^ Builtin.Int.intBits x := by
  unfold Builtin.Int.intBits
  split
  · rename_i hx
    simp at hx
    subst hx
    decide
  · have h1 := @Nat.lt_log2_self x.natAbs
    have h2 := kbt_cast (x.natAbs.log2 + 1)
    rw [← h2]
    omega

theorem cnt_enough {x : Int} {n : Nat} (h : 0 ≤ x) (hn : 0 < n) : x < 2 ^ (n * cnt n x) := by
  refine Int.lt_of_lt_of_le (lt_bits h) ?_
  rw [← kbt_cast, ← kbt_cast]
  refine Int.ofNat_le.mpr (Nat.pow_le_pow_right (by decide) ?_)
  unfold cnt
  rw [Int.fdiv_eq_ediv_of_nonneg _ (by omega)]
  have e : (((Builtin.Int.intBits x : Int) + (n : Int) - 1) / (n : Int)) = (((Builtin.Int.intBits x + (n - 1)) / n : Nat) : Int) := by
    rw [Int.natCast_ediv]
    congr 1
    omega
  rw [e, Int.toNat_natCast]
  have h1 := Nat.div_add_mod (Builtin.Int.intBits x + (n - 1)) n
  have h2 := Nat.mod_lt (Builtin.Int.intBits x + (n - 1)) hn
  omega

/-- figures, laid in a new list; the table stays as it must -/
def DigsOut (n : Nat) (x : Int) (act _ : List (Addr × Obj)) (v : Value) (act' : List (Addr × Obj)) : Prop :=
  ∃ (l : Nat) (vs : List Value) (k : Nat) (T' : List (Addr × Obj)), v = .ref l ∧ act' = (l, listOf vs.toArray k) :: T' ∧ IntsAre vs (digs n (cnt n x) x) ∧ TabFull 30 32 4 (Str.ofString "_int2digits.<locals>.inner") T' ∧ AllNe l T' ∧ (TabFull 30 32 4 (Str.ofString "_int2digits.<locals>.inner") act → T' = act)

theorem c_int2digits {w : World} {x : Int} {n : Nat} {t1 t2 : Tok} (h0 : 0 ≤ x) (h1 : x < 65536) (hn : 0 < n) (hn1 : n ≤ 16) :
    Gives w 35 [.int x t1, .int (n : Int) t2] 17 (fun act _ => TabOk 30 32 4 (Str.ofString "_int2digits.<locals>.inner") act) (DigsOut n x) := by
  w_on
  unfold Gives
  k_fill
  intro p loose mean mg mb dp un gd cn cs a ccd cl outer A₀ base h₀ L m act rest s Q E B F X N hdis T hk hp hd hu hret
  have hb := bits_le (k := 16) h0 (by omega)
  have hc := cnt_bounds (n := (n : Int)) hb (by omega)
  obtain ⟨hc0, hc1, hc2⟩ := hc
  rcases hp with hp | ⟨cc, occ, vcc, tcc, hp, hcc1, hcc2, hcc3⟩
  all_goals subst hp
  · refine wpAny_call ?_
    k_dflt (refine' code_defCF ?k1u2 ?k2u2 ?k3u2 ?k4u2 ?kDisu2 ?k5u2 ?kAu2 ?kFu2 ?kKu2 ?k6u2 ?k7u2 ?k8u2 ?k9u2 ?kBu2 ?kDu2 ?_ ?c2u2 ?c3u2 ?c4u2; (case kAu2 => exact rfl); (case kFu2 => exact rfl); (case kKu2 => assumption); (case k1u2 => k_asm); (case k2u2 => k_asm); (case k3u2 => k_asm); (case k4u2 => k_asm); (case kDisu2 => k_asm); (case k5u2 => k_asm); (case k6u2 => k_is); (case k7u2 => k_is); (case k8u2 => ktr_room); (case k9u2 => exact BindsTo.of_eq rfl); (case kBu2 => exact rfl); (case kDu2 => decide +kernel); (case c2u2 => exact rfl); (case c3u2 => exact rfl); (case c4u2 => exact rfl); k_whole; intro g' L' h' tk' cells' FG' F' N' Y' B' X' T' hg l1; (try k_lt l1); k_cells Y'; (try simp only [List.cons_append, List.nil_append] at N'); (try dsimp only); (try k_lift B'); (try k_fold))
    have hcode : CodeHd g' 34 30 := codeHd_of_K X' (by kernel_rfl)
    k_steps
    · k_dflt (refine' innerI_use (n := n) (lo := 0) (len := (((Builtin.Int.intBits x : Int) + n - 1).fdiv n).toNat) ?kCxam ?kBxam ?kFxam ?kXxam ?kNxam ?kTxam ?kkxam ?kixam ?k0xam ?k1xam ?k2xam ?k3xam ?k4xam ?k5xam ?kdxam ?kuxam ?kyxam ?kzxam ?_; (case kBxam => k_asm); (case kFxam => k_asm); (case kXxam => k_asm); (case kNxam => first | k_asm | exact news_hit8 (by k_asm)); (case kTxam => k_asm); (case kkxam => first | exact rfl | assumption); (case kixam => l_ints))
      case kCxam =>
        refine innerI_rec (fun len IH => ?_) _
        clear hret
        unfold InnerI
        intro p loose mean mg mb dp un gd cn cs a ccd cl outer A₀ base h₀ L m s Q E x lo t1 t2 t3 vs ns k B F X N T hk hints hlen hle h16 hx0 hx1 hx2 hd hu hret
        have hmid := mid_is lo len
        have hsh := shift_is (lo := lo) (len := len) (n := n)
        have hup := up_le (k := ((((lo : Int) + ((lo : Int) + (len : Int))).fdiv (2 ^ Int.toNat 1) - (lo : Int)) * (n : Int)).toNat) hx0
        have hnn : n * (len / 2) ≤ 128 := Nat.le_trans (Nat.mul_le_mul hn1 (show len / 2 ≤ 8 by omega)) (by decide)
        refine wpAny_call ?_
        k_dflt (refine' code_nest ?k1u3 ?k2u3 ?k3u3 ?k4u3 ?k5u3 ?kAu3 ?kFu3 ?kKu3 ?k6u3 ?k7u3 ?k8u3 ?k9u3 ?kBu3 ?_ ?c2u3 ?c3u3 ?c4u3 ?c5u3; (case kAu3 => exact rfl); (case kFu3 => exact rfl); (case kKu3 => assumption); (case k1u3 => k_asm); (case k2u3 => k_asm); (case k3u3 => k_asm); (case k4u3 => k_asm); (case k5u3 => k_asm); (case k6u3 => k_mem); (case k7u3 => exact codeRec_news (by k_asm) (by k_mem) (by assumption) (by assumption)); (case k8u3 => ktr_room); (case k9u3 => exact BindsTo.of_eq rfl); (case c5u3 => decide); (case kBu3 => exact locs rfl); (case c2u3 => exact rfl); (case c3u3 => exact rfl); (case c4u3 => exact rfl); k_whole; intro g' L' h' FG' F' N' B' X' T'; (try dsimp only); (try k_lift B'); (try k_fold))
        k_steps
        · -- one figure
          have e1 : len = 1 := by omega
          subst e1
          refine hret _ _ _ _ (by k_asm) (by k_asm) ?_
          rw [digs_one hx0 (by simpa using hx2), ← fill_one (show lo < ns.length by omega)]
          assumption
        · have hl2 : 2 ≤ len := by omega
          have hup2 := hup
          rw [hsh, Int.toNat_natCast] at hup2
          have hlow := xor_low (n * (len / 2)) hx0
          have hlow0 : 0 ≤ x % 2 ^ (n * (len / 2)) := Int.emod_nonneg _ (by have := two_pos (n * (len / 2)); omega)
          have hlow1 : x % 2 ^ (n * (len / 2)) < 2 ^ (n * (len / 2)) := Int.emod_lt_of_pos _ (two_pos _)
          have hlow2 : x % 2 ^ (n * (len / 2)) ≤ x := mod_le hx0
          k_dflt (refine' innerI_use (n := n) (lo := lo) (len := len / 2) (IH (len / 2) (by omega)) ?kBxbm ?kFxbm ?kXxbm ?kNxbm ?kTxbm ?kkxbm ?kixbm ?k0xbm ?k1xbm ?k2xbm ?k3xbm ?k4xbm ?k5xbm ?kdxbm ?kuxbm ?kyxbm ?kzxbm ?_; (case kBxbm => k_asm); (case kFxbm => k_asm); (case kXxbm => k_asm); (case kNxbm => first | k_asm | exact news_hit8 (by k_asm)); (case kTxbm => k_asm); (case kkxbm => first | exact rfl | assumption); (case kixbm => l_ints))
          case k0xbm => omega
          case k1xbm => omega
          case k2xbm => omega
          case k3xbm => rw [hsh, Int.toNat_natCast, hlow]; exact hlow0
          case k4xbm => rw [hsh, Int.toNat_natCast, hlow]; omega
          case k5xbm => rw [hsh, Int.toNat_natCast, hlow]; exact hlow1
          case kdxbm => ktr_room
          case kuxbm => ktr_units
          case kyxbm => rfl
          case kzxbm => exact hmid
          intro vs1 k1 h1 tk1 F1 N1 I1
          rw [hsh, Int.toNat_natCast, hlow, digs_mod] at I1
          have hfl : (fill ns lo (digs n (len / 2) x)).length = ns.length := fill_length (by rw [digs_length]; omega)
          k_steps
          k_dflt (refine' innerI_use (n := n) (lo := lo + len / 2) (len := len - len / 2) (IH (len - len / 2) (by omega)) ?kBxcm ?kFxcm ?kXxcm ?kNxcm ?kTxcm ?kkxcm ?kixcm ?k0xcm ?k1xcm ?k2xcm ?k3xcm ?k4xcm ?k5xcm ?kdxcm ?kuxcm ?kyxcm ?kzxcm ?_; (case kBxcm => k_asm); (case kFxcm => k_asm); (case kXxcm => k_asm); (case kNxcm => first | k_asm | exact news_hit8 (by k_asm)); (case kTxcm => k_asm); (case kkxcm => first | exact rfl | assumption); (case kixcm => l_ints))
          case k0xcm => omega
          case k1xcm => omega
          case k2xcm => omega
          case k3xcm => exact hup.1
          case k4xcm => omega
          case k5xcm =>
            rw [hsh, Int.toNat_natCast]
            exact up_lt hx0 (by rw [← Nat.mul_add, show len / 2 + (len - len / 2) = len by omega]; exact hx2)
          case kdxcm => ktr_room
          case kuxcm => ktr_units
          case kyxcm => rw [hmid, Int.natCast_add]
          case kzxcm => omega
          intro vs2 k2 h2 tk2 F2 N2 I2
          rw [hsh, Int.toNat_natCast, Int.fdiv_eq_ediv_of_nonneg _ (Int.le_of_lt (two_pos _))] at I2
          have hff := fill_fill (ns := ns) (lo := lo) (d1 := digs n (len / 2) x) (d2 := digs n (len - len / 2) (x / 2 ^ (n * (len / 2)))) (by rw [digs_length, digs_length]; omega)
          rw [digs_length, ← digs_add, show len / 2 + (len - len / 2) = len by omega] at hff
          rw [hff] at I2
          k_steps
          all_goals exact hret _ _ _ _ (by k_asm) (by k_asm) I2
      case k0xam =>
        have := bits_pos h0 (by assumption)
        omega
      case k1xam => rw [rep_flat, List.length_replicate]; omega
      case k2xam => rw [rep_flat, List.length_replicate]; omega
      case k3xam => omega
      case k4xam => omega
      case k5xam => exact cnt_enough h0 hn
      case kdxam => ktr_room
      case kuxam => ktr_units
      case kyxam => rfl
      case kzxam => omega
      intro vs1 k1 h1 tk1 F1 N1 I1
      rw [rep_flat, fill_all] at I1
      k_steps
      exact fun hN => hret _ _ _ _ (by k_asm) (news_join N (news_end8 (by assumption)) hN) (disj_of_kept (news_end8 (by assumption)) hg) ⟨_, _, _, _, rfl, rfl, I1, ⟨_, _, _, _, rfl, by assumption, by assumption, by omega⟩, allNe2 (by dsimp only; omega) (by dsimp only; omega), by first | exact fun _ => rfl | exact fun hf => (tabFull_ne hf).elim⟩
    · have e0 : (List.replicate (((Builtin.Int.intBits x : Int) + (n : Int) - 1).fdiv (n : Int)).toNat [(0 : Int)]).flatten = digs n (cnt n x) x := by
        rw [rep_flat, (by assumption : x = 0), digs_zero]
        rfl
      exact fun hN => hret _ _ _ _ (by k_asm) (news_join N (by first | exact news_end8 (by assumption) | exact news_end8 (news_hit8 (by assumption))) hN) (disj_of_kept (by first | exact news_end8 (by assumption) | exact news_end8 (news_hit8 (by assumption))) hg) ⟨_, _, _, _, rfl, rfl, by rw [← e0]; assumption, ⟨_, _, _, _, rfl, by assumption, by assumption, by omega⟩, allNe2 (by dsimp only; omega) (by dsimp only; omega), by first | exact fun _ => rfl | exact fun hf => (tabFull_ne hf).elim⟩
  · refine wpAny_call ?_
    k_dflt (refine' code_defCF ?k1u4 ?k2u4 ?k3u4 ?k4u4 ?kDisu4 ?k5u4 ?kAu4 ?kFu4 ?kKu4 ?k6u4 ?k7u4 ?k8u4 ?k9u4 ?kBu4 ?kDu4 ?_ ?c2u4 ?c3u4 ?c4u4; (case kAu4 => exact rfl); (case kFu4 => exact rfl); (case kKu4 => assumption); (case k1u4 => k_asm); (case k2u4 => k_asm); (case k3u4 => k_asm); (case k4u4 => k_asm); (case kDisu4 => k_asm); (case k5u4 => k_asm); (case k6u4 => k_is); (case k7u4 => k_is); (case k8u4 => ktr_room); (case k9u4 => exact BindsTo.of_eq rfl); (case kBu4 => exact rfl); (case kDu4 => decide +kernel); (case c2u4 => exact rfl); (case c3u4 => exact rfl); (case c4u4 => exact rfl); k_whole; intro g' L' h' tk' cells' FG' F' N' Y' B' X' T' hg l1; (try k_lt l1); k_cells Y'; (try simp only [List.cons_append, List.nil_append] at N'); (try dsimp only); (try k_lift B'); (try k_fold))
    have hcode : CodeHd g' 34 30 := codeHd_of_K X' (by kernel_rfl)
    k_steps
    · k_dflt (refine' innerI_use (n := n) (lo := 0) (len := (((Builtin.Int.intBits x : Int) + n - 1).fdiv n).toNat) ?kCxah ?kBxah ?kFxah ?kXxah ?kNxah ?kTxah ?kkxah ?kixah ?k0xah ?k1xah ?k2xah ?k3xah ?k4xah ?k5xah ?kdxah ?kuxah ?kyxah ?kzxah ?_; (case kBxah => k_asm); (case kFxah => k_asm); (case kXxah => k_asm); (case kNxah => first | k_asm | exact news_hit8 (by k_asm)); (case kTxah => k_asm); (case kkxah => first | exact rfl | assumption); (case kixah => l_ints))
      case kCxah =>
        refine innerI_rec (fun len IH => ?_) _
        clear hret
        unfold InnerI
        intro p loose mean mg mb dp un gd cn cs a ccd cl outer A₀ base h₀ L m s Q E x lo t1 t2 t3 vs ns k B F X N T hk hints hlen hle h16 hx0 hx1 hx2 hd hu hret
        have hmid := mid_is lo len
        have hsh := shift_is (lo := lo) (len := len) (n := n)
        have hup := up_le (k := ((((lo : Int) + ((lo : Int) + (len : Int))).fdiv (2 ^ Int.toNat 1) - (lo : Int)) * (n : Int)).toNat) hx0
        have hnn : n * (len / 2) ≤ 128 := Nat.le_trans (Nat.mul_le_mul hn1 (show len / 2 ≤ 8 by omega)) (by decide)
        refine wpAny_call ?_
        k_dflt (refine' code_nest ?k1u5 ?k2u5 ?k3u5 ?k4u5 ?k5u5 ?kAu5 ?kFu5 ?kKu5 ?k6u5 ?k7u5 ?k8u5 ?k9u5 ?kBu5 ?_ ?c2u5 ?c3u5 ?c4u5 ?c5u5; (case kAu5 => exact rfl); (case kFu5 => exact rfl); (case kKu5 => assumption); (case k1u5 => k_asm); (case k2u5 => k_asm); (case k3u5 => k_asm); (case k4u5 => k_asm); (case k5u5 => k_asm); (case k6u5 => k_mem); (case k7u5 => exact codeRec_news (by k_asm) (by k_mem) (by assumption) (by assumption)); (case k8u5 => ktr_room); (case k9u5 => exact BindsTo.of_eq rfl); (case c5u5 => decide); (case kBu5 => exact locs rfl); (case c2u5 => exact rfl); (case c3u5 => exact rfl); (case c4u5 => exact rfl); k_whole; intro g' L' h' FG' F' N' B' X' T'; (try dsimp only); (try k_lift B'); (try k_fold))
        k_steps
        · -- one figure
          have e1 : len = 1 := by omega
          subst e1
          refine hret _ _ _ _ (by k_asm) (by k_asm) ?_
          rw [digs_one hx0 (by simpa using hx2), ← fill_one (show lo < ns.length by omega)]
          assumption
        · have hl2 : 2 ≤ len := by omega
          have hup2 := hup
          rw [hsh, Int.toNat_natCast] at hup2
          have hlow := xor_low (n * (len / 2)) hx0
          have hlow0 : 0 ≤ x % 2 ^ (n * (len / 2)) := Int.emod_nonneg _ (by have := two_pos (n * (len / 2)); omega)
          have hlow1 : x % 2 ^ (n * (len / 2)) < 2 ^ (n * (len / 2)) := Int.emod_lt_of_pos _ (two_pos _)
          have hlow2 : x % 2 ^ (n * (len / 2)) ≤ x := mod_le hx0
          k_dflt (refine' innerI_use (n := n) (lo := lo) (len := len / 2) (IH (len / 2) (by omega)) ?kBxbh ?kFxbh ?kXxbh ?kNxbh ?kTxbh ?kkxbh ?kixbh ?k0xbh ?k1xbh ?k2xbh ?k3xbh ?k4xbh ?k5xbh ?kdxbh ?kuxbh ?kyxbh ?kzxbh ?_; (case kBxbh => k_asm); (case kFxbh => k_asm); (case kXxbh => k_asm); (case kNxbh => first | k_asm | exact news_hit8 (by k_asm)); (case kTxbh => k_asm); (case kkxbh => first | exact rfl | assumption); (case kixbh => l_ints))
          case k0xbh => omega
          case k1xbh => omega
          case k2xbh => omega
          case k3xbh => rw [hsh, Int.toNat_natCast, hlow]; exact hlow0
          case k4xbh => rw [hsh, Int.toNat_natCast, hlow]; omega
          case k5xbh => rw [hsh, Int.toNat_natCast, hlow]; exact hlow1
          case kdxbh => ktr_room
          case kuxbh => ktr_units
          case kyxbh => rfl
          case kzxbh => exact hmid
          intro vs1 k1 h1 tk1 F1 N1 I1
          rw [hsh, Int.toNat_natCast, hlow, digs_mod] at I1
          have hfl : (fill ns lo (digs n (len / 2) x)).length = ns.length := fill_length (by rw [digs_length]; omega)
          k_steps
          k_dflt (refine' innerI_use (n := n) (lo := lo + len / 2) (len := len - len / 2) (IH (len - len / 2) (by omega)) ?kBxch ?kFxch ?kXxch ?kNxch ?kTxch ?kkxch ?kixch ?k0xch ?k1xch ?k2xch ?k3xch ?k4xch ?k5xch ?kdxch ?kuxch ?kyxch ?kzxch ?_; (case kBxch => k_asm); (case kFxch => k_asm); (case kXxch => k_asm); (case kNxch => first | k_asm | exact news_hit8 (by k_asm)); (case kTxch => k_asm); (case kkxch => first | exact rfl | assumption); (case kixch => l_ints))
          case k0xch => omega
          case k1xch => omega
          case k2xch => omega
          case k3xch => exact hup.1
          case k4xch => omega
          case k5xch =>
            rw [hsh, Int.toNat_natCast]
            exact up_lt hx0 (by rw [← Nat.mul_add, show len / 2 + (len - len / 2) = len by omega]; exact hx2)
          case kdxch => ktr_room
          case kuxch => ktr_units
          case kyxch => rw [hmid, Int.natCast_add]
          case kzxch => omega
          intro vs2 k2 h2 tk2 F2 N2 I2
          rw [hsh, Int.toNat_natCast, Int.fdiv_eq_ediv_of_nonneg _ (Int.le_of_lt (two_pos _))] at I2
          have hff := fill_fill (ns := ns) (lo := lo) (d1 := digs n (len / 2) x) (d2 := digs n (len - len / 2) (x / 2 ^ (n * (len / 2)))) (by rw [digs_length, digs_length]; omega)
          rw [digs_length, ← digs_add, show len / 2 + (len - len / 2) = len by omega] at hff
          rw [hff] at I2
          k_steps
          all_goals exact hret _ _ _ _ (by k_asm) (by k_asm) I2
      case k0xah =>
        have := bits_pos h0 (by assumption)
        omega
      case k1xah => rw [rep_flat, List.length_replicate]; omega
      case k2xah => rw [rep_flat, List.length_replicate]; omega
      case k3xah => omega
      case k4xah => omega
      case k5xah => exact cnt_enough h0 hn
      case kdxah => ktr_room
      case kuxah => ktr_units
      case kyxah => rfl
      case kzxah => omega
      intro vs1 k1 h1 tk1 F1 N1 I1
      rw [rep_flat, fill_all] at I1
      k_steps
      exact fun hN => hret _ _ _ _ (by k_asm) (news_join N (news_end8 (by assumption)) hN) (disj_of_kept (news_end8 (by assumption)) hg) ⟨_, _, _, _, rfl, rfl, I1, ⟨_, _, _, _, rfl, by assumption, by assumption, by omega⟩, allNe2 (by dsimp only; omega) (by dsimp only; omega), by first | exact fun _ => rfl | exact fun hf => (tabFull_ne hf).elim⟩
    · have e0 : (List.replicate (((Builtin.Int.intBits x : Int) + (n : Int) - 1).fdiv (n : Int)).toNat [(0 : Int)]).flatten = digs n (cnt n x) x := by
        rw [rep_flat, (by assumption : x = 0), digs_zero]
        rfl
      exact fun hN => hret _ _ _ _ (by k_asm) (news_join N (by first | exact news_end8 (by assumption) | exact news_end8 (news_hit8 (by assumption))) hN) (disj_of_kept (by first | exact news_end8 (by assumption) | exact news_end8 (news_hit8 (by assumption))) hg) ⟨_, _, _, _, rfl, rfl, by rw [← e0]; assumption, ⟨_, _, _, _, rfl, by assumption, by assumption, by omega⟩, allNe2 (by dsimp only; omega) (by dsimp only; omega), by first | exact fun _ => rfl | exact fun hf => (tabFull_ne hf).elim⟩
end Mine
end

section
open PySem PySem.W PySem.Spec PySem.Calls PyProof.Rows
namespace Mine
set_option maxRecDepth 100000
set_option maxHeartbeats 8000000

/-- the ledger within _digits2int, once its own def is made -/
abbrev shpD (f : Addr) (fo : Obj) (D : Addr) (vs : List Value) (k : Nat) (c1 : Addr) (o1 : Obj) (c2 : Addr) (o2 : Obj) (c3 : Addr) (o3 : Obj) (tb : Obj) (c' : Addr) (oc : Obj) : List (Addr × Obj) :=
  [(f, fo), (c', oc), (c1, o1), (c2, o2), (c3, o3), (D, listOf vs.toArray k), (37, tb)]

/-- inner(lo, hi), hi - lo = len -/
def InnerD (w : World) (n : Nat) (f : Addr) (fo : Obj) (D : Addr) (vs : List Value) (k : Nat) (ns : List Int) (c1 : Addr) (o1 : Obj) (c2 : Addr) (o2 : Obj) (c3 : Addr) (o3 : Obj) (tb : Obj) (c' : Addr) (oc : Obj) (len : Nat) : Prop :=
  ∀ (p : Program) (loose : List Str) (mean : ExcName → Option Value) (mg mb : Str → Option Value) (dp un : Nat) (gd : Option (List Code)) (cn : Str) (cs : Scope) (a : Addr) (ccd : Value) (cl : List (Str × Addr)) (outer : List Env) (A₀ : Around) (base h₀ : Heap) (L : Addr) (m : Str → Option Value) (s : Shared) (Q E : Value → Shared → Prop)
    (lo : Nat) (t2 t3 : Tok),
    Below A₀ base outer h₀ → Fr h₀ L s.heap m → (hd.heap_39 w.params).In h₀ → News h₀ L s.heap (shpD f fo D vs k c1 o1 c2 o2 c3 o3 tb c' oc) → Top p loose mean mg mb h₀ → cs.kind = .function →
    0 < len → lo + len ≤ ns.length →
    dp + len < recursionLimit → un + 8 * len < cLine →
    (∀ t h' tk', Fr h₀ L h' m → News h₀ L h' (shpD f fo D vs k c1 o1 c2 o2 c3 o3 tb c' oc) → Q (.int (dval n ((ns.drop lo).take len)) t) { s with heap := h', toks := tk' }) →
    wpAny (model PySem.Challenge.rw_kl0445_01.row.prog w) (ktrTop dp un gd cn cs L a ccd cl outer) (call (.ref f) [.int (lo : Int) t2, .int ((lo : Int) + (len : Int)) t3]) Q E s

theorem innerD_rec {w : World} {n : Nat} {f : Addr} {fo : Obj} {D : Addr} {vs : List Value} {k : Nat} {ns : List Int} {c1 : Addr} {o1 : Obj} {c2 : Addr} {o2 : Obj} {c3 : Addr} {o3 : Obj} {tb : Obj} {c' : Addr} {oc : Obj}
    (step : ∀ len, (∀ len' < len, InnerD w n f fo D vs k ns c1 o1 c2 o2 c3 o3 tb c' oc len') → InnerD w n f fo D vs k ns c1 o1 c2 o2 c3 o3 tb c' oc len) : ∀ len, InnerD w n f fo D vs k ns c1 o1 c2 o2 c3 o3 tb c' oc len := fun len => by
  induction len using Nat.strongRecOn with
  | ind len ih => exact step len ih

theorem innerD_use {w : World} {n : Nat} {f : Addr} {fo : Obj} {D : Addr} {vs : List Value} {k : Nat} {ns : List Int} {c1 : Addr} {o1 : Obj} {c2 : Addr} {o2 : Obj} {c3 : Addr} {o3 : Obj} {tb : Obj} {c' : Addr} {oc : Obj}
    {p : Program} {loose : List Str} {mean : ExcName → Option Value} {mg mb : Str → Option Value} {dp un : Nat} {gd : Option (List Code)} {cn : Str} {cs : Scope} {a : Addr} {ccd : Value} {cl : List (Str × Addr)} {outer : List Env} {A₀ : Around} {base h₀ : Heap} {L : Addr} {m : Str → Option Value} {s : Shared} {Q E : Value → Shared → Prop}
    {y z : Int} {lo len : Nat} {t2 t3 : Tok}
    (C : InnerD w n f fo D vs k ns c1 o1 c2 o2 c3 o3 tb c' oc len)
    (B : Below A₀ base outer h₀) (F : Fr h₀ L s.heap m) (X : (hd.heap_39 w.params).In h₀) (N : News h₀ L s.heap (shpD f fo D vs k c1 o1 c2 o2 c3 o3 tb c' oc)) (T : Top p loose mean mg mb h₀) (hk : cs.kind = .function)
    (h0 : 0 < len) (h1 : lo + len ≤ ns.length) (hd : dp + len < recursionLimit) (hu : un + 8 * len < cLine) (ey : y = (lo : Int)) (ez : z = (lo : Int) + (len : Int))
    (ret : ∀ t h' tk', Fr h₀ L h' m → News h₀ L h' (shpD f fo D vs k c1 o1 c2 o2 c3 o3 tb c' oc) → Q (.int (dval n ((ns.drop lo).take len)) t) { s with heap := h', toks := tk' }) :
    wpAny (model PySem.Challenge.rw_kl0445_01.row.prog w) (ktrTop dp un gd cn cs L a ccd cl outer) (call (.ref f) [.int y t2, .int z t3]) Q E s := by
  subst ey ez
  exact C _ _ _ _ _ _ _ _ _ _ _ _ _ _ _ _ _ _ _ _ _ _ _ _ _ B F X N T hk h0 h1 hd hu ret

section
variable {h₀ h : Heap} {L : Addr} {f c d l c1 c2 c3 t : Addr × Obj}
theorem news_hit7 (N : News h₀ L h [f, c1, c2, c3, d, t, c]) : News h₀ L h [f, c, c1, c2, c3, d, t] := fun p hp => N p (by
  simp only [List.mem_cons, List.not_mem_nil, or_false] at hp ⊢
  rcases hp with h | h | h | h | h | h | h <;> simp [h])
theorem news_end7 (N : News h₀ L h [f, c, c1, c2, c3, d, t]) : News h₀ L h [d, t, c] := fun p hp => N p (by
  simp only [List.mem_cons, List.not_mem_nil, or_false] at hp ⊢
  rcases hp with h | h | h <;> simp [h])
end

theorem dval_split {n : Nat} {ns : List Int} {lo a b : Nat} (h : lo + (a + b) ≤ ns.length) :
    dval n ((ns.drop lo).take (a + b)) = dval n ((ns.drop (lo + a)).take b) * 2 ^ (n * a) + dval n ((ns.drop lo).take a) := by
  rw [List.take_add, dval_append, List.drop_drop, List.length_take, List.length_drop, Nat.min_eq_left (by omega)]

theorem dval_sub {n : Nat} {ns : List Int} (hns : ∀ d ∈ ns, 0 ≤ d ∧ d < 2 ^ n) (h60 : n * ns.length ≤ 60) (lo a : Nat) :
    0 ≤ dval n ((ns.drop lo).take a) ∧ dval n ((ns.drop lo).take a) < 1152921504606846976 := by
  have h1 := dval_bounds (n := n) (ds := (ns.drop lo).take a) fun d hd => hns d (List.mem_of_mem_drop (List.mem_of_mem_take hd))
  refine ⟨h1.1, Int.lt_of_lt_of_le h1.2 ?_⟩
  rw [show (1152921504606846976 : Int) = 2 ^ 60 from by decide, ← kbt_cast, ← kbt_cast]
  refine Int.ofNat_le.mpr (Nat.pow_le_pow_right (by decide) (Nat.le_trans (Nat.mul_le_mul_left n ?_) h60))
  rw [List.length_take, List.length_drop]
  omega

theorem dval_one {n : Nat} {ns : List Int} {lo : Nat} (h : lo < ns.length) : dval n ((ns.drop lo).take 1) = ns.getD lo 0 := by
  rw [List.drop_eq_getElem_cons h, List.take_succ_cons, List.take_zero, List.getD_eq_getElem?_getD, List.getElem?_eq_getElem h]
  simp [dval]

/-- the int that figures tell; the table stays as it must -/
def IntOut (l : Addr) (vs : List Value) (k : Nat) (x : Int) (act _ : List (Addr × Obj)) (v : Value) (act' : List (Addr × Obj)) : Prop :=
  ∃ (t : Tok) (T' : List (Addr × Obj)), v = .int x t ∧ act' = (l, listOf vs.toArray k) :: T' ∧ TabFull 37 47 4 (Str.ofString "_digits2int.<locals>.inner") T' ∧ AllNe l T' ∧ (∀ T, act = (l, listOf vs.toArray k) :: T → TabFull 37 47 4 (Str.ofString "_digits2int.<locals>.inner") T → T' = T)
end Mine
end

section
open PySem PySem.W PySem.Spec PySem.Calls PyProof.Rows
namespace Mine
set_option maxRecDepth 100000
set_option maxHeartbeats 8000000

theorem c_digits2int {w : World} {n : Nat} {l : Addr} {vs : List Value} {k : Nat} {ns : List Int} {t2 : Tok} (hi : IntsAre vs ns) (hn1 : n ≤ 16) (hns : ∀ d ∈ ns, 0 ≤ d ∧ d < 2 ^ n) (h60 : n * ns.length ≤ 60) (h16 : ns.length ≤ 16) :
    Gives w 42 [.ref l, .int (n : Int) t2] 17 (fun act _ => ∃ T, act = (l, listOf vs.toArray k) :: T ∧ TabOk 37 47 4 (Str.ofString "_digits2int.<locals>.inner") T ∧ AllNe l T) (IntOut l vs k (dval n ns)) := by
  w_on
  unfold Gives
  k_fill
  intro p loose mean mg mb dp un gd cn cs a ccd cl outer A₀ base h₀ L m act rest s Q E B F X N hdis T hk hp hd hu hret
  obtain ⟨T2, rfl, hp, hlT⟩ := hp
  rcases hp with hp | ⟨cc, occ, vcc, tcc, hp, hcc1, hcc2, hcc3⟩
  all_goals subst hp
  · have hlT1 := hlT.1
    dsimp only at hlT1
    refine wpAny_call ?_
    k_dflt (refine' code_defCF ?k1u12 ?k2u12 ?k3u12 ?k4u12 ?kDisu12 ?k5u12 ?kAu12 ?kFu12 ?kKu12 ?k6u12 ?k7u12 ?k8u12 ?k9u12 ?kBu12 ?kDu12 ?_ ?c2u12 ?c3u12 ?c4u12; (case kAu12 => exact rfl); (case kFu12 => exact rfl); (case kKu12 => assumption); (case k1u12 => k_asm); (case k2u12 => k_asm); (case k3u12 => k_asm); (case k4u12 => k_asm); (case kDisu12 => k_asm); (case k5u12 => k_asm); (case k6u12 => k_is); (case k7u12 => k_is); (case k8u12 => ktr_room); (case k9u12 => exact BindsTo.of_eq rfl); (case kBu12 => exact rfl); (case kDu12 => decide +kernel); (case c2u12 => exact rfl); (case c3u12 => exact rfl); (case c4u12 => exact rfl); k_whole; intro g' L' h' tk' cells' FG' F' N' Y' B' X' T' hg l1; (try k_lt l1); k_cells Y'; (try simp only [List.cons_append, List.nil_append] at N'); (try dsimp only); (try k_lift B'); (try k_fold))
    have hcode : CodeHd g' 41 37 := codeHd_of_K X' (by kernel_rfl)
    k_steps
    · k_dflt (refine' innerD_use (n := n) (ns := ns) (lo := 0) (len := ns.length) ?kCxam ?kBxam ?kFxam ?kXxam ?kNxam ?kTxam ?kkxam ?k0xam ?k1xam ?kdxam ?kuxam ?kyxam ?kzxam ?_; (case kBxam => k_asm); (case kFxam => k_asm); (case kXxam => k_asm); (case kNxam => first | k_asm | exact news_hit7 (by k_asm)); (case kTxam => k_asm); (case kkxam => first | exact rfl | assumption))
      case kCxam =>
        refine innerD_rec (fun len IH => ?_) _
        clear hret
        unfold InnerD
        intro p loose mean mg mb dp un gd cn cs a ccd cl outer A₀ base h₀ L m s Q E lo t2 t3 B F X N T hk hlen hle hd hu hret
        have hmid := mid_is lo len
        have hsh := shift_is (lo := lo) (len := len) (n := n)
        have hnn : n * (len / 2) ≤ 128 := Nat.le_trans (Nat.mul_le_mul hn1 (show len / 2 ≤ 8 by omega)) (by decide)
        have hsub := dval_sub hns h60 (lo + len / 2) (len - len / 2)
        refine wpAny_call ?_
        k_dflt (refine' code_nest ?k1u13 ?k2u13 ?k3u13 ?k4u13 ?k5u13 ?kAu13 ?kFu13 ?kKu13 ?k6u13 ?k7u13 ?k8u13 ?k9u13 ?kBu13 ?_ ?c2u13 ?c3u13 ?c4u13 ?c5u13; (case kAu13 => exact rfl); (case kFu13 => exact rfl); (case kKu13 => assumption); (case k1u13 => k_asm); (case k2u13 => k_asm); (case k3u13 => k_asm); (case k4u13 => k_asm); (case k5u13 => k_asm); (case k6u13 => k_mem); (case k7u13 => exact codeRec_news (by k_asm) (by k_mem) (by assumption) (by assumption)); (case k8u13 => ktr_room); (case k9u13 => exact BindsTo.of_eq rfl); (case c5u13 => decide); (case kBu13 => exact locs rfl); (case c2u13 => exact rfl); (case c3u13 => exact rfl); (case c4u13 => exact rfl); k_whole; intro g' L' h' FG' F' N' B' X' T'; (try dsimp only); (try k_lift B'); (try k_fold))
        k_steps
        · -- one figure
          have e1 : len = 1 := by omega
          subst e1
          rw [dval_one (show lo < ns.length by omega)] at hret
          exact hret _ _ _ (by k_asm) (by k_asm)
        · have hl2 : 2 ≤ len := by omega
          k_dflt (refine' innerD_use (n := n) (lo := lo + len / 2) (len := len - len / 2) (IH (len - len / 2) (by omega)) ?kBxbm ?kFxbm ?kXxbm ?kNxbm ?kTxbm ?kkxbm ?k0xbm ?k1xbm ?kdxbm ?kuxbm ?kyxbm ?kzxbm ?_; (case kBxbm => k_asm); (case kFxbm => k_asm); (case kXxbm => k_asm); (case kNxbm => first | k_asm | exact news_hit7 (by k_asm)); (case kTxbm => k_asm); (case kkxbm => first | exact rfl | assumption))
          case k0xbm => omega
          case k1xbm => omega
          case kdxbm => ktr_room
          case kuxbm => ktr_units
          case kyxbm => rw [hmid, Int.natCast_add]
          case kzxbm => omega
          intro t4 h1 tk1 F1 N1
          k_steps
          k_dflt (refine' innerD_use (n := n) (lo := lo) (len := len / 2) (IH (len / 2) (by omega)) ?kBxcm ?kFxcm ?kXxcm ?kNxcm ?kTxcm ?kkxcm ?k0xcm ?k1xcm ?kdxcm ?kuxcm ?kyxcm ?kzxcm ?_; (case kBxcm => k_asm); (case kFxcm => k_asm); (case kXxcm => k_asm); (case kNxcm => first | k_asm | exact news_hit7 (by k_asm)); (case kTxcm => k_asm); (case kkxcm => first | exact rfl | assumption))
          case k0xcm => omega
          case k1xcm => omega
          case kdxcm => ktr_room
          case kuxcm => ktr_units
          case kyxcm => rfl
          case kzxcm => exact hmid
          intro t5 h2 tk2 F2 N2
          k_steps
          have hsp := dval_split (n := n) (ns := ns) (lo := lo) (a := len / 2) (b := len - len / 2) (by omega)
          rw [show len / 2 + (len - len / 2) = len by omega] at hsp
          rw [hsp] at hret
          rw [hsh, Int.toNat_natCast]
          exact hret _ _ _ (by k_asm) (by k_asm)
      case k0xam =>
        have : ns ≠ [] := by
          intro e
          simp_all
        exact List.length_pos_iff.mpr this
      case k1xam => omega
      case kdxam => ktr_room
      case kuxam => ktr_units
      case kyxam => rfl
      case kzxam => omega
      intro t6 h3 tk3 F3 N3
      k_steps
      rw [List.drop_zero, List.take_length]
      exact fun hN => hret _ _ _ _ (by k_asm) (news_join N (news_end7 (by assumption)) hN) (disj_of_kept (news_end7 (by assumption)) hg) ⟨_, _, rfl, rfl, ⟨_, _, _, _, rfl, by assumption, by assumption, by omega⟩, allNe2 (by dsimp only; omega) (by dsimp only; omega), by first | (intro T9 e9 _; cases e9; rfl) | (intro T9 e9 hf; cases e9; exact (tabFull_ne hf).elim)⟩
    · have : ns = [] := by simp_all
      subst this
      exact fun hN => hret _ _ _ _ (by k_asm) (news_join N (by first | exact news_end7 (by assumption) | exact news_end7 (news_hit7 (by assumption))) hN) (disj_of_kept (by first | exact news_end7 (by assumption) | exact news_end7 (news_hit7 (by assumption))) hg) ⟨_, _, rfl, rfl, ⟨_, _, _, _, rfl, by assumption, by assumption, by omega⟩, allNe2 (by dsimp only; omega) (by dsimp only; omega), by first | (intro T9 e9 _; cases e9; rfl) | (intro T9 e9 hf; cases e9; exact (tabFull_ne hf).elim)⟩
  · have hlT1 := hlT.1
    dsimp only at hlT1
    have hlT2 := hlT.2.1
    dsimp only at hlT2
    refine wpAny_call ?_
    k_dflt (refine' code_defCF ?k1u14 ?k2u14 ?k3u14 ?k4u14 ?kDisu14 ?k5u14 ?kAu14 ?kFu14 ?kKu14 ?k6u14 ?k7u14 ?k8u14 ?k9u14 ?kBu14 ?kDu14 ?_ ?c2u14 ?c3u14 ?c4u14; (case kAu14 => exact rfl); (case kFu14 => exact rfl); (case kKu14 => assumption); (case k1u14 => k_asm); (case k2u14 => k_asm); (case k3u14 => k_asm); (case k4u14 => k_asm); (case kDisu14 => k_asm); (case k5u14 => k_asm); (case k6u14 => k_is); (case k7u14 => k_is); (case k8u14 => ktr_room); (case k9u14 => exact BindsTo.of_eq rfl); (case kBu14 => exact rfl); (case kDu14 => decide +kernel); (case c2u14 => exact rfl); (case c3u14 => exact rfl); (case c4u14 => exact rfl); k_whole; intro g' L' h' tk' cells' FG' F' N' Y' B' X' T' hg l1; (try k_lt l1); k_cells Y'; (try simp only [List.cons_append, List.nil_append] at N'); (try dsimp only); (try k_lift B'); (try k_fold))
    have hcode : CodeHd g' 41 37 := codeHd_of_K X' (by kernel_rfl)
    k_steps
    · k_dflt (refine' innerD_use (n := n) (ns := ns) (lo := 0) (len := ns.length) ?kCxah ?kBxah ?kFxah ?kXxah ?kNxah ?kTxah ?kkxah ?k0xah ?k1xah ?kdxah ?kuxah ?kyxah ?kzxah ?_; (case kBxah => k_asm); (case kFxah => k_asm); (case kXxah => k_asm); (case kNxah => first | k_asm | exact news_hit7 (by k_asm)); (case kTxah => k_asm); (case kkxah => first | exact rfl | assumption))
      case kCxah =>
        refine innerD_rec (fun len IH => ?_) _
        clear hret
        unfold InnerD
        intro p loose mean mg mb dp un gd cn cs a ccd cl outer A₀ base h₀ L m s Q E lo t2 t3 B F X N T hk hlen hle hd hu hret
        have hmid := mid_is lo len
        have hsh := shift_is (lo := lo) (len := len) (n := n)
        have hnn : n * (len / 2) ≤ 128 := Nat.le_trans (Nat.mul_le_mul hn1 (show len / 2 ≤ 8 by omega)) (by decide)
        have hsub := dval_sub hns h60 (lo + len / 2) (len - len / 2)
        refine wpAny_call ?_
        k_dflt (refine' code_nest ?k1u15 ?k2u15 ?k3u15 ?k4u15 ?k5u15 ?kAu15 ?kFu15 ?kKu15 ?k6u15 ?k7u15 ?k8u15 ?k9u15 ?kBu15 ?_ ?c2u15 ?c3u15 ?c4u15 ?c5u15; (case kAu15 => exact rfl); (case kFu15 => exact rfl); (case kKu15 => assumption); (case k1u15 => k_asm); (case k2u15 => k_asm); (case k3u15 => k_asm); (case k4u15 => k_asm); (case k5u15 => k_asm); (case k6u15 => k_mem); (case k7u15 => exact codeRec_news (by k_asm) (by k_mem) (by assumption) (by assumption)); (case k8u15 => ktr_room); (case k9u15 => exact BindsTo.of_eq rfl); (case c5u15 => decide); (case kBu15 => exact locs rfl); (case c2u15 => exact rfl); (case c3u15 => exact rfl); (case c4u15 => exact rfl); k_whole; intro g' L' h' FG' F' N' B' X' T'; (try dsimp only); (try k_lift B'); (try k_fold))
        k_steps
        · -- one figure
          have e1 : len = 1 := by omega
          subst e1
          rw [dval_one (show lo < ns.length by omega)] at hret
          exact hret _ _ _ (by k_asm) (by k_asm)
        · have hl2 : 2 ≤ len := by omega
          k_dflt (refine' innerD_use (n := n) (lo := lo + len / 2) (len := len - len / 2) (IH (len - len / 2) (by omega)) ?kBxbh ?kFxbh ?kXxbh ?kNxbh ?kTxbh ?kkxbh ?k0xbh ?k1xbh ?kdxbh ?kuxbh ?kyxbh ?kzxbh ?_; (case kBxbh => k_asm); (case kFxbh => k_asm); (case kXxbh => k_asm); (case kNxbh => first | k_asm | exact news_hit7 (by k_asm)); (case kTxbh => k_asm); (case kkxbh => first | exact rfl | assumption))
          case k0xbh => omega
          case k1xbh => omega
          case kdxbh => ktr_room
          case kuxbh => ktr_units
          case kyxbh => rw [hmid, Int.natCast_add]
          case kzxbh => omega
          intro t4 h1 tk1 F1 N1
          k_steps
          k_dflt (refine' innerD_use (n := n) (lo := lo) (len := len / 2) (IH (len / 2) (by omega)) ?kBxch ?kFxch ?kXxch ?kNxch ?kTxch ?kkxch ?k0xch ?k1xch ?kdxch ?kuxch ?kyxch ?kzxch ?_; (case kBxch => k_asm); (case kFxch => k_asm); (case kXxch => k_asm); (case kNxch => first | k_asm | exact news_hit7 (by k_asm)); (case kTxch => k_asm); (case kkxch => first | exact rfl | assumption))
          case k0xch => omega
          case k1xch => omega
          case kdxch => ktr_room
          case kuxch => ktr_units
          case kyxch => rfl
          case kzxch => exact hmid
          intro t5 h2 tk2 F2 N2
          k_steps
          have hsp := dval_split (n := n) (ns := ns) (lo := lo) (a := len / 2) (b := len - len / 2) (by omega)
          rw [show len / 2 + (len - len / 2) = len by omega] at hsp
          rw [hsp] at hret
          rw [hsh, Int.toNat_natCast]
          exact hret _ _ _ (by k_asm) (by k_asm)
      case k0xah =>
        have : ns ≠ [] := by
          intro e
          simp_all
        exact List.length_pos_iff.mpr this
      case k1xah => omega
      case kdxah => ktr_room
      case kuxah => ktr_units
      case kyxah => rfl
      case kzxah => omega
      intro t6 h3 tk3 F3 N3
      k_steps
      rw [List.drop_zero, List.take_length]
      exact fun hN => hret _ _ _ _ (by k_asm) (news_join N (news_end7 (by assumption)) hN) (disj_of_kept (news_end7 (by assumption)) hg) ⟨_, _, rfl, rfl, ⟨_, _, _, _, rfl, by assumption, by assumption, by omega⟩, allNe2 (by dsimp only; omega) (by dsimp only; omega), by first | (intro T9 e9 _; cases e9; rfl) | (intro T9 e9 hf; cases e9; exact (tabFull_ne hf).elim)⟩
    · have : ns = [] := by simp_all
      subst this
      exact fun hN => hret _ _ _ _ (by k_asm) (news_join N (by first | exact news_end7 (by assumption) | exact news_end7 (news_hit7 (by assumption))) hN) (disj_of_kept (by first | exact news_end7 (by assumption) | exact news_end7 (news_hit7 (by assumption))) hg) ⟨_, _, rfl, rfl, ⟨_, _, _, _, rfl, by assumption, by assumption, by omega⟩, allNe2 (by dsimp only; omega) (by dsimp only; omega), by first | (intro T9 e9 _; cases e9; rfl) | (intro T9 e9 hf; cases e9; exact (tabFull_ne hf).elim)⟩
end Mine
end

section
open PySem PySem.W PySem.Spec PySem.Calls PyProof.Rows PyProof.V
namespace Mine
set_option maxRecDepth 100000
set_option maxHeartbeats 4000000

/-- the map knows these names -/
def Know (m : Str → Option Value) : List (Str × Value) → Prop
  | [] => True
  | p :: r => m p.1 = some p.2 ∧ Know m r
theorem Know.nil {m : Str → Option Value} : Know m [] := trivial
theorem Know.cons {m : Str → Option Value} {a : Str × Value} {r : List (Str × Value)} (h : m a.1 = some a.2) (hr : Know m r) : Know m (a :: r) := ⟨h, hr⟩
theorem Know.all {m : Str → Option Value} {ps : List (Str × Value)} (h : Know m ps) : ∀ p ∈ ps, m p.1 = some p.2 := by
  induction ps with
  | nil => intro p hp; exact nomatch hp
  | cons q r ih =>
    intro p hp
    rcases List.mem_cons.mp hp with rfl | hp
    · exact h.1
    · exact ih h.2 p hp

theorem fr_know {h₀ h : Heap} {L : Addr} {m : Str → Option Value} {ps : List (Str × Value)} (hk : ∀ p ∈ ps, m p.1 = some p.2) (F : Fr h₀ L h m) : Fr h₀ L h (kstB m ps) := by
  have e : kstB m ps = m := funext fun z => kstB_eq hk fun _ => rfl
  rw [e]
  exact F

def RPost {σ : Type} (h₀ : Heap) (L : Addr) (Led : σ → List (Addr × Obj)) (ps : σ → List (Str × Value)) (P : σ → Prop) (I : Addr) (it : Obj) (s₁ : Shared) (Q : Flow → Shared → Prop) (f : Flow) (s₂ : Shared) : Prop :=
  match f with
  | .ret v => Q (.ret v) s₂
  | .brk => Q .next s₂
  | _ => ∃ h' tk m' c, s₂ = { s₁ with heap := h', toks := tk } ∧ Fr h₀ L h' m' ∧ News h₀ L h' ((I, it) :: Led c) ∧ (∀ p ∈ Led c, p.1 ≠ I) ∧ Know m' (ps c) ∧ P c

section
variable {σ : Type} {h₀ : Heap} {L : Addr} {Led : σ → List (Addr × Obj)} {ps : σ → List (Str × Value)} {P : σ → Prop} {I : Addr} {it : Obj} {s₁ : Shared} {Q : Flow → Shared → Prop}
theorem RPost.next {m' : Str → Option Value} {h' : Heap} {tk : Nat} (c : σ) (F : Fr h₀ L h' m') (N : News h₀ L h' ((I, it) :: Led c)) (hn : ∀ p ∈ Led c, p.1 ≠ I) (hk : Know m' (ps c)) (hp : P c) :
    RPost h₀ L Led ps P I it s₁ Q .next { s₁ with heap := h', toks := tk } := ⟨h', tk, m', c, rfl, F, N, hn, hk, hp⟩
theorem RPost.ret {v : Value} {s₂ : Shared} (h : Q (.ret v) s₂) : RPost h₀ L Led ps P I it s₁ Q (.ret v) s₂ := h
end

section
variable {prog : Program} {w : World} {A : Around} {E : Value → Shared → Prop} {s : Shared} {env : Env} {h₀ : Heap} {x : Str} {body : List Stmt} {Q : Flow → Shared → Prop}

theorem range_inv {σ : Type} {r : Addr} {a₀ b₀ : Int} {t₀ u₀ v₀ : Tok} {n : Nat} {m₀ : Str → Option Value} (Led : σ → List (Addr × Obj)) (ps : σ → List (Str × Value)) (P : Nat → σ → Prop) (c₀ : σ)
    (hh : A.handled = none) (hr : IsRange s.heap r a₀ b₀ 1 t₀ u₀ v₀) (hsmall : Builtin.Range.small a₀ b₀ 1 = true) (hn : Builtin.Range.rangeSize a₀ b₀ 1 = (n : Int)) (F : Fr h₀ env.locals s.heap m₀) (N : News h₀ env.locals s.heap (Led c₀)) (hk : Know m₀ (ps c₀)) (hp : P 0 c₀)
    (turn : ∀ (c : σ) (i : Nat) (t : Tok) (I : Addr) (it : Obj) (u : Str → Option Value) h tk, i < n → P i c → (∀ p ∈ Led c, p.1 ≠ I) →
      Fr h₀ env.locals h (fun y => if y = x then some (.int (a₀ + (i : Int)) t) else kstB u (ps c) y) → News h₀ env.locals h ((I, it) :: Led c) →
      wpAny (model prog w) A (execs body env) (RPost h₀ env.locals Led ps (P (i + 1)) I it { s with heap := h, toks := tk } Q) E { s with heap := h, toks := tk })
    (done : ∀ (c : σ) (u : Str → Option Value) h tk, P n c → Fr h₀ env.locals h (kstB u (ps c)) → News h₀ env.locals h (Led c) → Q .next { s with heap := h, toks := tk }) :
    wpAny (model prog w) A (pyIter (.ref r)) (fun it s₂ => LoopAtV prog w A h₀ env x body Q E it s₂) E s := by
  refine wpAny_pyIter_range hr hsmall ?_
  have W : Walks prog w A s.heap.objs.size [s.heap.objs.size] [s.heap.objs.size] n (fun i v => i < n ∧ ∃ t, v = .int (a₀ + i * 1) t)
      (fun i h => IsRangeIter h s.heap.objs.size (a₀ + (i : Nat) * 1) ((n : Int) - (i : Nat)) 1) := (Walks.range hh _ a₀ 1 n).bound
  refine ⟨s.heap.objs.size, _, _, n, _, _, m₀, Led c₀, (fun i m nx => ∃ c, nx = Led c ∧ Know m (ps c) ∧ P i c), rfl, W, ?_, ?_, ?_, (by show IsRangeIter _ _ _ _ _; rw [hn]; simpa using Heap.get?_push_size _ rfl), F.push _, (fun p hp => ⟨Heap.get?_push_of_some _ (N p hp).1, (N p hp).2⟩), ⟨c₀, rfl, hk, hp⟩, ?_, ?_⟩
  · intro hm
    exact absurd F.ns.lt ((List.mem_singleton.mp hm) ▸ Nat.lt_irrefl _)
  · intro b hb
    rw [List.mem_singleton.mp hb]
    exact next_is_new F
  · intro p hp hI
    exact absurd (Heap.lt_size (N p hp).1) ((List.mem_singleton.mp hI) ▸ Nat.lt_irrefl _)
  · rintro i v m₁ news₁ s₁ own ⟨hh', tk', rfl⟩ hin ⟨_, t, rfl⟩ ⟨c, rfl, hk₁, hP⟩ hoff hown hget hfp hst F₁ N₁
    have hI0 : h₀.get? s.heap.objs.size = none := next_is_new F
    have hIs : ∃ o, hh'.get? s.heap.objs.size = some o := ⟨_, hst⟩
    obtain ⟨it, hit⟩ := hIs
    have hIown : (s.heap.objs.size, it) ∈ own := hfp _ (List.mem_cons.mpr (.inl rfl)) hI0 _ hit
    have hne : ∀ p ∈ Led c, p.1 ≠ s.heap.objs.size := fun p hp e => hoff p hp (List.mem_singleton.mpr e)
    have e1 : a₀ + (i : Int) * 1 = a₀ + (i : Int) := by omega
    rw [e1] at F₁
    have e2 : (fun y => if y = x then some (Value.int (a₀ + (i : Int)) t) else m₁ y) = fun y => if y = x then some (Value.int (a₀ + (i : Int)) t) else kstB m₁ (ps c) y := by
      funext y
      by_cases hy : y = x
      · rw [if_pos hy, if_pos hy]
      · rw [if_neg hy, if_neg hy]
        exact (kstB_eq hk₁.all fun _ => rfl).symm
    rw [e2] at F₁
    have N₂ : News h₀ env.locals hh' ((s.heap.objs.size, it) :: Led c) := fun p hp => by
      rcases List.mem_cons.mp hp with rfl | hp
      · exact N₁ _ (List.mem_append_left _ hIown)
      · exact N₁ _ (List.mem_append_right _ hp)
    refine wpAny_mono (turn c i t _ it m₁ hh' tk' hin hP hne F₁ N₂) (fun f s₂ p => ?_) fun _ _ e => e
    have fin : (∃ h' tk m' c', s₂ = { s with heap := h', toks := tk } ∧ Fr h₀ env.locals h' m' ∧ News h₀ env.locals h' ((s.heap.objs.size, it) :: Led c') ∧ (∀ p ∈ Led c', p.1 ≠ s.heap.objs.size) ∧ Know m' (ps c') ∧ P (i + 1) c') →
        LoopStepU h₀ env.locals [s.heap.objs.size] own (fun m nx => ∃ c, nx = Led c ∧ Know m (ps c) ∧ P (i + 1) c) { s with heap := hh', toks := tk' } .next s₂ := by
      rintro ⟨h', tk, m', c', e, F', N', hn', hk', hP'⟩
      refine ⟨rfl, h', tk, m', Led c', e, F', fun p hp => ?_, fun p hp hI => hn' p hp (List.mem_singleton.mp hI), c', rfl, hk', hP'⟩
      rcases List.mem_append.mp hp with hp | hp
      · have h2 : hh'.get? p.1 = some p.2 := hget p hp
        have h1 : p.1 = s.heap.objs.size := List.mem_singleton.mp (hown p hp)
        have h3 : p = (s.heap.objs.size, it) := by
          rw [h1, hit] at h2
          exact Prod.ext h1 (Option.some.inj h2).symm
        rw [h3]
        exact N' _ (List.mem_cons_self ..)
      · exact N' _ (List.mem_cons_of_mem _ hp)
    cases f with
    | ret v => exact .ret p
    | brk => exact .brk p
    | next => exact .next (fin p)
    | cont => exact .cont (fin p)
  · rintro h' tk m' news' F' N' _ ⟨c, rfl, hk', hP'⟩
    exact done c m' h' tk hP' (fr_know hk'.all F') N'

theorem rev_inv {σ : Type} {l D : Addr} {k : Nat} {vs : List Value} {ns : List Int} {m₀ : Str → Option Value} (Led : σ → List (Addr × Obj)) (ps : σ → List (Str × Value)) (P : Nat → σ → Prop) (c₀ : σ)
    (hh : A.handled = none) (hl : ∀ c, (l, listOf vs.toArray k) ∈ Led c) (hi : IntsAre vs ns) (F : Fr h₀ env.locals s.heap m₀) (N : News h₀ env.locals s.heap ((D, revObj l ((vs.length : Int) - 1)) :: Led c₀)) (hoffD : ∀ p ∈ Led c₀, p.1 ≠ D) (hk : Know m₀ (ps c₀)) (hp : P 0 c₀)
    (turn : ∀ (c : σ) (i : Nat) (d : Int) (t : Tok) (it : Obj) (u : Str → Option Value) h tk, ns.reverse[i]? = some d → P i c → (∀ p ∈ Led c, p.1 ≠ D) →
      Fr h₀ env.locals h (fun y => if y = x then some (.int d t) else kstB u (ps c) y) → News h₀ env.locals h ((D, it) :: Led c) →
      wpAny (model prog w) A (execs body env) (RPost h₀ env.locals Led ps (P (i + 1)) D it { s with heap := h, toks := tk } Q) E { s with heap := h, toks := tk })
    (done : ∀ (c : σ) (u : Str → Option Value) h tk, P ns.length c → Fr h₀ env.locals h (kstB u (ps c)) → News h₀ env.locals h (Led c) → Q .next { s with heap := h, toks := tk }) :
    wpAny (model prog w) A (pyIter (.ref D)) (fun it s₂ => LoopAtV prog w A h₀ env x body Q E it s₂) E s := by
  have hIx := N _ (List.mem_cons_self ..)
  have hax := N _ (List.mem_cons_of_mem _ (hl c₀))
  have hls : s.heap.IsList l vs.toArray := ⟨_, hax.1, rfl, k, rfl⟩
  have hne : l ≠ D := hoffD _ (hl c₀)
  have hit : s.heap.IsRevIter D l ((vs.length : Int) - 1) := ⟨_, hIx.1, rfl, rfl⟩
  refine wpAny_pyIter_revIter hit ?_
  have W := Walks.listRev (prog := prog) (w := w) hh D l hne vs.toArray
  have hlen : vs.toArray.size = vs.length := by simp
  have hlen2 : vs.length = ns.length := hi.length
  rw [hlen] at W
  refine ⟨D, _, _, vs.length, _, _, m₀, Led c₀, (fun i m nx => ∃ c, nx = Led c ∧ Know m (ps c) ∧ P i c), rfl, W, ?_, ?_, ?_, ⟨Nat.zero_le _, ?_, hls⟩, F, (fun p hp => N p (List.mem_cons_of_mem _ hp)), ⟨c₀, rfl, hk, hp⟩, ?_, ?_⟩
  · intro hmm
    rcases List.mem_cons.mp hmm with e | hmm
    · exact hIx.2.1 e.symm
    · exact hax.2.1 (List.mem_singleton.mp hmm).symm
  · intro b hb
    rw [List.mem_singleton.mp hb]
    exact hIx.2.2
  · intro p hp hI
    exact hoffD p hp (List.mem_singleton.mp hI)
  · have e : (vs.length : Int) - 1 - ((0 : Nat) : Int) = (vs.length : Int) - 1 := by omega
    rw [e]
    exact hit
  · rintro i v m₁ news₁ s₁ own ⟨hh', tk', rfl⟩ hin hP ⟨c, rfl, hk₁, hPc⟩ hofs hown hget hall hst F₁ N₁
    obtain ⟨it, hit', hic, hid⟩ := hst.2.1
    have hmemI := hall D (List.mem_cons_self ..) hIx.2.2 _ hit'
    have hne' : ∀ p ∈ Led c, p.1 ≠ D := fun p hp e => hofs p hp (List.mem_singleton.mpr e)
    have hlt : i < vs.length := hin
    have hlt3 : ns.length - 1 - i < ns.length := by omega
    obtain ⟨t, hx⟩ := hi.get (ns.length - 1 - i) ns[ns.length - 1 - i] (by simp [hlt3])
    have hv : v = .int ns[ns.length - 1 - i] t := by
      have hP' : vs[vs.length - 1 - i]? = some v := by simpa using hP
      rw [hlen2, hx] at hP'
      exact (Option.some.inj hP').symm
    subst hv
    have hrev : ns.reverse[i]? = some ns[ns.length - 1 - i] := by
      rw [List.getElem?_reverse (by omega)]
      simp [hlt3]
    have e2 : (fun y => if y = x then some (Value.int ns[ns.length - 1 - i] t) else m₁ y) = fun y => if y = x then some (Value.int ns[ns.length - 1 - i] t) else kstB m₁ (ps c) y := by
      funext y
      by_cases hy : y = x
      · rw [if_pos hy, if_pos hy]
      · rw [if_neg hy, if_neg hy]
        exact (kstB_eq hk₁.all fun _ => rfl).symm
    rw [e2] at F₁
    have N₂ : News h₀ env.locals hh' ((D, it) :: Led c) := fun p hp => by
      rcases List.mem_cons.mp hp with rfl | hp
      · exact N₁ _ (List.mem_append_left _ hmemI)
      · exact N₁ _ (List.mem_append_right _ hp)
    refine wpAny_mono (turn c i _ t it m₁ hh' tk' hrev hPc hne' F₁ N₂) (fun f s₂ p => ?_) fun _ _ e => e
    have fin : (∃ h' tk m' c', s₂ = { s with heap := h', toks := tk } ∧ Fr h₀ env.locals h' m' ∧ News h₀ env.locals h' ((D, it) :: Led c') ∧ (∀ p ∈ Led c', p.1 ≠ D) ∧ Know m' (ps c') ∧ P (i + 1) c') →
        LoopStepU h₀ env.locals [D] own (fun m nx => ∃ c, nx = Led c ∧ Know m (ps c) ∧ P (i + 1) c) { s with heap := hh', toks := tk' } .next s₂ := by
      rintro ⟨h', tk, m', c', e, F', N', hn', hk', hP'⟩
      refine ⟨rfl, h', tk, m', Led c', e, F', fun p hp => ?_, fun p hp hI => hn' p hp (List.mem_singleton.mp hI), c', rfl, hk', hP'⟩
      rcases List.mem_append.mp hp with hp | hp
      · have h2 : hh'.get? p.1 = some p.2 := hget p hp
        rcases List.mem_cons.mp (hown p hp) with h1 | h1
        · have h3 : p = (D, it) := by
            rw [h1, hit'] at h2
            exact Prod.ext h1 (Option.some.inj h2).symm
          rw [h3]; exact N' _ (List.mem_cons_self ..)
        · have h1' : p.1 = l := List.mem_singleton.mp h1
          have h3 : p = (l, listOf vs.toArray k) := by
            rw [h1', (N₁ _ (List.mem_append_right _ (hl c))).1] at h2
            exact Prod.ext h1' (Option.some.inj h2).symm
          rw [h3]; exact N' _ (List.mem_cons_of_mem _ (hl c'))
      · exact N' _ (List.mem_cons_of_mem _ hp)
    cases f with
    | ret v => exact .ret p
    | brk => exact .brk p
    | next => exact .next (fin p)
    | cont => exact .cont (fin p)
  · rintro h' tk m' news' F' N' _ ⟨c, rfl, hk', hP'⟩
    rw [hlen2] at hP'
    exact done c m' h' tk hP' (fr_know hk'.all F') N'
end
end Mine
end

section
open PySem PySem.W PySem.Spec PySem.Calls PyProof.Rows
namespace Mine
set_option maxRecDepth 100000
set_option maxHeartbeats 8000000

/-- the tables of both makers -/
def TabsOk (T : List (Addr × Obj)) : Prop :=
  ∃ T1 T2, T = T1 ++ T2 ∧ TabOk 30 32 4 (Str.ofString "_int2digits.<locals>.inner") T1 ∧ TabOk 37 47 4 (Str.ofString "_digits2int.<locals>.inner") T2 ∧ Disj T1 T2

/-- the first is full -/
def TabsL (T : List (Addr × Obj)) : Prop :=
  ∃ T1 T2, T = T1 ++ T2 ∧ TabFull 30 32 4 (Str.ofString "_int2digits.<locals>.inner") T1 ∧ TabOk 37 47 4 (Str.ofString "_digits2int.<locals>.inner") T2 ∧ Disj T1 T2
/-- both are full -/
def TabsFull (T : List (Addr × Obj)) : Prop :=
  ∃ T1 T2, T = T1 ++ T2 ∧ TabFull 30 32 4 (Str.ofString "_int2digits.<locals>.inner") T1 ∧ TabFull 37 47 4 (Str.ofString "_digits2int.<locals>.inner") T2 ∧ Disj T1 T2
theorem TabsL.ok {T : List (Addr × Obj)} : TabsL T → TabsOk T := fun ⟨T1, T2, e, a, b, d⟩ => ⟨T1, T2, e, .inr a, b, d⟩
theorem TabsFull.l {T : List (Addr × Obj)} : TabsFull T → TabsL T := fun ⟨T1, T2, e, a, b, d⟩ => ⟨T1, T2, e, a, .inr b, d⟩
theorem TabsFull.ok {T : List (Addr × Obj)} (h : TabsFull T) : TabsOk T := h.l.ok
section
variable {P P' : Addr} {line col line' col' : Nat} {qual qual' : Str} {T1 T2 S1 S2 : List (Addr × Obj)}
theorem full_left (h1 : TabOk P line col qual T1) (hs : TabFull P line col qual S1) (e : T1 ++ T2 = S1 ++ S2) : T1 = S1 ∧ T2 = S2 := by
  obtain ⟨c, oc, vs, t, rfl, _⟩ := hs
  rcases h1 with rfl | ⟨c', oc', vs', t', rfl, _⟩
  · simp at e
  · simp only [List.cons_append, List.nil_append, List.cons.injEq] at e
    obtain ⟨e1, e2, e3⟩ := e
    exact ⟨by rw [e1, e2], e3⟩
end

theorem Disj.symm {a b : List (Addr × Obj)} (h : Disj a b) : Disj b a := fun p hp q hq e => h q hq p hp e.symm
theorem disj_appL {a b c : List (Addr × Obj)} : Disj (a ++ b) c ↔ Disj a c ∧ Disj b c :=
  ⟨fun h => ⟨fun p hp => h p (List.mem_append_left _ hp), fun p hp => h p (List.mem_append_right _ hp)⟩, fun h p hp => (List.mem_append.mp hp).elim (h.1 p) (h.2 p)⟩
theorem disj_appR {a b c : List (Addr × Obj)} : Disj a (b ++ c) ↔ Disj a b ∧ Disj a c :=
  ⟨fun h => ⟨fun p hp q hq => h p hp q (List.mem_append_left _ hq), fun p hp q hq => h p hp q (List.mem_append_right _ hq)⟩, fun h p hp q hq => (List.mem_append.mp hq).elim (h.1 p hp q) (h.2 p hp q)⟩
theorem disj_consL {x : Addr × Obj} {a c : List (Addr × Obj)} : Disj (x :: a) c ↔ AllNe x.1 c ∧ Disj a c :=
  ⟨fun h => ⟨allNe_of fun q hq e => h x (List.mem_cons_self ..) q hq e.symm, fun p hp => h p (List.mem_cons_of_mem _ hp)⟩, fun h p hp q hq => by
    rcases List.mem_cons.mp hp with rfl | hp
    · exact fun e => h.1.out q hq e.symm
    · exact h.2 p hp q hq⟩
theorem disj_consR {x : Addr × Obj} {a c : List (Addr × Obj)} : Disj c (x :: a) ↔ AllNe x.1 c ∧ Disj c a :=
  ⟨fun h => ⟨(disj_consL.mp h.symm).1, (disj_consL.mp h.symm).2.symm⟩, fun h => (disj_consL.mpr ⟨h.1, h.2.symm⟩).symm⟩
theorem disj_nilR {b : List (Addr × Obj)} : Disj b [] := fun _ _ _ h => nomatch h

theorem c_int2digitsT {w : World} {x : Int} {n : Nat} {t1 t2 : Tok} (h0 : 0 ≤ x) (h1 : x < 65536) (hn : 0 < n) (hn1 : n ≤ 16) :
    Gives w 35 [.int x t1, .int (n : Int) t2] 17 (fun act _ => TabsOk act) (fun act _ v act' => ∃ (l : Nat) (vs : List Value) (k : Nat) (T' : List (Addr × Obj)), v = .ref l ∧ act' = (l, listOf vs.toArray k) :: T' ∧ IntsAre vs (digs n (cnt n x) x) ∧ TabsL T' ∧ AllNe l T' ∧ (TabsFull act → T' = act)) := by
  unfold Gives
  intro p loose mean mg mb dp un gd cn cs a ccd cl outer A₀ base h₀ L m act rest s Q E B F X N hdis T hk hp hd hu hret
  obtain ⟨T1, T2, rfl, o1, o2, dT⟩ := hp
  rw [List.append_assoc] at N
  have hdis2 := disj_appL.mp hdis
  refine Gives.use (c_int2digits h0 h1 hn hn1) B F X N (disj_appR.mpr ⟨dT, hdis2.1⟩) T hk o1 hd hu ?_
  rintro v act' h' tk' F' N' hd' ⟨l, vs, k, T', rfl, rfl, hi, hT', hl, hkeep⟩
  rw [← List.append_assoc] at N'
  obtain ⟨e1, e2⟩ := disj_appR.mp hd'
  obtain ⟨e3, e4⟩ := disj_consL.mp e1
  refine hret _ ((l, listOf vs.toArray k) :: (T' ++ T2)) h' tk' F' N' (disj_appL.mpr ⟨e2, hdis2.2⟩) ⟨l, vs, k, T' ++ T2, rfl, rfl, hi, ⟨T', T2, rfl, hT', o2, e4⟩, allNe_of fun p hp => (List.mem_append.mp hp).elim (hl.out p) (e3.out p), ?_⟩
  rintro ⟨S1, S2, e, s1, s2, _⟩
  obtain ⟨rfl, rfl⟩ := full_left o1 s1 e
  rw [hkeep s1]

theorem news_sub {h₀ h : Heap} {L : Addr} {a b : List (Addr × Obj)} (N : News h₀ L h a) (hs : ∀ p ∈ b, p ∈ a) : News h₀ L h b := fun p hp => N p (hs p hp)

theorem c_digits2intT {w : World} {n : Nat} {l : Addr} {vs : List Value} {k : Nat} {ns : List Int} {t2 : Tok} (hi : IntsAre vs ns) (hn1 : n ≤ 16) (hns : ∀ d ∈ ns, 0 ≤ d ∧ d < 2 ^ n) (h60 : n * ns.length ≤ 60) (h16 : ns.length ≤ 16) :
    Gives w 42 [.ref l, .int (n : Int) t2] 17 (fun act _ => ∃ T, act = (l, listOf vs.toArray k) :: T ∧ TabsOk T ∧ AllNe l T)
      (fun act _ v act' => ∃ (t : Tok) (T' : List (Addr × Obj)), v = .int (dval n ns) t ∧ act' = (l, listOf vs.toArray k) :: T' ∧ TabsOk T' ∧ AllNe l T' ∧ ∀ T, act = (l, listOf vs.toArray k) :: T → (TabsL T → TabsFull T') ∧ (TabsFull T → T' = T)) := by
  unfold Gives
  intro p loose mean mg mb dp un gd cn cs a ccd cl outer A₀ base h₀ L m act rest s Q E B F X N hdis T hk hp hd hu hret
  obtain ⟨_, rfl, ⟨T1, T2, rfl, o1, o2, dT⟩, hl⟩ := hp
  have hl1 : AllNe l T1 := allNe_of fun p hp => hl.out p (List.mem_append_left _ hp)
  have hl2 : AllNe l T2 := allNe_of fun p hp => hl.out p (List.mem_append_right _ hp)
  obtain ⟨d1, d2⟩ := disj_consL.mp hdis
  obtain ⟨d3, d4⟩ := disj_appL.mp d2
  refine Gives.use (c_digits2int (l := l) (vs := vs) (k := k) (ns := ns) (n := n) (t2 := t2) hi hn1 hns h60 h16) (act := (l, listOf vs.toArray k) :: T2) (rest := T1 ++ rest) B F X (news_sub N fun p hp => ?_) ?_ T hk ⟨T2, rfl, o2, hl2⟩ hd hu ?_
  · simp only [List.mem_append, List.mem_cons] at hp ⊢
    rcases hp with (h | h) | h | h <;> simp [h]
  · exact disj_consL.mpr ⟨allNe_of fun p hp => (List.mem_append.mp hp).elim (hl1.out p) (d1.out p), disj_appR.mpr ⟨dT.symm, d4⟩⟩
  rintro v act' h' tk' F' N' hd' ⟨t, T', rfl, rfl, hT', hlT, hkeep⟩
  obtain ⟨e1, e2⟩ := disj_consL.mp hd'
  obtain ⟨e3, e4⟩ := disj_appR.mp e2
  refine hret _ ((l, listOf vs.toArray k) :: (T1 ++ T')) h' tk' F' (news_sub N' fun p hp => ?_) (disj_consL.mpr ⟨d1, disj_appL.mpr ⟨d3, e4⟩⟩) ⟨t, T1 ++ T', rfl, rfl, ⟨T1, T', rfl, o1, .inr hT', e3.symm⟩, allNe_of fun p hp => (List.mem_append.mp hp).elim (hl1.out p) (hlT.out p), ?_⟩
  · simp only [List.mem_append, List.mem_cons] at hp ⊢
    rcases hp with (h | h | h) | h <;> simp [h]
  · intro T9 e9
    cases e9
    refine ⟨?_, ?_⟩
    · rintro ⟨S1, S2, e, s1, s2, _⟩
      obtain ⟨rfl, rfl⟩ := full_left o1 s1 e
      exact ⟨T1, T', rfl, s1, hT', e3.symm⟩
    · rintro ⟨S1, S2, e, s1, s2, _⟩
      obtain ⟨rfl, rfl⟩ := full_left o1 s1 e
      rw [hkeep T2 rfl s2]

section
variable {d : Nat} {T : List (Addr × Obj)} {a b c e : Nat}
theorem tail0 (h : ∀ p ∈ T, @LT.lt Nat _ p.1 d) : ∀ p ∈ T, p.1 ≠ d := fun p hp => Nat.ne_of_lt (h p hp)
theorem tail1 (h : a < d ∧ AllLt d T) : ∀ p ∈ T, p.1 ≠ d := fun p hp => Nat.ne_of_lt (ktn_ltOf h.2 p hp)
theorem tail2 (h : a < d ∧ b < d ∧ AllLt d T) : ∀ p ∈ T, p.1 ≠ d := fun p hp => Nat.ne_of_lt (ktn_ltOf h.2.2 p hp)
theorem tail3 (h : a < d ∧ b < d ∧ c < d ∧ AllLt d T) : ∀ p ∈ T, p.1 ≠ d := fun p hp => Nat.ne_of_lt (ktn_ltOf h.2.2.2 p hp)
theorem tail4 (h : a < d ∧ b < d ∧ c < d ∧ e < d ∧ AllLt d T) : ∀ p ∈ T, p.1 ≠ d := fun p hp => Nat.ne_of_lt (ktn_ltOf h.2.2.2.2 p hp)
end
end Mine
end

section
open PySem PySem.W PySem.Spec PySem.Calls PyProof.Rows
namespace Mine

/-- one turn of the long division -/
def dstep (n : Nat) (b : Int) (st : List Int × Int) (d : Int) : List Int × Int :=
  (st.1 ++ [(st.2 * 2 ^ n + d).fdiv b], (st.2 * 2 ^ n + d).fmod b)

def dsteps (n : Nat) (b : Int) (ds : List Int) : List Int × Int := ds.foldl (dstep n b) ([], 0)

theorem dsteps_snoc (n : Nat) (b : Int) (ds : List Int) (d : Int) : dsteps n b (ds ++ [d]) = dstep n b (dsteps n b ds) d := by
  simp [dsteps]

theorem dstep_bounds {n : Nat} {b r d : Int} (hb : 0 < b) (h0 : 0 ≤ r) (h1 : r < b) (hd : 0 ≤ d ∧ d < 2 ^ n) :
    0 ≤ r * 2 ^ n + d ∧ r * 2 ^ n + d < b * 2 ^ n ∧ 0 ≤ (r * 2 ^ n + d).fdiv b ∧ (r * 2 ^ n + d).fdiv b < 2 ^ n ∧ 0 ≤ (r * 2 ^ n + d).fmod b ∧ (r * 2 ^ n + d).fmod b < b := by
  have hp := two_pos n
  have e0 : 0 ≤ r * 2 ^ n := Int.mul_nonneg h0 (by omega)
  have e1 : (r + 1) * 2 ^ n ≤ b * 2 ^ n := Int.mul_le_mul_of_nonneg_right (by omega) (by omega)
  rw [Int.add_mul] at e1
  have e2 : r * 2 ^ n + d < b * 2 ^ n := by omega
  rw [Int.fdiv_eq_ediv_of_nonneg _ (by omega), Int.fmod_eq_emod_of_nonneg _ (by omega)]
  refine ⟨by omega, e2, Int.ediv_nonneg (by omega) (by omega), Int.ediv_lt_of_lt_mul hb (by rw [Int.mul_comm (2 ^ n) b]; exact e2), Int.emod_nonneg _ (by omega), Int.emod_lt_of_pos _ hb⟩

theorem dsteps_bounds {n : Nat} {b : Int} (hb : 0 < b) (ds : List Int) (hds : ∀ d ∈ ds, 0 ≤ d ∧ d < 2 ^ n) :
    0 ≤ (dsteps n b ds).2 ∧ (dsteps n b ds).2 < b ∧ (∀ d ∈ (dsteps n b ds).1, 0 ≤ d ∧ d < 2 ^ n) ∧ (dsteps n b ds).1.length = ds.length := by
  suffices h : ∀ (ds : List Int) (st : List Int × Int), (∀ d ∈ ds, 0 ≤ d ∧ d < 2 ^ n) → 0 ≤ st.2 → st.2 < b → (∀ d ∈ st.1, 0 ≤ d ∧ d < 2 ^ n) →
      0 ≤ (ds.foldl (dstep n b) st).2 ∧ (ds.foldl (dstep n b) st).2 < b ∧ (∀ d ∈ (ds.foldl (dstep n b) st).1, 0 ≤ d ∧ d < 2 ^ n) ∧ (ds.foldl (dstep n b) st).1.length = st.1.length + ds.length by
    have := h ds ([], 0) hds (by decide) hb (fun _ h => nomatch h)
    simpa [dsteps] using this
  intro ds
  induction ds with
  | nil => intro st _ h0 h1 h2; exact ⟨h0, h1, h2, by simp⟩
  | cons d r ih =>
    intro st hds h0 h1 h2
    have hd := hds d (List.mem_cons_self ..)
    obtain ⟨b1, b2, b3, b4, b5, b6⟩ := dstep_bounds (n := n) hb h0 h1 hd
    have := ih (dstep n b st d) (fun e he => hds e (List.mem_cons_of_mem _ he)) b5 b6 (by
      intro e he
      simp only [dstep, List.mem_append, List.mem_singleton] at he
      rcases he with he | rfl
      · exact h2 e he
      · exact ⟨b3, b4⟩)
    rw [List.foldl_cons]
    refine ⟨this.1, this.2.1, this.2.2.1, ?_⟩
    rw [this.2.2.2]
    simp [dstep]
    omega

theorem dsteps_value {n : Nat} {b : Int} (ds : List Int) : dval n (dsteps n b ds.reverse).1.reverse * b + (dsteps n b ds.reverse).2 = dval n ds := by
  induction ds with
  | nil => simp [dsteps, dval]
  | cons d r ih =>
    rw [List.reverse_cons, dsteps_snoc]
    simp only [dstep, List.reverse_append, List.reverse_cons, List.reverse_nil, List.nil_append, List.cons_append, dval]
    have e := Int.fmod_add_fdiv_mul ((dsteps n b r.reverse).2 * 2 ^ n + d) b
    generalize ((dsteps n b r.reverse).2 * 2 ^ n + d).fdiv b = q at e ⊢
    generalize ((dsteps n b r.reverse).2 * 2 ^ n + d).fmod b = m at e ⊢
    rw [Int.add_mul]
    have e2 : dval n r * 2 ^ n = dval n (dsteps n b r.reverse).1.reverse * 2 ^ n * b + (dsteps n b r.reverse).2 * 2 ^ n := by
      rw [← ih, Int.add_mul, Int.mul_assoc, Int.mul_assoc, Int.mul_comm b]
    omega

theorem dval_digs (n k : Nat) (x : Int) : dval n (digs n k x) = x % 2 ^ (n * k) := by
  induction k generalizing x with
  | zero => simp [digs, dval, Int.emod_one]
  | succ k ih =>
    simp only [digs, dval]
    rw [ih, Nat.mul_succ, Nat.add_comm (n * k) n, ← mod_div_pow, ← mod_mod_pow x n (n * k)]
    have := Int.emod_add_ediv_mul (x % 2 ^ (n + n * k)) (2 ^ n)
    omega

theorem digs_bounds (n k : Nat) (x : Int) : ∀ d ∈ digs n k x, 0 ≤ d ∧ d < 2 ^ n := by
  have hp := two_pos n
  induction k generalizing x with
  | zero => intro d hd; exact nomatch hd
  | succ k ih =>
    intro d hd
    rcases List.mem_cons.mp hd with rfl | hd
    · exact ⟨Int.emod_nonneg _ (by omega), Int.emod_lt_of_pos _ hp⟩
    · exact ih _ d hd

/-- the long division gives quotient and rest -/
theorem divides {n k : Nat} {x b : Int} (hx : 0 ≤ x) (hk : x < 2 ^ (n * k)) (hb : 0 < b) :
    dval n (dsteps n b (digs n k x).reverse).1.reverse = x / b ∧ (dsteps n b (digs n k x).reverse).2 = x % b := by
  have h1 := dsteps_value (n := n) (b := b) (digs n k x)
  rw [dval_digs, Int.emod_eq_of_lt hx hk] at h1
  obtain ⟨h2, h3, _, _⟩ := dsteps_bounds (n := n) hb (digs n k x).reverse (fun d hd => digs_bounds n k x d (List.mem_reverse.mp hd))
  have := (Int.ediv_emod_unique (a := x) (b := b) (r := (dsteps n b (digs n k x).reverse).2) (q := dval n (dsteps n b (digs n k x).reverse).1.reverse) hb).mpr ⟨by rw [Int.mul_comm]; omega, h2, h3⟩
  exact ⟨this.1.symm, this.2.symm⟩
end Mine
end

section
open PySem PySem.W PySem.Spec PySem.Calls PyProof.Rows
namespace Mine
set_option maxRecDepth 100000
set_option maxHeartbeats 8000000
local macro_rules | `(tactic| k_all) => `(tactic| first | exact AllNe.out (by assumption) | exact tail1 (by assumption) | exact tail2 (by assumption) | exact tail3 (by assumption) | exact tail4 (by assumption) | exact tail0 (by assumption))
local macro_rules | `(tactic| walk_at "call builtin:list.append") => `(tactic| (k_here; (try dsimp only [List.cons_append, List.nil_append]); (with_reducible show wpAny _ _ (call (Value.builtin _) [Value.ref _, _]) _ _ _); k_dflt (refine' append_K ?k1 ?k2 ?k3 ?_ ?z; (case k1 => k_asm); (case k2 => k_asm); (case k3 => k_upd); (case z => assumption); k_whole); intro h' F' N'; (try k_sweep)))

theorem news_nilR {h₀ h : Heap} {L : Addr} {a : List (Addr × Obj)} (N : News h₀ L h a) : News h₀ L h (a ++ []) := by rw [List.append_nil]; exact N

theorem cnt_mul {x : Int} {n : Nat} (h : 0 ≤ x) (hn : 0 < n) : n * cnt n x ≤ Builtin.Int.intBits x + n := by
  unfold cnt
  rw [Int.fdiv_eq_ediv_of_nonneg _ (by omega)]
  have e : (((Builtin.Int.intBits x : Int) + (n : Int) - 1) / (n : Int)) = (((Builtin.Int.intBits x + (n - 1)) / n : Nat) : Int) := by
    rw [Int.natCast_ediv]
    congr 1
    omega
  rw [e, Int.toNat_natCast]
  have h1 := Nat.mul_div_le (Builtin.Int.intBits x + (n - 1)) n
  omega

theorem sub_mid {a b c : Addr × Obj} {T : List (Addr × Obj)} : ∀ p ∈ a :: T, p ∈ a :: b :: (T ++ [c]) := fun p hp => by
  simp only [List.mem_append, List.mem_cons] at hp ⊢
  rcases hp with h | h <;> simp [h]

structure StD where
  qs : List Value
  k : Nat
  qns : List Int
  r : Int
  t : Tok
  tn : Tok

theorem c_divmod_pos {w : World} {x b : Int} {t1 t2 : Tok} (h0 : 0 ≤ x) (h1 : x < 4096) (hb : 0 < b) (hb1 : b < 256) :
    Gives w 49 [.int x t1, .int b t2] 18 (fun act _ => TabsOk act) (fun act _ v act' => ∃ (d : Nat) (t t' : Tok) (T' : List (Addr × Obj)), v = .ref d ∧ act' = (d, tup2 (x / b) t (x % b) t') :: T' ∧ TabsFull T' ∧ AllNe d T' ∧ (TabsFull act → T' = act)) := by
  w_on
  unfold Gives
  k_fill
  intro p loose mean mg mb dp un gd cn cs a ccd cl outer A₀ base h₀ L m act rest s Q E B F X N hdis T hk hp hd hu hret
  have hbits := bits_le (k := 8) (x := b) (by omega) (by omega)
  have hbits0 := bits_pos (x := b) (by omega) (by omega)
  have hcnt16 : cnt (Builtin.Int.intBits b) x ≤ 16 := by
    have := (cnt_bounds (n := (Builtin.Int.intBits b : Int)) (bits_le (k := 16) (x := x) h0 (by omega)) (by omega)).2.1
    unfold cnt
    omega
  have hcnt := cnt_enough (n := Builtin.Int.intBits b) h0 hbits0
  refine wpAny_call ?_
  k_dflt (refine' code_defF ?k1u22 ?k2u22 ?k3u22 ?k4u22 ?kDisu22 ?k5u22 ?kAu22 ?kFu22 ?kKu22 ?k6u22 ?k7u22 ?k8u22 ?k9u22 ?kBu22 ?_ ?c2u22 ?c3u22 ?c4u22 ?c5u22; (case kAu22 => exact rfl); (case kFu22 => exact rfl); (case kKu22 => assumption); (case k1u22 => k_asm); (case k2u22 => k_asm); (case k3u22 => k_asm); (case k4u22 => k_asm); (case kDisu22 => k_asm); (case k5u22 => k_asm); (case k6u22 => k_is); (case k7u22 => k_is); (case k8u22 => ktr_room); (case k9u22 => exact BindsTo.of_eq rfl); (case c5u22 => decide); (case kBu22 => exact locs rfl); (case c2u22 => exact rfl); (case c3u22 => exact rfl); (case c4u22 => exact rfl); k_whole; intro g' L' h' FG' F' N' B' X' T' hg l1; (try k_lt l1); (try dsimp only); (try k_lift B'); (try k_fold))
  k_steps
  k_dflt (refine' Gives.use (c_int2digitsT (n := Builtin.Int.intBits b) h0 (by omega) hbits0 (by omega)) (act := act) (rest := []) ?kBca ?kFca ?kXca ?kNca disj_nilR ?kTca ?kkca hp ?kdca ?kuca ?_; (case kBca => k_asm); (case kFca => k_asm); (case kXca => k_asm); (case kNca => exact news_nilR (by k_asm)); (case kTca => k_asm); (case kkca => first | exact rfl | assumption); (case kdca => ktr_room); (case kuca => ktr_units))
  rintro _ _ h2 tk2 F2 N2 D2 ⟨l, vs, k, T1, rfl, rfl, hi, hT1, hl, hkp1⟩
  rw [List.append_nil] at N2
  k_steps
  rename_i q hq2 l1a hq1 Dv hq0 Fq Nq l1b
  obtain ⟨m0, Fm, tr, tn, hkn⟩ : ∃ m0, Fr g' L' hq0 m0 ∧ ∃ tr tn, Know m0 [(Str.ofString "b", Value.int b t2), (Str.ofString "n", Value.int (Builtin.Int.intBits b : Int) tn), (Str.ofString "q_digits", Value.ref q), (Str.ofString "r", Value.int 0 tr)] := by
    with_unfolding_all exact ⟨_, Fq, _, _, .cons rfl (.cons rfl (.cons rfl (.cons rfl .nil)))⟩
  have hlq : l < q := l1a.1
  have hoff : ∀ p ∈ (q, listOf ([] : List Value).toArray 0) :: (l, listOf vs.toArray k) :: T1, p.1 ≠ Dv := by
    intro p hp
    rcases List.mem_cons.mp hp with rfl | hp
    · exact Nat.ne_of_lt l1b.1
    · rcases List.mem_cons.mp hp with rfl | hp
      · exact Nat.ne_of_lt l1b.2.1
      · exact tail2 l1b p hp
  (with_unfolding_all refine' rev_inv (σ := StD) (l := l) (D := Dv) (k := k) (vs := vs) (ns := digs (Builtin.Int.intBits b) (cnt (Builtin.Int.intBits b) x) x) (fun c => (q, listOf c.qs.toArray c.k) :: (l, listOf vs.toArray k) :: T1) (fun c => [(Str.ofString "b", Value.int b t2), (Str.ofString "n", Value.int (Builtin.Int.intBits b : Int) c.tn), (Str.ofString "q_digits", Value.ref q), (Str.ofString "r", Value.int c.r c.t)]) (fun i c => IntsAre c.qs c.qns ∧ (c.qns, c.r) = dsteps (Builtin.Int.intBits b) b ((digs (Builtin.Int.intBits b) (cnt (Builtin.Int.intBits b) x) x).reverse.take i)) ⟨[], 0, [], 0, tr, tn⟩ (by rfl) (fun c => .tail _ (.head _)) hi Fm Nq hoff hkn ⟨.nil, rfl⟩ (fun c i d t it u hh tkk hd9 hP hne F3 N3 => ?_) (fun c u hh tkk hP F3 N3 => ?_))
  · clear Fq Nq Fm
    obtain ⟨hP1, hP2⟩ := hP
    have hne' := allNe_of hne
    simp only [AllNe] at hne'
    have hmem := List.mem_of_getElem? hd9
    have hdig := digs_bounds _ _ _ d (List.mem_reverse.mp hmem)
    obtain ⟨b0, b1, _, _⟩ := dsteps_bounds (n := Builtin.Int.intBits b) hb ((digs (Builtin.Int.intBits b) (cnt (Builtin.Int.intBits b) x) x).reverse.take i) (fun e he => digs_bounds _ _ _ e (List.mem_reverse.mp (List.mem_of_mem_take he)))
    rw [← hP2] at b0 b1
    dsimp only at b0 b1
    obtain ⟨s1, s2, _⟩ := dstep_bounds hb b0 b1 hdig
    have hlen : i < cnt (Builtin.Int.intBits b) x := by
      have h9 := (List.getElem?_eq_some_iff.mp hd9).1
      rwa [List.length_reverse, digs_length] at h9
    have hlen2 : c.qs.length = i := by
      have h9 := (dsteps_bounds (n := Builtin.Int.intBits b) hb ((digs (Builtin.Int.intBits b) (cnt (Builtin.Int.intBits b) x) x).reverse.take i) (fun e he => digs_bounds _ _ _ e (List.mem_reverse.mp (List.mem_of_mem_take he)))).2.2.2
      rw [← hP2, List.length_take, List.length_reverse, digs_length] at h9
      rw [hP1.length, h9]
      omega
    have hsz : c.qs.toArray.size ≤ sizeLine := by
      rw [List.size_toArray, sizeLine_eq]
      omega
    (try k_fold)
    k_steps
    have hb4 : b * 2 ^ Builtin.Int.intBits b ≤ 65280 := by
      have h1 : (2 : Int) ^ Builtin.Int.intBits b ≤ 2 ^ 8 := by
        rw [← kbt_cast, ← kbt_cast]
        exact Int.ofNat_le.mpr (Nat.pow_le_pow_right (by decide) hbits)
      have h2 := Int.mul_le_mul_of_nonneg_left h1 (Int.le_of_lt hb)
      omega
    k_dflt (refine' Gives.use (c_div2n1n (x := c.r * 2 ^ Builtin.Int.intBits b + d) (b := b) (n := (Builtin.Int.intBits b : Int)) s1 (by omega) hb (by omega) (by omega) (by omega)) (act := []) (rest := (Dv, it) :: (q, listOf c.qs.toArray c.k) :: (l, listOf vs.toArray k) :: T1) ?kBcb ?kFcb ?kXcb ?kNcb disj_nil ?kTcb ?kkcb rfl ?kdcb ?kucb ?_; (case kNcb => k_asm); (case kBcb => k_asm); (case kFcb => k_asm); (case kXcb => k_asm); (case kTcb => k_asm); (case kkcb => first | exact rfl | assumption); (case kdcb => ktr_room); (case kucb => ktr_units))
    rintro _ _ h5 tk5 F5 N5 D5 ⟨dd, ta, tb, rfl, rfl⟩
    have D5' := (disj_consL.mp D5).1
    simp only [AllNe] at D5'
    simp only [List.cons_append, List.nil_append] at N5
    k_steps
    rename News _ _ _ _ => N9
    simp only [List.push_toArray] at N9
    refine RPost.next ⟨c.qs ++ [.int ((c.r * 2 ^ Builtin.Int.intBits b + d).fdiv b) ta], c.k + 1, c.qns ++ [(c.r * 2 ^ Builtin.Int.intBits b + d).fdiv b], (c.r * 2 ^ Builtin.Int.intBits b + d).fmod b, tb, c.tn⟩ (by k_asm) (news_sub N9 fun p hp => .tail _ hp) ?_ (by with_unfolding_all exact .cons rfl (.cons rfl (.cons rfl (.cons rfl .nil)))) ⟨hP1.append (.cons _ _ .nil), ?_⟩
    · intro p hp
      rcases List.mem_cons.mp hp with rfl | hp
      · exact hne'.1
      · exact hne p (.tail _ hp)
    · rw [List.take_add_one, hd9, Option.toList_some, dsteps_snoc, ← hP2]
      rfl
  · dsimp only
    obtain ⟨hP1, hP2⟩ := hP
    rw [show (digs (Builtin.Int.intBits b) (cnt (Builtin.Int.intBits b) x) x).length = (digs (Builtin.Int.intBits b) (cnt (Builtin.Int.intBits b) x) x).reverse.length by rw [List.length_reverse], List.take_length] at hP2
    obtain ⟨v1, v2⟩ := divides h0 hcnt hb
    rw [← hP2] at v1 v2
    dsimp only at v1 v2
    obtain ⟨_, _, w3, w4⟩ := dsteps_bounds (n := Builtin.Int.intBits b) hb ((digs (Builtin.Int.intBits b) (cnt (Builtin.Int.intBits b) x) x).reverse) (fun e he => digs_bounds _ _ _ e (List.mem_reverse.mp he))
    rw [← hP2] at w3 w4
    rw [List.length_reverse, digs_length] at w4
    dsimp only at w3 w4
    have hlen2 : c.qs.length ≤ 16 := by rw [hP1.length, w4]; exact hcnt16
    (try k_fold)
    k_steps
    dsimp only
    k_dflt (refine' kl_reverse (its := c.qs.toArray) (l := c.qs.reverse) ?za ?zb ?zc ?zd ?ze ?_)
    case za => k_asm
    case zb => k_asm
    case zc => rfl
    case zd => k_upd
    case ze => show c.qs.length ≤ _; rw [sizeLine_eq]; omega
    intro h7 F7 N7
    k_steps
    have hcm : Builtin.Int.intBits b * cnt (Builtin.Int.intBits b) x ≤ 60 := Nat.le_trans (cnt_mul h0 hbits0) (by have := bits_le (k := 12) h0 (by omega); omega)
    k_dflt (refine' Gives.use (c_digits2intT (n := Builtin.Int.intBits b) (l := q) (vs := c.qs.reverse) (k := c.k) (ns := c.qns.reverse) hP1.reverse (by omega) (fun e he => w3 e (List.mem_reverse.mp he)) (by rw [List.length_reverse, w4]; exact hcm) (by rw [List.length_reverse, w4]; exact hcnt16)) (act := (q, listOf c.qs.reverse.toArray c.k) :: T1) (rest := [(l, listOf vs.toArray k)]) ?kBcc ?kFcc ?kXcc (news_sub N7 fun p hp => ?kNcc) ?kDiscc ?kTcc ?kkcc ⟨T1, rfl, hT1.ok, allNe_of (tail1 l1a)⟩ ?kdcc ?kucc ?_; (case kDiscc => exact disj_consL.mpr ⟨⟨Nat.ne_of_lt hlq, trivial⟩, disj_consR.mpr ⟨hl, disj_nilR⟩⟩); (case kBcc => k_asm); (case kFcc => k_asm); (case kXcc => k_asm); (case kTcc => k_asm); (case kkcc => first | exact rfl | assumption); (case kdcc => ktr_room); (case kucc => ktr_units))
    · simp only [List.mem_append, List.mem_cons, List.not_mem_nil, or_false] at hp ⊢
      rcases hp with (h | h) | h <;> simp [h]
    rintro _ _ h8 tk8 F8 N8 D8 ⟨t8, T8, rfl, rfl, hT8, hq8, hkp8⟩
    simp only [List.cons_append] at N8
    k_steps
    rename News _ _ _ _ => N10
    rename_i D9 h9 F9 N9 l9 kF9 Tc9 kX9
    rw [← v1, ← v2] at hret
    exact fun hN => hret (.ref D9) ((D9, tup2 (dval (Builtin.Int.intBits b) c.qns.reverse) t8 c.r c.t) :: T8) _ _ (by k_asm) (news_join N (news_sub N10 sub_mid) hN) (disj_of_kept (news_sub N9 sub_mid) hg) ⟨D9, t8, c.t, T8, rfl, rfl, (hkp8 T1 rfl).1 hT1, allNe_of fun p hp => tail1 l9 p (List.mem_append_left _ hp), fun hf => by
      have e1 := hkp1 hf
      rw [← e1] at hf
      rw [(hkp8 T1 rfl).2 hf, e1]⟩
end Mine
end

section
open PySem PySem.W PySem.Spec PySem.Calls PyProof.Rows
namespace Mine
set_option maxRecDepth 100000
set_option maxHeartbeats 8000000
local macro_rules | `(tactic| k_all) => `(tactic| first | exact AllNe.out (by assumption) | exact tail1 (by assumption) | exact tail2 (by assumption) | exact tail3 (by assumption) | exact tail4 (by assumption) | exact tail0 (by assumption))
local macro_rules | `(tactic| walk_at "call builtin:list.append") => `(tactic| (k_here; (try dsimp only [List.cons_append, List.nil_append]); (with_reducible show wpAny _ _ (call (Value.builtin _) [Value.ref _, _]) _ _ _); k_dflt (refine' append_K ?k1 ?k2 ?k3 ?_ ?z; (case k1 => k_asm); (case k2 => k_asm); (case k3 => k_upd); (case z => assumption); k_whole); intro h' F' N'; (try k_sweep)))

/-- quotient and rest in a new tuple; the tables stay as they must -/
def DivOut (q r : Int) (act _ : List (Addr × Obj)) (v : Value) (act' : List (Addr × Obj)) : Prop :=
  ∃ (d : Nat) (t t' : Tok) (T' : List (Addr × Obj)), v = .ref d ∧ act' = (d, tup2 q t r t') :: T' ∧ TabsFull T' ∧ AllNe d T' ∧ (TabsFull act → T' = act)

theorem c_int_divmod {w : World} {x b : Int} {t1 t2 : Tok} (h0 : 0 ≤ x) (h1 : x < 4096) (hb : 0 < b) (hb1 : b < 256) :
    Gives w 56 [.int x t1, .int b t2] 19 (fun act _ => TabsOk act) (DivOut (x / b) (x % b)) := by
  w_on
  unfold Gives
  k_fill
  intro p loose mean mg mb dp un gd cn cs a ccd cl outer A₀ base h₀ L m act rest s Q E B F X N hdis T hk hp hd hu hret
  have hne : b ≠ 0 := by omega
  have hnl : ¬ b < 0 := by omega
  have hnx : ¬ x < 0 := by omega
  refine wpAny_call ?_
  k_dflt (refine' code_defF ?k1u26 ?k2u26 ?k3u26 ?k4u26 ?kDisu26 ?k5u26 ?kAu26 ?kFu26 ?kKu26 ?k6u26 ?k7u26 ?k8u26 ?k9u26 ?kBu26 ?_ ?c2u26 ?c3u26 ?c4u26 ?c5u26; (case kAu26 => exact rfl); (case kFu26 => exact rfl); (case kKu26 => assumption); (case k1u26 => k_asm); (case k2u26 => k_asm); (case k3u26 => k_asm); (case k4u26 => k_asm); (case kDisu26 => k_asm); (case k5u26 => k_asm); (case k6u26 => k_is); (case k7u26 => k_is); (case k8u26 => ktr_room); (case k9u26 => exact BindsTo.of_eq rfl); (case c5u26 => decide); (case kBu26 => exact locs rfl); (case c2u26 => exact rfl); (case c3u26 => exact rfl); (case c4u26 => exact rfl); k_whole; intro g' L' h' FG' F' N' B' X' T' hg l1; (try k_lt l1); (try dsimp only); (try k_lift B'); (try k_fold))
  k_steps
  · exact absurd (by assumption) hne
  k_dflt (refine' Gives.use (c_divmod_pos h0 h1 hb hb1) (act := act) (rest := []) ?kBca ?kFca ?kXca (news_nilR ?kNca) disj_nilR ?kTca ?kkca hp ?kdca ?kuca ?_; (case kNca => k_asm); (case kBca => k_asm); (case kFca => k_asm); (case kXca => k_asm); (case kTca => k_asm); (case kkca => first | exact rfl | assumption); (case kdca => ktr_room); (case kuca => ktr_units))
  rintro _ _ h2 tk2 F2 N2 D2 ⟨d, t, t', T1, rfl, rfl, hT1, hl, hkp⟩
  rw [List.append_nil] at N2
  k_steps
  exact fun hN => hret _ _ _ _ (by k_asm) (news_join N (by k_asm) hN) (disj_of_kept N2 hg) ⟨d, t, t', T1, rfl, rfl, hT1, hl, hkp⟩
end Mine
end

section
open PySem PySem.W PySem.Spec PySem.Calls PyProof.Rows
namespace Mine
set_option maxRecDepth 100000
set_option maxHeartbeats 4000000

/-- the walk halts here -/
def Halt (P : Prop) : Prop := P
theorem Halt.out {P : Prop} (h : Halt P) : P := h
theorem Halt.on {P : Prop} (h : P) : Halt P := h

theorem range_size {n : Nat} : Builtin.Range.rangeSize 0 (n : Int) 1 = (n : Int) := by
  unfold Builtin.Range.rangeSize
  rw [if_pos (by decide)]
  split
  · rw [Int.ediv_one]; omega
  · omega
theorem range_small {n : Nat} (h : n < 1000000) : Builtin.Range.small 0 (n : Int) 1 = true := by
  unfold Builtin.Range.small
  rw [range_size]
  unfold Builtin.Range.rangeFitsLong
  simp
  omega

/-- the round of a rest under doubling, as the law's own helper walks it; none: not closed in time -/
def lround (count rest : Int) : Nat → List Int → Option (List Int)
  | 0, _ => none
  | k + 1, fs => if 2 * fs.getLastD 0 % count = rest then some fs else lround count rest k (fs ++ [2 * fs.getLastD 0 % count])

/-- a list of ints, made anew, beside the tables -/
def ListOut (rs : List Int) (act _ : List (Addr × Obj)) (v : Value) (act' : List (Addr × Obj)) : Prop :=
  ∃ (l : Nat) (vs : List Value) (k : Nat) (T' : List (Addr × Obj)), v = .ref l ∧ act' = (l, listOf vs.toArray k) :: T' ∧ IntsAre vs rs ∧ TabsFull T' ∧ AllNe l T' ∧ (TabsFull act → T' = act)

section
variable {a b d : Addr × Obj} {T : List (Addr × Obj)}
theorem sub_rot1 : ∀ p ∈ T ++ [a, b], p ∈ a :: b :: T := fun p hp => by
  simp only [List.mem_append, List.mem_cons, List.not_mem_nil, or_false] at hp ⊢
  rcases hp with h | h | h <;> simp [h]
theorem sub_rot2 : ∀ p ∈ d :: a :: b :: T, p ∈ d :: T ++ [a, b] := fun p hp => by
  simp only [List.mem_append, List.mem_cons, List.not_mem_nil, or_false] at hp ⊢
  rcases hp with h | h | h | h <;> simp [h]
theorem sub_2of3 : ∀ p ∈ b :: T, p ∈ d :: a :: b :: T := fun _ hp => .tail _ (.tail _ hp)
end

theorem last_is {ns : List Int} : ns.getD (-1 + (ns.length : Int)).toNat 0 = ns.getLastD 0 := by
  rw [show (-1 + (ns.length : Int)).toNat = ns.length - 1 by omega, List.getLastD_eq_getLast?, List.getLast?_eq_getElem?, List.getD_eq_getElem?_getD]

structure StR where
  vs : List Value
  k : Nat
  ns : List Int
  T : List (Addr × Obj)
end Mine
end

section
open PySem PySem.W PySem.Spec PySem.Calls PyProof.Rows
namespace Mine
set_option maxRecDepth 100000
set_option maxHeartbeats 8000000
local macro_rules | `(tactic| k_all) => `(tactic| first | exact AllNe.out (by assumption) | exact tail1 (by assumption) | exact tail2 (by assumption) | exact tail3 (by assumption) | exact tail4 (by assumption) | exact tail0 (by assumption))
local macro_rules | `(tactic| walk_at "call builtin:list.append") => `(tactic| (k_here; (try dsimp only [List.cons_append, List.nil_append]); (with_reducible show wpAny _ _ (call (Value.builtin _) [Value.ref _, _]) _ _ _); k_dflt (refine' append_K ?k1 ?k2 ?k3 ?_ ?z; (case k1 => k_asm); (case k2 => k_asm); (case k3 => k_upd); (case z => assumption); k_whole); intro h' F' N'; (try k_sweep)))
local macro_rules | `(tactic| walk_at "pyIter ref") => `(tactic| refine Halt.out ?_)

theorem c_round {w : World} {rest0 count : Int} {many : Nat} {rs : List Int} {t1 t2 t3 : Tok} (h0 : 0 ≤ rest0) (h1 : rest0 < count) (hb1 : count < 256) (hm : many ≤ 16) (hr : lround count rest0 many [rest0] = some rs) :
    Gives w 81 [.int rest0 t1, .int count t2, .int (many : Int) t3] 20 (fun act _ => TabsOk act) (ListOut rs) := by
  w_on
  unfold Gives
  k_fill
  intro p loose mean mg mb dp un gd cn cs a ccd cl outer A₀ base h₀ L m act rest s Q E B F X N hdis T hk hp hd hu hret
  refine wpAny_call ?_
  k_dflt (refine' code_defF ?k1u28 ?k2u28 ?k3u28 ?k4u28 ?kDisu28 ?k5u28 ?kAu28 ?kFu28 ?kKu28 ?k6u28 ?k7u28 ?k8u28 ?k9u28 ?kBu28 ?_ ?c2u28 ?c3u28 ?c4u28 ?c5u28; (case kAu28 => exact rfl); (case kFu28 => exact rfl); (case kKu28 => assumption); (case k1u28 => k_asm); (case k2u28 => k_asm); (case k3u28 => k_asm); (case k4u28 => k_asm); (case kDisu28 => k_asm); (case k5u28 => k_asm); (case k6u28 => k_is); (case k7u28 => k_is); (case k8u28 => ktr_room); (case k9u28 => exact BindsTo.of_eq rfl); (case c5u28 => decide); (case kBu28 => exact locs rfl); (case c2u28 => exact rfl); (case c3u28 => exact rfl); (case c4u28 => exact rfl); k_whole; intro g' L' h' FG' F' N' B' X' T' hg l1; (try k_lt l1); (try dsimp only); (try k_lift B'); (try k_fold))
  k_steps
  rename_i l9 hl9 l1z h1z F1z N1z h2z tk2z ta ua va hR FB NB keepB
  refine Halt.on ?_
  obtain ⟨m0, Fm, hkn⟩ : ∃ m0, Fr g' L' h2z m0 ∧ Know m0 [(Str.ofString "rest", Value.int rest0 t1), (Str.ofString "count", Value.int count t2), (Str.ofString "found", Value.ref l9)] := by
    with_unfolding_all exact ⟨_, FB, .cons rfl (.cons rfl (.cons rfl .nil))⟩
  (with_unfolding_all refine' range_inv (σ := StR) (fun c => (l9, listOf c.vs.toArray c.k) :: c.T) (fun c => [(Str.ofString "rest", Value.int rest0 t1), (Str.ofString "count", Value.int count t2), (Str.ofString "found", Value.ref l9)]) (fun i c => IntsAre c.vs c.ns ∧ (TabsOk c.T ∧ (TabsFull act → c.T = act)) ∧ AllNe l9 c.T ∧ lround count rest0 (many - i) c.ns = some rs ∧ c.ns.length = i + 1 ∧ (∀ d ∈ c.ns, 0 ≤ d ∧ d < count)) ⟨[.int rest0 t1], 0, [rest0], act⟩ (by rfl) hR (range_small (by omega)) range_size Fm NB hkn ⟨.cons _ _ .nil, ⟨hp, fun _ => rfl⟩, allNe_of (tail0 l1z), hr, rfl, by simp; omega⟩ (fun c i t I it u hh tkk hi hP hne F3 N3 => ?_) (fun c u hh tkk hP F3 N3 => ?_))
  · clear FB NB F1z N1z Fm hR
    obtain ⟨hP1, ⟨hP2, hkp⟩, hP3, hP4, hP5, hP6⟩ := hP
    have hne' := allNe_of hne
    simp only [AllNe] at hne'
    have hsz : c.vs.toArray.size ≤ sizeLine := by
      rw [List.size_toArray, sizeLine_eq, hP1.length]
      omega
    have hin : c.ns.getD (-1 + (c.ns.length : Int)).toNat 0 ∈ c.ns := by
      have h9 : (-1 + (c.ns.length : Int)).toNat < c.ns.length := by omega
      rw [List.getD_eq_getElem?_getD, List.getElem?_eq_getElem h9]
      exact List.getElem_mem h9
    have hbd := hP6 _ hin
    (try k_fold)
    k_steps
    k_dflt (refine' Gives.use (c_int_divmod (x := 2 * c.ns.getD (-1 + (c.ns.length : Int)).toNat 0) (by omega) (by omega) (by omega) hb1) (act := c.T) (rest := [(I, it), (l9, listOf c.vs.toArray c.k)]) ?kBca ?kFca ?kXca (news_sub ?kNca sub_rot1) (disj_consR.mpr ⟨hne'.2, disj_consR.mpr ⟨hP3, disj_nilR⟩⟩) ?kTca ?kkca hP2 ?kdca ?kuca ?_; (case kNca => k_asm); (case kBca => k_asm); (case kFca => k_asm); (case kXca => k_asm); (case kTca => k_asm); (case kkca => first | exact rfl | assumption); (case kdca => ktr_room); (case kuca => ktr_units))
    rintro _ _ h5 tk5 F5 N5 D5 ⟨d, ta, tb, T5, rfl, rfl, hT5, hd5, hkp5⟩
    have hkp6 : TabsFull act → T5 = act := fun hf => by
      have e1 := hkp hf
      rw [← e1] at hf
      rw [hkp5 hf, e1]
    replace N5 := news_sub N5 sub_rot2
    obtain ⟨e1, e2⟩ := disj_consL.mp D5
    obtain ⟨e3, e4⟩ := disj_consR.mp e2
    obtain ⟨e5, _⟩ := disj_consR.mp e4
    simp only [AllNe] at e1
    rw [last_is] at *
    have hm0 : 0 ≤ 2 * c.ns.getLastD 0 % count ∧ 2 * c.ns.getLastD 0 % count < count := ⟨Int.emod_nonneg _ (by omega), Int.emod_lt_of_pos _ (by omega)⟩
    rw [show many - i = (many - (i + 1)) + 1 by omega] at hP4
    unfold lround at hP4
    k_steps
    · rw [if_pos (by assumption)] at hP4
      cases hP4
      dsimp only
      k_steps
      refine RPost.ret ?_
      dsimp only
      k_steps
      rename News _ _ _ _ => N9
      exact fun hN => hret _ _ _ _ (by k_asm) (news_join N (news_sub N9 sub_2of3) hN) (disj_of_kept (news_sub (by assumption) sub_2of3) hg) ⟨l9, c.vs, c.k, T5, rfl, rfl, hP1, hT5, e5, hkp6⟩
    · rw [if_neg (by assumption)] at hP4
      rename News _ _ _ _ => N9
      simp only [List.push_toArray] at N9
      refine RPost.next ⟨c.vs ++ [.int (2 * c.ns.getLastD 0 % count) tb], c.k + 1, c.ns ++ [2 * c.ns.getLastD 0 % count], T5⟩ (by k_asm) (news_sub N9 fun p hp => .tail _ hp) ?_ (by with_unfolding_all exact .cons rfl (.cons rfl (.cons rfl .nil))) ⟨hP1.append (.cons _ _ .nil), ⟨hT5.ok, hkp6⟩, e5, hP4, by simp [hP5], ?_⟩
      · intro p hp
        rcases List.mem_cons.mp hp with rfl | hp
        · exact hne'.1
        · exact e3.out p hp
      · intro e he
        rcases List.mem_append.mp he with he | he
        · exact hP6 e he
        · rw [List.mem_singleton.mp he]
          exact hm0
  · dsimp only
    obtain ⟨_, _, _, hP4, _, _⟩ := hP
    rw [Nat.sub_self] at hP4
    cases hP4
end Mine
end

section
open PySem PySem.W PySem.Spec PySem.Calls PyProof.Rows
namespace Mine
set_option maxRecDepth 100000
set_option maxHeartbeats 4000000

theorem binds_peek {K : Frag} {s : Shared} {fd : FuncData} {args : Args} {binds : List (Str × Value)} (X : K.In s.heap) (e : ∀ M : Model, peek K ⟨M.prog, M.w.params⟩ (bindArgs fd args) = some binds) : BindsTo s fd args binds :=
  fun M _ _ _ hq => (Looks.of_peek X (e M)).here hq

/-- binary search from the left, as the library's def walks it -/
def bsearch (ns : List Int) (x : Int) : Nat → Nat → Nat → Nat
  | 0, lo, _ => lo
  | f + 1, lo, hi => if lo < hi then (if ns.getD ((lo + hi) / 2) 0 < x then bsearch ns x f ((lo + hi) / 2 + 1) hi else bsearch ns x f lo ((lo + hi) / 2)) else lo

theorem bsearch_succ {ns : List Int} {x : Int} {f lo hi : Nat} : bsearch ns x (f + 1) lo hi = if lo < hi then (if ns.getD ((lo + hi) / 2) 0 < x then bsearch ns x f ((lo + hi) / 2 + 1) hi else bsearch ns x f lo ((lo + hi) / 2)) else lo := rfl

def WPost {σ : Type} (h₀ : Heap) (L : Addr) (Led : σ → List (Addr × Obj)) (ps : σ → List (Str × Value)) (P : σ → Prop) (μ : σ → Nat) (n : Nat) (s₁ : Shared) (Q : Flow → Shared → Prop) (f : Flow) (s₂ : Shared) : Prop :=
  match f with
  | .ret v => Q (.ret v) s₂
  | .brk => Q .next s₂
  | _ => ∃ h' tk m' c, s₂ = { s₁ with heap := h', toks := tk } ∧ Fr h₀ L h' m' ∧ News h₀ L h' (Led c) ∧ Know m' (ps c) ∧ P c ∧ μ c < n
theorem WPost.next {σ : Type} {h₀ : Heap} {L : Addr} {Led : σ → List (Addr × Obj)} {ps : σ → List (Str × Value)} {P : σ → Prop} {μ : σ → Nat} {n : Nat} {s₁ : Shared} {Q : Flow → Shared → Prop} {m' : Str → Option Value} {h' : Heap} {tk : Nat} (c : σ) (F : Fr h₀ L h' m') (N : News h₀ L h' (Led c)) (hk : Know m' (ps c)) (hp : P c) (hm : μ c < n) :
    WPost h₀ L Led ps P μ n s₁ Q .next { s₁ with heap := h', toks := tk } := ⟨h', tk, m', c, rfl, F, N, hk, hp, hm⟩

section
variable {prog : Program} {w : World} {A : Around} {E : Value → Shared → Prop} {Q : Flow → Shared → Prop} {s : Shared} {env : Env} {h₀ : Heap} {L : Addr}
theorem while_inv {σ : Type} {test : PySem.Expr} {body : List Stmt} {pos : Pos} {m₀ : Str → Option Value} (Led : σ → List (Addr × Obj)) (ps : σ → List (Str × Value)) (P : σ → Prop) (μ : σ → Nat) (c₀ : σ)
    (F : Fr h₀ L s.heap m₀) (N : News h₀ L s.heap (Led c₀)) (hk : Know m₀ (ps c₀)) (hp : P c₀)
    (turn : ∀ (c : σ) (u : Str → Option Value) h tk, P c → Fr h₀ L h (kstB u (ps c)) → News h₀ L h (Led c) →
      wpAny (model prog w) A (isTrue test env (eval test env)) (fun b s₂ =>
        if b = true then wpAny (model prog w) A (execs body env) (WPost h₀ L Led ps P μ (μ c) { s with heap := h, toks := tk } Q) E s₂ else Q .next s₂) E { s with heap := h, toks := tk })
    (hE : PassesOwn (model prog w) A env E := by passes_own) :
    wpAny (model prog w) A (exec (.While test body [] pos) env) Q E s := by
  refine While_inv2 (fun n m nx => ∃ c : σ, nx = Led c ∧ μ c = n ∧ Know m (ps c) ∧ P c) F N ⟨c₀, rfl, rfl, hk, hp⟩ ?_ hE
  rintro n m₁ nx h tk F₁ N₁ ⟨c, rfl, rfl, hk₁, hP⟩
  refine wpAny_mono (turn c m₁ h tk hP (fr_know hk₁.all F₁) N₁) (fun b s₂ p => ?_) fun _ _ x => x
  cases b with
  | false => simpa using p
  | true =>
    simp only [if_true] at p ⊢
    refine wpAny_mono p (fun f s₃ q => ?_) fun _ _ x => x
    cases f with
    | ret v => exact q
    | brk => exact q
    | next =>
      obtain ⟨h', tk', m', c', rfl, F', N', hk', hP', hm⟩ := q
      exact ⟨h', tk', m', Led c', μ c', rfl, F', N', hm, c', rfl, rfl, hk', hP'⟩
    | cont =>
      obtain ⟨h', tk', m', c', rfl, F', N', hk', hP', hm⟩ := q
      exact ⟨h', tk', m', Led c', μ c', rfl, F', N', hm, c', rfl, rfl, hk', hP'⟩
end

structure StB where
  lo : Nat
  hi : Nat
  f : Nat
  t1 : Tok
  t2 : Tok
end Mine
end

section
open PySem PySem.W PySem.Spec PySem.Calls PyProof.Rows
namespace Mine
set_option maxRecDepth 100000
set_option maxHeartbeats 8000000
local macro_rules | `(tactic| k_all) => `(tactic| first | exact AllNe.out (by assumption) | exact tail1 (by assumption) | exact tail2 (by assumption) | exact tail3 (by assumption) | exact tail4 (by assumption) | exact tail0 (by assumption))
local macro_rules | `(tactic| walk_at "call builtin:list.append") => `(tactic| (k_here; (try dsimp only [List.cons_append, List.nil_append]); (with_reducible show wpAny _ _ (call (Value.builtin _) [Value.ref _, _]) _ _ _); k_dflt (refine' append_K ?k1 ?k2 ?k3 ?_ ?z; (case k1 => k_asm); (case k2 => k_asm); (case k3 => k_upd); (case z => assumption); k_whole); intro h' F' N'; (try k_sweep)))
local macro_rules | `(tactic| walk_at "pyIter ref") => `(tactic| refine Halt.out ?_)
local macro_rules | `(tactic| walk_at "exec While Compare cons nil") => `(tactic| refine Halt.out ?_)

/-- an int alone; nothing made that is kept -/
def IntOnly (x : Int) (_ _ : List (Addr × Obj)) (v : Value) (act' : List (Addr × Obj)) : Prop := ∃ t, v = .int x t ∧ act' = []

/-- the last one of the rests by turns -/
def euc : Nat → Int → Int → Int
  | 0, a, _ => a
  | f + 1, a, b => if 0 < b then euc f b (a.fmod b) else a
theorem euc_succ {f : Nat} {a b : Int} : euc (f + 1) a b = if 0 < b then euc f b (a.fmod b) else a := rfl
theorem fmod_lt (a : Int) {b : Int} (h : 0 < b) : 0 ≤ a.fmod b ∧ a.fmod b < b := by
  rw [Int.fmod_eq_emod_of_nonneg _ (by omega)]
  exact ⟨Int.emod_nonneg _ (by omega), Int.emod_lt_of_pos _ h⟩
def freeF (x : Nat) : Nat → Int
  | 0 => 0
  | i + 1 => freeF x i + if euc x (x : Int) (i : Int) = 1 then 1 else 0

structure StF where
  r : Int
  t : Tok
structure StE where
  a : Int
  b : Int
  f : Nat
  t1 : Tok
  t2 : Tok

theorem c_freeG {w : World} {x : Nat} {t1 : Tok} (h1 : x ≤ 6) : Gives w 88 [.int (x : Int) t1] 1 (fun act _ => act = []) (IntOnly (freeF x x)) := by
  w_on
  unfold Gives
  k_fill
  intro p loose mean mg mb dp un gd cn cs a ccd cl outer A₀ base h₀ L m act rest s Q E B F X N hdis T hk hp hd hu hret
  subst hp
  refine wpAny_call ?_
  k_dflt (refine' code_defF ?k1u30 ?k2u30 ?k3u30 ?k4u30 ?kDisu30 ?k5u30 ?kAu30 ?kFu30 ?kKu30 ?k6u30 ?k7u30 ?k8u30 ?k9u30 ?kBu30 ?_ ?c2u30 ?c3u30 ?c4u30 ?c5u30; (case kAu30 => exact rfl); (case kFu30 => exact rfl); (case kKu30 => assumption); (case k1u30 => k_asm); (case k2u30 => k_asm); (case k3u30 => k_asm); (case k4u30 => k_asm); (case kDisu30 => k_asm); (case k5u30 => k_asm); (case k6u30 => k_is); (case k7u30 => k_is); (case k8u30 => ktr_room); (case k9u30 => exact BindsTo.of_eq rfl); (case c5u30 => decide); (case kBu30 => exact locs rfl); (case c2u30 => exact rfl); (case c3u30 => exact rfl); (case c4u30 => exact rfl); k_whole; intro g' L' h' FG' F' N' B' X' T' hg l1; (try k_lt l1); (try dsimp only); (try k_lift B'); (try k_fold))
  k_steps
  rename IsRange _ _ _ _ _ _ _ _ => hR
  rename Fr g' _ _ _ => FB
  rename News g' _ _ _ => NB
  refine Halt.on ?_
  obtain ⟨m0, Fm, t9, hkn⟩ : ∃ m0, Fr g' L' _ m0 ∧ ∃ t9, Know m0 [(Str.ofString "number", Value.int (x : Int) t1), (Str.ofString "found", Value.int 0 t9)] := by
    with_unfolding_all exact ⟨_, FB, _, .cons rfl (.cons rfl .nil)⟩
  (with_unfolding_all refine' range_inv (σ := StF) (fun _ => []) (fun c => [(Str.ofString "number", Value.int (x : Int) t1), (Str.ofString "found", Value.int c.r c.t)]) (fun i c => c.r = freeF x i) ⟨0, t9⟩ (by rfl) hR (range_small (by omega)) range_size Fm News.nil hkn rfl (fun c i t I it u hh tkk hi hP hne F3 N3 => ?_) (fun c u hh tkk hP F3 N3 => ?_))
  · clear FB NB Fm hR
    (try k_fold)
    k_steps
    refine Halt.on ?_
    rename Fr g' _ _ _ => FB
    rename News g' _ _ _ => NB
    obtain ⟨m1, Fm, u1, u2, hkn1⟩ : ∃ m1, Fr g' L' _ m1 ∧ ∃ u1 u2, Know m1 [(Str.ofString "number", Value.int (x : Int) t1), (Str.ofString "found", Value.int c.r c.t), (Str.ofString "one", Value.int (x : Int) u1), (Str.ofString "two", Value.int (0 + (i : Int)) u2)] := by
      with_unfolding_all exact ⟨_, FB, _, _, .cons rfl (.cons rfl (.cons rfl (.cons rfl .nil)))⟩
    (with_unfolding_all refine' while_inv (σ := StE) (fun _ => [(I, it)]) (fun e => [(Str.ofString "number", Value.int (x : Int) t1), (Str.ofString "found", Value.int c.r c.t), (Str.ofString "one", Value.int e.a e.t1), (Str.ofString "two", Value.int e.b e.t2)]) (fun e => euc e.f e.a e.b = euc x (x : Int) (0 + (i : Int)) ∧ 0 ≤ e.b ∧ e.b ≤ (e.f : Int)) (fun e => e.f) ⟨(x : Int), 0 + (i : Int), x, u1, u2⟩ Fm (news_sub NB fun _ hp => by repeat (first | exact hp | apply List.Mem.tail)) hkn1 ⟨rfl, by dsimp only; omega, by dsimp only; omega⟩ (fun e u h8 tk8 hPe F8 N8 => ?_) ?hEz)
    case hEz => first | passes_own | with_unfolding_all passes_own
    clear FB NB Fm
    obtain ⟨hP1, hP2, hP3⟩ := hPe
    (try k_fold)
    k_steps
    · rename Fr g' _ _ _ => F9
      rename News g' _ _ _ => N9
      have hb : 0 < e.b := by assumption
      obtain ⟨f, hf⟩ : ∃ f, e.f = f + 1 := ⟨e.f - 1, by omega⟩
      rw [hf, euc_succ, if_pos hb] at hP1
      have hm1 := fmod_lt e.a hb
      exact WPost.next ⟨e.b, e.a.fmod e.b, f, _, _⟩ F9 (news_sub N9 fun _ hp => by repeat (first | exact hp | apply List.Mem.tail)) (by with_unfolding_all exact .cons rfl (.cons rfl (.cons rfl (.cons rfl .nil)))) ⟨hP1, hm1.1, by dsimp only; omega⟩ (by dsimp only; omega)
    · rename Fr g' _ _ _ => F9
      rename News g' _ _ _ => N9
      have hb : ¬ 0 < e.b := by assumption
      have he : e.a = euc x (x : Int) (i : Int) := by
        rw [Int.zero_add] at hP1
        rw [← hP1]
        cases e.f with
        | zero => rfl
        | succ f => rw [euc_succ, if_neg hb]
      refine RPost.next ⟨_, _⟩ F9 (news_sub N9 fun _ hp => by repeat (first | exact hp | apply List.Mem.tail)) hne (by with_unfolding_all exact .cons rfl (.cons rfl .nil)) ?_
      show c.r + (if (e.a == 1) = true then 1 else 0) = freeF x i + if euc x (x : Int) (i : Int) = 1 then 1 else 0
      rw [hP, he]
      simp only [beq_iff_eq]
  · dsimp only
    (try k_fold)
    k_steps
    rw [hP]
    exact fun hN => hret _ _ _ _ (by k_asm) (news_join N News.nil hN) disj_nil ⟨_, rfl, rfl⟩

/-- how many below x share nothing with it, for x from one to six -/
def phi (x : Int) : Int := if x = 3 then 2 else if x = 4 then 2 else if x = 5 then 4 else if x = 6 then 2 else 1
theorem freeF_phi : ∀ x, x < 7 → 1 ≤ x → freeF x x = phi (x : Int) := by decide +kernel

theorem c_free {w : World} {x : Int} {t1 : Tok} (h0 : 1 ≤ x) (h1 : x ≤ 6) : Gives w 88 [.int x t1] 1 (fun act _ => act = []) (IntOnly (phi x)) := by
  obtain ⟨n, rfl⟩ : ∃ n : Nat, x = (n : Int) := ⟨x.toNat, by omega⟩
  rw [← freeF_phi n (by omega) (by omega)]
  exact c_freeG (by omega)
end Mine
end

section
open PySem PySem.W PySem.Spec PySem.Calls PyProof.Rows
namespace Mine
set_option maxRecDepth 100000
set_option maxHeartbeats 8000000
local macro_rules | `(tactic| k_all) => `(tactic| first | exact AllNe.out (by assumption) | exact tail1 (by assumption) | exact tail2 (by assumption) | exact tail3 (by assumption) | exact tail4 (by assumption) | exact tail0 (by assumption))
local macro_rules | `(tactic| walk_at "call builtin:list.append") => `(tactic| (k_here; (try dsimp only [List.cons_append, List.nil_append]); (with_reducible show wpAny _ _ (call (Value.builtin _) [Value.ref _, _]) _ _ _); k_dflt (refine' append_K ?k1 ?k2 ?k3 ?_ ?z; (case k1 => k_asm); (case k2 => k_asm); (case k3 => k_upd); (case z => assumption); k_whole); intro h' F' N'; (try k_sweep)))
local macro_rules | `(tactic| walk_at "pyIter ref") => `(tactic| refine Halt.out ?_)
local macro_rules | `(tactic| walk_at "exec While Compare cons nil") => `(tactic| refine Halt.out ?_)

theorem c_bisect {w : World} {x : Int} {l : Addr} {vs : List Value} {k : Nat} {ns : List Int} {t2 : Tok} (hi : IntsAre vs ns) (h64 : ns.length ≤ 64) :
    Gives w 74 [.ref l, .int x t2] 1 (fun act _ => act = [(l, listOf vs.toArray k)]) (fun act _ v act' => ∃ t, v = .int (bsearch ns x ns.length 0 ns.length : Int) t ∧ act' = act) := by
  w_on
  unfold Gives
  k_fill
  intro p loose mean mg mb dp un gd cn cs a ccd cl outer A₀ base h₀ L m act rest s Q E B F X N hdis T hk hp hd hu hret
  subst hp
  refine wpAny_call ?_
  k_dflt (refine' code_defF ?k1u31 ?k2u31 ?k3u31 ?k4u31 ?kDisu31 ?k5u31 ?kAu31 ?kFu31 ?kKu31 ?k6u31 ?k7u31 ?k8u31 ?k9u31 ?kBu31 ?_ ?c2u31 ?c3u31 ?c4u31 ?c5u31; (case kAu31 => exact rfl); (case kFu31 => exact rfl); (case kKu31 => assumption); (case k1u31 => k_asm); (case k2u31 => k_asm); (case k3u31 => k_asm); (case k4u31 => k_asm); (case kDisu31 => k_asm); (case k5u31 => k_asm); (case k6u31 => k_is); (case k7u31 => k_is); (case k8u31 => ktr_room); (case k9u31 => exact binds_peek (by k_in) (fun M => by with_unfolding_all rfl)); (case c5u31 => decide); (case kBu31 => exact locs rfl); (case c2u31 => exact rfl); (case c3u31 => exact rfl); (case c4u31 => exact rfl); k_whole; intro g' L' h' FG' F' N' B' X' T' hg l1; (try k_lt l1); (try dsimp only); (try k_lift B'); (try k_fold))
  k_steps
  rename_i tkz hz Fz Nz
  refine Halt.on ?_
  obtain ⟨m0, Fm, u1, u2, hkn⟩ : ∃ m0, Fr g' L' hz m0 ∧ ∃ u1 u2, Know m0 [(Str.ofString "a", Value.ref l), (Str.ofString "x", Value.int x t2), (Str.ofString "lo", Value.int ((0 : Nat) : Int) u1), (Str.ofString "hi", Value.int (ns.length : Int) u2)] := by
    with_unfolding_all exact ⟨_, Fz, _, _, .cons rfl (.cons rfl (.cons rfl (.cons rfl .nil)))⟩
  (with_unfolding_all refine' while_inv (σ := StB) (fun _ => [(l, listOf vs.toArray k)]) (fun c => [(Str.ofString "a", Value.ref l), (Str.ofString "x", Value.int x t2), (Str.ofString "lo", Value.int (c.lo : Int) c.t1), (Str.ofString "hi", Value.int (c.hi : Int) c.t2)]) (fun c => bsearch ns x c.f c.lo c.hi = bsearch ns x ns.length 0 ns.length ∧ c.hi ≤ ns.length ∧ c.hi - c.lo ≤ c.f) (fun c => c.f) ⟨0, ns.length, ns.length, u1, u2⟩ Fm Nz hkn ⟨rfl, Nat.le_refl _, Nat.sub_le _ _⟩ (fun c u hh tkk hP F3 N3 => ?_) ?hEz)
  case hEz => first | passes_own | with_unfolding_all passes_own
  clear Fz Nz Fm
  obtain ⟨hP1, hP2, hP3⟩ := hP
  have hmid : ((c.lo : Int) + (c.hi : Int)).fdiv 2 = (((c.lo + c.hi) / 2 : Nat) : Int) := by
    rw [Int.fdiv_eq_ediv_of_nonneg _ (by omega)]
    omega
  (try k_fold)
  k_steps
  · have hlo : c.lo < c.hi := by
      have h9 : (c.lo : Int) < (c.hi : Int) := by assumption
      omega
    have hlt : ns.getD ((c.lo + c.hi) / 2) 0 < x := by
      have h9 : ns.getD (((c.lo : Int) + (c.hi : Int)).fdiv 2).toNat 0 < x := by assumption
      rwa [hmid, Int.toNat_natCast] at h9
    rename Fr _ _ _ _ => F9
    rw [hmid] at F9
    rw [show c.f = (c.f - 1) + 1 by omega] at hP1
    rw [bsearch_succ, if_pos hlo, if_pos hlt] at hP1
    exact WPost.next ⟨(c.lo + c.hi) / 2 + 1, c.hi, c.f - 1, _, c.t2⟩ F9 (by k_asm) (by with_unfolding_all exact .cons rfl (.cons rfl (.cons rfl (.cons rfl .nil)))) ⟨hP1, hP2, by dsimp only; omega⟩ (by dsimp only; omega)
  · have hlo : c.lo < c.hi := by
      have h9 : (c.lo : Int) < (c.hi : Int) := by assumption
      omega
    have hlt : ¬ ns.getD ((c.lo + c.hi) / 2) 0 < x := by
      have h9 : ¬ ns.getD (((c.lo : Int) + (c.hi : Int)).fdiv 2).toNat 0 < x := by assumption
      rwa [hmid, Int.toNat_natCast] at h9
    rename Fr _ _ _ _ => F9
    rw [hmid] at F9
    rw [show c.f = (c.f - 1) + 1 by omega] at hP1
    rw [bsearch_succ, if_pos hlo, if_neg hlt] at hP1
    exact WPost.next ⟨c.lo, (c.lo + c.hi) / 2, c.f - 1, c.t1, _⟩ F9 (by k_asm) (by with_unfolding_all exact .cons rfl (.cons rfl (.cons rfl (.cons rfl .nil)))) ⟨hP1, by dsimp only; omega, by dsimp only; omega⟩ (by dsimp only; omega)
  · have hlo : ¬ c.lo < c.hi := by
      have h9 : ¬ (c.lo : Int) < (c.hi : Int) := by assumption
      omega
    have hr : c.lo = bsearch ns x ns.length 0 ns.length := by
      rw [← hP1]
      cases c.f with
      | zero => rfl
      | succ f => unfold bsearch; rw [if_neg hlo]
    rw [hr]
    exact fun hN => hret _ _ _ _ (by k_asm) (news_join N (by k_asm) hN) (disj_of_kept (by assumption) hg) ⟨_, rfl, rfl⟩
end Mine
end

section
open PySem PySem.W PySem.Spec PySem.Calls PyProof.Rows
namespace Mine
set_option maxRecDepth 100000
set_option maxHeartbeats 8000000
section
local macro_rules | `(tactic| k_all) => `(tactic| first | exact AllNe.out (by assumption) | exact tail1 (by assumption) | exact tail2 (by assumption) | exact tail3 (by assumption) | exact tail4 (by assumption) | exact tail0 (by assumption))
local macro_rules | `(tactic| walk_at "call builtin:list.append") => `(tactic| (k_here; (try dsimp only [List.cons_append, List.nil_append]); (with_reducible show wpAny _ _ (call (Value.builtin _) [Value.ref _, _]) _ _ _); k_dflt (refine' append_K ?k1 ?k2 ?k3 ?_ ?z; (case k1 => k_asm); (case k2 => k_asm); (case k3 => k_upd); (case z => assumption); k_whole); intro h' F' N'; (try k_sweep)))
local macro_rules | `(tactic| walk_at "pyIter ref") => `(tactic| refine Halt.out ?_)
local macro_rules | `(tactic| walk_at "exec While Compare cons nil") => `(tactic| refine Halt.out ?_)

theorem c_bisect4 {w : World} {x : Int} {l : Addr} {vs : List Value} {k : Nat} {ns : List Int} {t2 t3 : Tok} (hi : IntsAre vs ns) (h64 : ns.length ≤ 64) :
    Gives w 74 [.ref l, .int x t2, .int 0 t3, .none] 1 (fun act _ => act = [(l, listOf vs.toArray k)]) (fun act _ v act' => ∃ t, v = .int (bsearch ns x ns.length 0 ns.length : Int) t ∧ act' = act) := by
  w_on
  unfold Gives
  k_fill
  intro p loose mean mg mb dp un gd cn cs a ccd cl outer A₀ base h₀ L m act rest s Q E B F X N hdis T hk hp hd hu hret
  subst hp
  refine wpAny_call ?_
  k_dflt (refine' code_defF ?k1u32 ?k2u32 ?k3u32 ?k4u32 ?kDisu32 ?k5u32 ?kAu32 ?kFu32 ?kKu32 ?k6u32 ?k7u32 ?k8u32 ?k9u32 ?kBu32 ?_ ?c2u32 ?c3u32 ?c4u32 ?c5u32; (case kAu32 => exact rfl); (case kFu32 => exact rfl); (case kKu32 => assumption); (case k1u32 => k_asm); (case k2u32 => k_asm); (case k3u32 => k_asm); (case k4u32 => k_asm); (case kDisu32 => k_asm); (case k5u32 => k_asm); (case k6u32 => k_is); (case k7u32 => k_is); (case k8u32 => ktr_room); (case k9u32 => exact binds_peek (by k_in) (fun M => by with_unfolding_all rfl)); (case c5u32 => decide); (case kBu32 => exact locs rfl); (case c2u32 => exact rfl); (case c3u32 => exact rfl); (case c4u32 => exact rfl); k_whole; intro g' L' h' FG' F' N' B' X' T' hg l1; (try k_lt l1); (try dsimp only); (try k_lift B'); (try k_fold))
  k_steps
  rename_i tkz hz Fz Nz
  refine Halt.on ?_
  obtain ⟨m0, Fm, u1, u2, hkn⟩ : ∃ m0, Fr g' L' hz m0 ∧ ∃ u1 u2, Know m0 [(Str.ofString "a", Value.ref l), (Str.ofString "x", Value.int x t2), (Str.ofString "lo", Value.int ((0 : Nat) : Int) u1), (Str.ofString "hi", Value.int (ns.length : Int) u2)] := by
    with_unfolding_all exact ⟨_, Fz, _, _, .cons rfl (.cons rfl (.cons rfl (.cons rfl .nil)))⟩
  (with_unfolding_all refine' while_inv (σ := StB) (fun _ => [(l, listOf vs.toArray k)]) (fun c => [(Str.ofString "a", Value.ref l), (Str.ofString "x", Value.int x t2), (Str.ofString "lo", Value.int (c.lo : Int) c.t1), (Str.ofString "hi", Value.int (c.hi : Int) c.t2)]) (fun c => bsearch ns x c.f c.lo c.hi = bsearch ns x ns.length 0 ns.length ∧ c.hi ≤ ns.length ∧ c.hi - c.lo ≤ c.f) (fun c => c.f) ⟨0, ns.length, ns.length, u1, u2⟩ Fm Nz hkn ⟨rfl, Nat.le_refl _, Nat.sub_le _ _⟩ (fun c u hh tkk hP F3 N3 => ?_) ?hEz)
  case hEz => first | passes_own | with_unfolding_all passes_own
  clear Fz Nz Fm
  obtain ⟨hP1, hP2, hP3⟩ := hP
  have hmid : ((c.lo : Int) + (c.hi : Int)).fdiv 2 = (((c.lo + c.hi) / 2 : Nat) : Int) := by
    rw [Int.fdiv_eq_ediv_of_nonneg _ (by omega)]
    omega
  (try k_fold)
  k_steps
  · have hlo : c.lo < c.hi := by
      have h9 : (c.lo : Int) < (c.hi : Int) := by assumption
      omega
    have hlt : ns.getD ((c.lo + c.hi) / 2) 0 < x := by
      have h9 : ns.getD (((c.lo : Int) + (c.hi : Int)).fdiv 2).toNat 0 < x := by assumption
      rwa [hmid, Int.toNat_natCast] at h9
    rename Fr _ _ _ _ => F9
    rw [hmid] at F9
    rw [show c.f = (c.f - 1) + 1 by omega] at hP1
    rw [bsearch_succ, if_pos hlo, if_pos hlt] at hP1
    exact WPost.next ⟨(c.lo + c.hi) / 2 + 1, c.hi, c.f - 1, _, c.t2⟩ F9 (by k_asm) (by with_unfolding_all exact .cons rfl (.cons rfl (.cons rfl (.cons rfl .nil)))) ⟨hP1, hP2, by dsimp only; omega⟩ (by dsimp only; omega)
  · have hlo : c.lo < c.hi := by
      have h9 : (c.lo : Int) < (c.hi : Int) := by assumption
      omega
    have hlt : ¬ ns.getD ((c.lo + c.hi) / 2) 0 < x := by
      have h9 : ¬ ns.getD (((c.lo : Int) + (c.hi : Int)).fdiv 2).toNat 0 < x := by assumption
      rwa [hmid, Int.toNat_natCast] at h9
    rename Fr _ _ _ _ => F9
    rw [hmid] at F9
    rw [show c.f = (c.f - 1) + 1 by omega] at hP1
    rw [bsearch_succ, if_pos hlo, if_neg hlt] at hP1
    exact WPost.next ⟨c.lo, (c.lo + c.hi) / 2, c.f - 1, c.t1, _⟩ F9 (by k_asm) (by with_unfolding_all exact .cons rfl (.cons rfl (.cons rfl (.cons rfl .nil)))) ⟨hP1, by dsimp only; omega, by dsimp only; omega⟩ (by dsimp only; omega)
  · have hlo : ¬ c.lo < c.hi := by
      have h9 : ¬ (c.lo : Int) < (c.hi : Int) := by assumption
      omega
    have hr : c.lo = bsearch ns x ns.length 0 ns.length := by
      rw [← hP1]
      cases c.f with
      | zero => rfl
      | succ f => unfold bsearch; rw [if_neg hlo]
    rw [hr]
    exact fun hN => hret _ _ _ _ (by k_asm) (news_join N (by k_asm) hN) (disj_of_kept (by assumption) hg) ⟨_, rfl, rfl⟩
end

/-- x laid in at place b -/
def insAt (ns : List Int) (b : Nat) (x : Int) : List Int := ns.take (min b ns.length) ++ x :: ns.drop (min b ns.length)

theorem kl_ins_at {vs : List Value} {b : Nat} {y : Value} : kl_ins vs (b : Int) y = vs.take (min b vs.length) ++ y :: vs.drop (min b vs.length) := by
  unfold kl_ins
  rw [if_neg (by omega), Int.toNat_natCast]

theorem ints_ins {vs : List Value} {ns : List Int} (h : IntsAre vs ns) (b : Nat) (x : Int) (t : Tok) : IntsAre (kl_ins vs (b : Int) (.int x t)) (insAt ns b x) := by
  rw [kl_ins_at]
  unfold insAt
  rw [h.length]
  exact (h.take _).append (.cons _ _ (h.drop _))

theorem bsearch_le (ns : List Int) (x : Int) : ∀ (f lo hi : Nat), lo ≤ hi → bsearch ns x f lo hi ≤ hi
  | 0, _, _, h => h
  | f + 1, lo, hi, h => by
    rw [bsearch_succ]
    split
    · split
      · exact bsearch_le ns x f _ _ (by omega)
      · exact Nat.le_trans (bsearch_le ns x f _ _ (by omega)) (by omega)
    · exact h

theorem c_insort {w : World} {x : Int} {l : Addr} {vs : List Value} {k : Nat} {ns : List Int} {t2 : Tok} (hi : IntsAre vs ns) (h64 : ns.length ≤ 64) :
    Gives w 65 [.ref l, .int x t2] 2 (fun act _ => act = [(l, listOf vs.toArray k)]) (fun _ _ v act' => ∃ vs' k', v = .none ∧ act' = [(l, listOf vs'.toArray k')] ∧ IntsAre vs' (insAt ns (bsearch ns x ns.length 0 ns.length) x)) := by
  w_on
  unfold Gives
  k_fill
  intro p loose mean mg mb dp un gd cn cs a ccd cl outer A₀ base h₀ L m act rest s Q E B F X N hdis T hk hp hd hu hret
  subst hp
  refine wpAny_call ?_
  k_dflt (refine' code_defF ?k1u33 ?k2u33 ?k3u33 ?k4u33 ?kDisu33 ?k5u33 ?kAu33 ?kFu33 ?kKu33 ?k6u33 ?k7u33 ?k8u33 ?k9u33 ?kBu33 ?_ ?c2u33 ?c3u33 ?c4u33 ?c5u33; (case kAu33 => exact rfl); (case kFu33 => exact rfl); (case kKu33 => assumption); (case k1u33 => k_asm); (case k2u33 => k_asm); (case k3u33 => k_asm); (case k4u33 => k_asm); (case kDisu33 => k_asm); (case k5u33 => k_asm); (case k6u33 => k_is); (case k7u33 => k_is); (case k8u33 => ktr_room); (case k9u33 => exact binds_peek (by k_in) (fun M => by with_unfolding_all rfl)); (case c5u33 => decide); (case kBu33 => exact locs rfl); (case c2u33 => exact rfl); (case c3u33 => exact rfl); (case c4u33 => exact rfl); k_whole; intro g' L' h' FG' F' N' B' X' T' hg l1; (try k_lt l1); (try dsimp only); (try k_lift B'); (try k_fold))
  k_steps
  k_dflt (refine' Gives.use (c_bisect4 hi h64) (act := [(l, listOf vs.toArray k)]) (rest := []) ?kBca ?kFca ?kXca (news_nilR ?kNca) disj_nilR ?kTca ?kkca rfl ?kdca ?kuca ?_; (case kNca => k_asm); (case kBca => k_asm); (case kFca => k_asm); (case kXca => k_asm); (case kTca => k_asm); (case kkca => first | exact rfl | assumption); (case kdca => ktr_room); (case kuca => ktr_units))
  rintro _ _ h2 tk2 F2 N2 D2 ⟨t, rfl, rfl⟩
  rw [List.append_nil] at N2
  k_steps
  dsimp only [List.cons_append, List.nil_append]
  k_dflt (refine' kl_insert (its := vs.toArray) (l := kl_ins vs (bsearch ns x ns.length 0 ns.length : Int) (.int x t2)) ?za ?zb ?zf ?ze ?zc ?zd ?_)
  case za => k_asm
  case zb => k_asm
  case zf =>
    have hb := bsearch_le ns x ns.length 0 ns.length (Nat.zero_le _)
    simp [Builtin.List.listFitsIndex]
    omega
  case ze => rfl
  case zc => k_upd
  case zd => show vs.length ≤ _; rw [sizeLine_eq, hi.length]; omega
  intro h7 F7 N7
  k_steps
  exact fun hN => hret _ _ _ _ (by k_asm) (news_join N (by k_asm) hN) (disj_of_kept N7 hg) ⟨_, _, rfl, rfl, ints_ins hi _ _ _⟩
end Mine
end

section
open PySem PySem.W PySem.Spec PySem.Calls PyProof.Rows
namespace Mine
set_option maxRecDepth 100000
set_option maxHeartbeats 4000000

/-- so that no line of the walk opens the theorem's own type -/
structure Boxed (P : Prop) : Prop where
  out : P

structure StL where
  vs : List Value
  k : Nat
  ns : List Int
  T : List (Addr × Obj)

theorem news_rot {h₀ h : Heap} {L : Addr} {own T : List (Addr × Obj)} (N : News h₀ L h (own ++ T)) : News h₀ L h (T ++ own) := news_sub N fun p hp => by
  rcases List.mem_append.mp hp with hp | hp
  · exact List.mem_append_right _ hp
  · exact List.mem_append_left _ hp
theorem news_back1 {h₀ h : Heap} {L : Addr} {x : Addr × Obj} {own T : List (Addr × Obj)} (N : News h₀ L h (x :: T ++ own)) : News h₀ L h (x :: (own ++ T)) := news_sub N fun p hp => by
  rcases List.mem_cons.mp hp with rfl | hp
  · exact List.mem_append_left _ (.head _)
  · rcases List.mem_append.mp hp with hp | hp
    · exact List.mem_append_right _ hp
    · exact List.mem_append_left _ (.tail _ hp)
theorem news_back0 {h₀ h : Heap} {L : Addr} {own T : List (Addr × Obj)} (N : News h₀ L h (T ++ own)) : News h₀ L h (own ++ T) := news_rot N

theorem allNe_cons {d : Nat} {x : Addr × Obj} {r : List (Addr × Obj)} (h : @Ne Nat x.1 d) (hr : AllNe d r) : AllNe d (x :: r) := ⟨h, hr⟩
theorem news_rotC {h₀ h : Heap} {L : Addr} {x : Addr × Obj} {own T : List (Addr × Obj)} (N : News h₀ L h (x :: (own ++ T))) : News h₀ L h (x :: T ++ own) := news_sub N fun p hp => by
  rcases List.mem_append.mp hp with hp | hp
  · rcases List.mem_cons.mp hp with rfl | hp
    · exact .head _
    · exact .tail _ (List.mem_append_right _ hp)
  · exact .tail _ (List.mem_append_left _ hp)

theorem pow_bounds {mn : Nat} (h2 : 2 ≤ mn) (h6 : mn ≤ 6) : 3 ≤ 2 ^ mn - 1 ∧ 2 ^ mn - 1 ≤ 63 := by
  have h : mn = 2 ∨ mn = 3 ∨ mn = 4 ∨ mn = 5 ∨ mn = 6 := by omega
  rcases h with rfl | rfl | rfl | rfl | rfl <;> decide
theorem cnt_le16 {x : Int} (h : 0 ≤ x) (h1 : x < 65536) : cnt 1 x ≤ 16 := by
  have := (cnt_bounds (n := ((1 : Nat) : Int)) (bits_le (k := 16) h (by omega)) (by decide)).2.1
  unfold cnt
  omega
section
variable {a b c d e e' f g i j : Addr × Obj} {T : List (Addr × Obj)}
/-- what the walk of the figures makes, less what is no more wanted -/
theorem sub_a : ∀ p ∈ a :: e :: f :: g :: i :: j :: T, p ∈ a :: b :: c :: d :: e' :: e :: f :: g :: i :: j :: T := fun p hp => by
  simp only [List.mem_cons] at hp ⊢
  rcases hp with h | h | h | h | h | h | h <;> simp [h]
end

theorem sub_b {a b c : Addr × Obj} {T : List (Addr × Obj)} : ∀ p ∈ a :: T, p ∈ a :: b :: c :: T := fun p hp => by
  rcases List.mem_cons.mp hp with rfl | hp
  · exact .head _
  · exact .tail _ (.tail _ (.tail _ hp))
theorem news_tail {h₀ h : Heap} {L : Addr} {a : Addr × Obj} {T : List (Addr × Obj)} (N : News h₀ L h (a :: T)) : News h₀ L h T := fun p hp => N p (.tail _ hp)
theorem news_backC {h₀ h : Heap} {L : Addr} {x : Addr × Obj} {own T : List (Addr × Obj)} (N : News h₀ L h (x :: T ++ own)) : News h₀ L h (x :: (own ++ T)) := news_back1 N

def CPost (h₀ : Heap) (L : Addr) (m : Str → Option Value) (s₁ : Shared) (news : List (Addr × Obj)) (r : Int) (y : Value) (s₂ : Shared) : Prop :=
  ∃ h' tk t, y = .int r t ∧ s₂ = { s₁ with heap := h', toks := tk } ∧ Fr h₀ L h' m ∧ News h₀ L h' news
theorem CPost.intro {h₀ h' : Heap} {L : Addr} {m : Str → Option Value} {s₁ : Shared} {news : List (Addr × Obj)} {r r' : Int} {t : Tok} {tk : Nat} (e : r' = r) (F : Fr h₀ L h' m) (N : News h₀ L h' news) : CPost h₀ L m s₁ news r (.int r' t) { s₁ with heap := h', toks := tk } :=
  ⟨h', tk, t, by rw [e], rfl, F, N⟩

section
variable {prog : Program} {w : World} {A : Around} {h₀ : Heap} {L : Addr} {m : Str → Option Value} {env : Env} {elt : PySem.Expr} {x : Str} {scope : Scope} {cl : List (Str × Addr)} {s : Shared} {S : List (Addr × Obj) → Prop} {Fin : List Value → List (Addr × Obj) → Prop} {news : List (Addr × Obj)}
theorem comp_ints {vs : List Value} {ns : List Int} (g : Int → Int) (hi : IntsAre vs ns) (hS : S news)
    (turn : ∀ k t I oI C oC D m₂ ys h tk (E' : Value → Shared → Prop), k ∈ ns → LCg.NsObj oC m₂ → m₂ x = some (.int k t) → Fr h₀ L h m → News h₀ L h ((I, oI) :: (C, oC) :: (D, LCg.lst ys) :: news) → LCg.Off3 I C D news → ((@Ne Nat I C) ∧ (@Ne Nat I D) ∧ (@Ne Nat C D)) →
      wpAny (model prog w) A (eval elt (compEnvC scope cl C env)) (CPost h₀ L m { s with heap := h, toks := tk } ((I, oI) :: (C, oC) :: (D, LCg.lst ys) :: news) (g k)) E' { s with heap := h, toks := tk })
    (fin : ∀ ys, IntsAre ys (ns.map g) → Fin ys news) : LCg.CompRest prog w A h₀ L m env elt x scope cl s S (fun i v => vs.toArray[i]? = some v) Fin vs.toArray.size 0 [] news := by
  have hlen : vs.toArray.size = ns.length := by rw [List.size_toArray]; exact hi.length
  have key : ∀ (j i : Nat) (ys : List Value), i + j = ns.length → IntsAre ys ((ns.take i).map g) → LCg.CompRest prog w A h₀ L m env elt x scope cl s S (fun i v => vs.toArray[i]? = some v) Fin j i ys news := by
    intro j
    induction j with
    | zero =>
      intro i ys hi hy
      have e : i = ns.length := by omega
      subst e
      rw [List.take_length] at hy
      exact LCg.CompRest.zero (fin ys hy)
    | succ j ih =>
      intro i ys hij hy
      refine LCg.CompRest.succ ?_
      intro v I oI C oC D m₂ h tk E' hv hC hx F N off ne
      obtain ⟨k, t, hv', hk⟩ := IntsAre.at hi i v (by simpa using hv)
      rw [hv'] at hx
      refine wpAny_mono (turn k t I oI C oC D m₂ ys h tk E' (List.mem_of_getElem? hk) hC hx F N off ne) (fun y s₂ hq => ?_) fun _ _ e => e
      obtain ⟨h', tk', t', hy', e, F', N'⟩ := hq
      refine ⟨h', tk', news, e, F', N', off, hS, ?_⟩
      rw [hy']
      refine ih (i + 1) _ (by omega) ?_
      rw [List.take_add_one, hk]
      simpa using IntsAre.append hy (.cons (g k) t' .nil)
  rw [hlen]
  exact key ns.length 0 [] (by omega) (by simp only [List.take_zero, List.map_nil]; exact .nil)
end
theorem off1_ne {D : Addr} {l : List (Addr × Obj)} (h : LCg.Off1 D l) : AllNe D l := by
  induction l with
  | nil => exact trivial
  | cons p r ih => exact ⟨h.1, ih h.2⟩
theorem sub_e {a b c d e : Addr × Obj} {T : List (Addr × Obj)} : ∀ p ∈ T, p ∈ a :: b :: c :: d :: e :: T := fun _ hp => .tail _ (.tail _ (.tail _ (.tail _ (.tail _ hp))))

theorem sub_f {a b c d e f g i j : Addr × Obj} {T : List (Addr × Obj)} : ∀ p ∈ g :: e :: f :: i :: j :: T, p ∈ a :: b :: c :: d :: e :: f :: g :: i :: j :: T := fun p hp => by
  simp only [List.mem_cons] at hp ⊢
  rcases hp with h | h | h | h | h | h <;> simp [h]

theorem sub_g {a b c d e : Addr × Obj} {T : List (Addr × Obj)} : ∀ p ∈ c :: a :: d :: e :: T, p ∈ a :: b :: c :: d :: e :: T := fun p hp => by
  simp only [List.mem_cons] at hp ⊢
  rcases hp with h | h | h | h | h <;> simp [h]

/-- the figures by two of a rest, many of them -/
def figs (mn : Nat) (x : Int) : List Int := (digs 1 (cnt 1 x) x ++ List.replicate mn 0).take mn
def figsum (mn : Nat) (x : Int) : Int := (figs mn x).sum
theorem figsum_is {mn : Nat} {k : Int} : (List.take ((mn : Int)).toNat (digs 1 (cnt 1 k) k ++ (List.replicate ((mn : Int)).toNat [(0 : Int)]).flatten)).sum = figsum mn k := by
  rw [Int.toNat_natCast, rep_flat]
  rfl

def least : List Int → Int
  | [] => 0
  | [x] => x
  | x :: y :: r => if x ≤ least (y :: r) then x else least (y :: r)

theorem least_mem : ∀ {rs : List Int}, rs ≠ [] → least rs ∈ rs
  | [], h => absurd rfl h
  | [x], _ => List.mem_cons_self ..
  | x :: y :: r, _ => by
    unfold least
    split
    · exact List.mem_cons_self ..
    · exact List.mem_cons_of_mem _ (least_mem (List.cons_ne_nil y r))
theorem least_le : ∀ {rs : List Int}, ∀ a ∈ rs, least rs ≤ a
  | [x], a, h => by
    rw [List.mem_singleton.mp h]
    exact Int.le_refl _
  | x :: y :: r, a, h => by
    unfold least
    split
    · rename_i hx
      rcases List.mem_cons.mp h with rfl | h
      · exact Int.le_refl _
      · exact Int.le_trans hx (least_le a h)
    · rename_i hx
      rcases List.mem_cons.mp h with rfl | h
      · omega
      · exact least_le a h
theorem least_is {rs : List Int} {M : Int} (h : M ∈ rs) (hl : ∀ a ∈ rs, M ≤ a) : M = least rs :=
  Int.le_antisymm (hl _ (least_mem (List.ne_nil_of_mem h))) (least_le M h)

/-- all that the law asks of one rest -/
def chk (mn cn i : Nat) : Bool := match lround cn i mn [(i : Int)] with
  | none => false
  | some rs => decide (1 ≤ rs.length ∧ rs.length ≤ 6) && decide ((mn : Int).fmod (rs.length : Int) = 0) && decide (∀ a ∈ rs, 0 ≤ a ∧ a < (cn : Int)) && decide ((figs mn i).length = mn) && decide (∀ d ∈ figs mn i, 0 ≤ d ∧ d < 2) &&
    decide (dval 1 (figs mn i) = (i : Int)) && decide (dval 1 ((figs mn i).drop (mn - 1) ++ (figs mn i).take (mn - 1)) = rs.getD ((1 : Int).fmod (rs.length : Int)).toNat 0) &&
    decide (rs.map (figsum mn) = List.replicate rs.length (figsum mn i)) && decide (rs.sum * (mn : Int) = (rs.length : Int) * figsum mn i * (cn : Int))
theorem chk_all : ∀ mn, mn < 7 → 2 ≤ mn → ∀ i, i < 2 ^ mn - 1 → chk mn (2 ^ mn - 1) i = true := by decide +kernel

theorem chk_facts {mn cn i : Nat} (h : chk mn cn i = true) : ∃ rs, lround cn i mn [(i : Int)] = some rs ∧ (1 ≤ rs.length ∧ rs.length ≤ 6) ∧ (mn : Int).fmod (rs.length : Int) = 0 ∧ (∀ a ∈ rs, 0 ≤ a ∧ a < (cn : Int)) ∧ (figs mn i).length = mn ∧ (∀ d ∈ figs mn i, 0 ≤ d ∧ d < 2) ∧
    dval 1 (figs mn i) = (i : Int) ∧ dval 1 ((figs mn i).drop (mn - 1) ++ (figs mn i).take (mn - 1)) = rs.getD ((1 : Int).fmod (rs.length : Int)).toNat 0 ∧ rs.map (figsum mn) = List.replicate rs.length (figsum mn i) ∧ rs.sum * (mn : Int) = (rs.length : Int) * figsum mn i * (cn : Int) := by
  unfold chk at h
  split at h
  · cases h
  · rename_i rs e
    simp only [Bool.and_eq_true, decide_eq_true_eq] at h
    obtain ⟨⟨⟨⟨⟨⟨⟨⟨h1, h2⟩, h3⟩, h4⟩, h5⟩, h6⟩, h7⟩, h8⟩, h9⟩ := h
    exact ⟨rs, e, h1, h2, h3, h4, h5, h6, h7, h8, h9⟩

/-- the least ones of the rounds of the rests below i, in order -/
def ordStep (mn cn : Nat) (ord : List Int) (i : Nat) : List Int := match lround cn i mn [(i : Int)] with
  | none => ord
  | some rs => let p := bsearch ord (least rs) ord.length 0 ord.length
    if p = ord.length ∨ ord.getD p 0 ≠ least rs then insAt ord p (least rs) else ord
def orderOf (mn cn : Nat) : Nat → List Int
  | 0 => []
  | i + 1 => ordStep mn cn (orderOf mn cn i) i
theorem insAt_len {ns : List Int} {b : Nat} {x : Int} : (insAt ns b x).length = ns.length + 1 := by
  unfold insAt
  rw [List.length_append, List.length_cons, List.length_take, List.length_drop]
  omega
theorem order_ins {mn cn i : Nat} {ns rs : List Int} (p : ns = orderOf mn cn i) (hr : lround cn i mn [(i : Int)] = some rs) (hc : bsearch ns (least rs) ns.length 0 ns.length = ns.length ∨ ns.getD (bsearch ns (least rs) ns.length 0 ns.length) 0 ≠ least rs) :
    insAt ns (bsearch ns (least rs) ns.length 0 ns.length) (least rs) = orderOf mn cn (i + 1) := by
  unfold orderOf ordStep
  rw [← p, hr]
  dsimp only
  rw [if_pos hc]
theorem order_skip {mn cn i : Nat} {ns rs : List Int} (p : ns = orderOf mn cn i) (hr : lround cn i mn [(i : Int)] = some rs) (hc : ¬ (bsearch ns (least rs) ns.length 0 ns.length = ns.length ∨ ns.getD (bsearch ns (least rs) ns.length 0 ns.length) 0 ≠ least rs)) :
    ns = orderOf mn cn (i + 1) := by
  unfold orderOf ordStep
  rw [← p, hr]
  dsimp only
  rw [if_neg hc]
theorem orderOf_len (mn cn : Nat) : ∀ i, (orderOf mn cn i).length ≤ i
  | 0 => Nat.le_refl _
  | i + 1 => by
    have ih := orderOf_len mn cn i
    unfold orderOf ordStep
    split
    · omega
    · dsimp only
      split
      · rw [insAt_len]; omega
      · omega
end Mine
end

section
open PySem PySem.W PySem.Spec PySem.Calls PyProof.Rows
namespace Mine
set_option maxRecDepth 100000
set_option maxHeartbeats 4000000

def CElt (h₀ : Heap) (L : Addr) (m : Str → Option Value) (s₁ : Shared) (news : List (Addr × Obj)) (p : Bool) (r : Int) (y : Value) (s₂ : Shared) : Prop :=
  p = true ∧ CPost h₀ L m s₁ news r y s₂
def CNo (h₀ : Heap) (L : Addr) (m : Str → Option Value) (s₁ : Shared) (news : List (Addr × Obj)) (p : Bool) (s₂ : Shared) : Prop :=
  p = false ∧ ∃ h' tk, s₂ = { s₁ with heap := h', toks := tk } ∧ Fr h₀ L h' m ∧ News h₀ L h' news
theorem CElt.intro {h₀ h' : Heap} {L : Addr} {m : Str → Option Value} {s₁ : Shared} {news : List (Addr × Obj)} {p : Bool} {r r' : Int} {t : Tok} {tk : Nat} (hp : p = true) (e : r' = r) (F : Fr h₀ L h' m) (N : News h₀ L h' news) : CElt h₀ L m s₁ news p r (.int r' t) { s₁ with heap := h', toks := tk } :=
  ⟨hp, CPost.intro e F N⟩
theorem CNo.intro {h₀ h' : Heap} {L : Addr} {m : Str → Option Value} {s₁ : Shared} {news : List (Addr × Obj)} {p : Bool} {tk : Nat} (hp : p = false) (F : Fr h₀ L h' m) (N : News h₀ L h' news) : CNo h₀ L m s₁ news p { s₁ with heap := h', toks := tk } :=
  ⟨hp, h', tk, rfl, F, N⟩

section
variable {prog : Program} {w : World} {A : Around} {h₀ : Heap} {L : Addr} {m : Str → Option Value} {env : Env} {ct elt : PySem.Expr} {x : Str} {scope : Scope} {cl : List (Str × Addr)} {s : Shared} {S : List (Addr × Obj) → Prop} {Fin : List Value → List (Addr × Obj) → Prop} {news : List (Addr × Obj)}
theorem comp_range_if {n : Nat} {a : Int} (p : Int → Bool) (g : Int → Int) (hS : S news)
    (turn : ∀ k t I oI C oC D m₂ ys h tk (E' : Value → Shared → Prop), a ≤ k → k < a + (n : Int) → LCg.NsObj oC m₂ → m₂ x = some (.int k t) → Fr h₀ L h m → News h₀ L h ((I, oI) :: (C, oC) :: (D, LCg.lst ys) :: news) → LCg.Off3 I C D news → ((@Ne Nat I C) ∧ (@Ne Nat I D) ∧ (@Ne Nat C D)) →
      wpAny (model prog w) A (isTrue ct (compEnvC scope cl C env) (eval ct (compEnvC scope cl C env))) (fun b s' => if b = true then wpAny (model prog w) A (eval elt (compEnvC scope cl C env)) (CElt h₀ L m { s with heap := h, toks := tk } ((I, oI) :: (C, oC) :: (D, LCg.lst ys) :: news) (p k) (g k)) E' s'
        else CNo h₀ L m { s with heap := h, toks := tk } ((I, oI) :: (C, oC) :: (D, LCg.lst ys) :: news) (p k) s') E' { s with heap := h, toks := tk })
    (fin : ∀ ys, IntsAre ys (((rangeKs a n).filter p).map g) → Fin ys news) : LCt.CompRestT prog w A h₀ L m env ct elt x scope cl s S (fun i v => ∃ t, v = .int (a + (i : Int)) t) Fin n 0 [] news := by
  have hlen : (rangeKs a n).length = n := rangeKs_length a n
  have key : ∀ (j i : Nat) (ys : List Value), i + j = n → IntsAre ys ((((rangeKs a n).take i).filter p).map g) → LCt.CompRestT prog w A h₀ L m env ct elt x scope cl s S (fun i v => ∃ t, v = .int (a + (i : Int)) t) Fin j i ys news := by
    intro j
    induction j with
    | zero =>
      intro i ys hi hy
      have e : i = (rangeKs a n).length := by omega
      subst e
      rw [List.take_length] at hy
      exact LCt.CompRestT.zero (fin ys hy)
    | succ j ih =>
      intro i ys hij hy
      refine LCt.CompRestT.succ ?_
      intro v I oI C oC D m₂ h tk E' hv hC hx F N off ne
      obtain ⟨t, hv'⟩ := hv
      rw [hv'] at hx
      have hk : (rangeKs a n)[i]? = some (a + (i : Int)) := by
        have hi : i < n := by omega
        simp [rangeKs, hi]
      refine wpAny_mono (turn _ t I oI C oC D m₂ ys h tk E' (by omega) (by omega) hC hx F N off ne) (fun b s₂ hq => ?_) fun _ _ e => e
      cases b with
      | true =>
        simp only [if_true] at hq ⊢
        refine wpAny_mono hq (fun y s₃ hr => ?_) fun _ _ e => e
        obtain ⟨hp, h', tk', t', hy', e, F', N'⟩ := hr
        refine ⟨h', tk', news, e, F', N', off, hS, ?_⟩
        rw [hy']
        refine ih (i + 1) _ (by omega) ?_
        rw [List.take_add_one, hk, List.filter_append, List.map_append]
        simpa [hp] using IntsAre.append hy (.cons (g (a + (i : Int))) t' .nil)
      | false =>
        simp only [Bool.false_eq_true, if_false] at hq ⊢
        obtain ⟨hp, h', tk', e, F', N'⟩ := hq
        refine ⟨h', tk', news, e, F', N', off, hS, ih (i + 1) _ (by omega) ?_⟩
        rw [List.take_add_one, hk, List.filter_append, List.map_append]
        simpa [hp] using hy
  exact key n 0 [] (by omega) (by simp only [List.take_zero, List.filter_nil, List.map_nil]; exact .nil)
end

theorem range_size1 {n : Nat} : Builtin.Range.rangeSize 1 ((n : Int) + 1) 1 = (n : Int) := by
  unfold Builtin.Range.rangeSize
  rw [if_pos (by decide)]
  split
  · rw [Int.ediv_one]; omega
  · omega
theorem range_small1 {n : Nat} (h : n < 1000000) : Builtin.Range.small 1 ((n : Int) + 1) 1 = true := by
  unfold Builtin.Range.small
  rw [range_size1]
  unfold Builtin.Range.rangeFitsLong
  simp
  omega

theorem law_ends {cl : Str → Option Addr} {mean : ExcName → Option Value} {scr : List Int} {s₁ s' : Shared} {L : Addr} {m : Str → Option Value} (F : Fr s₁.heap L s'.heap m) (hg : s'.gens = #[]) (hos : s'.os = s₁.os) :
    GoodW PySem.Challenge.rw_kl0445_01.row.claim cl mean [ofPy (PyData.list (List.map PyData.int scr))] s₁ (.ok (.ret (.bool true))) s' := by
  refine goodW_bool F hg (raisesW_false ?_) ?_ hos
  · wrow_none_raised
  · wrow_post
theorem sub_h {a b c d e f : Addr × Obj} {T : List (Addr × Obj)} : ∀ p ∈ d :: c :: e :: f :: T, p ∈ a :: b :: c :: d :: e :: f :: T := fun p hp => by
  simp only [List.mem_cons] at hp ⊢
  rcases hp with h | h | h | h | h <;> simp [h]
theorem phi_bounds (k : Int) : 1 ≤ phi k ∧ phi k ≤ 4 := by
  unfold phi
  repeat' split
  all_goals decide
theorem two_bounds {x : Int} (h : 0 ≤ x ∧ x ≤ 6) : 1 ≤ (2 : Int) ^ x.toNat ∧ (2 : Int) ^ x.toNat ≤ 64 := by
  have h : x = 0 ∨ x = 1 ∨ x = 2 ∨ x = 3 ∨ x = 4 ∨ x = 5 ∨ x = 6 := by omega
  rcases h with rfl | rfl | rfl | rfl | rfl | rfl | rfl <;> decide
theorem perm_sorted : ∀ {a b : List Int}, a.Perm b → a.Pairwise (· ≤ ·) → b.Pairwise (· ≤ ·) → a = b
  | [], _, p, _, _ => (List.nil_perm.mp p).symm
  | x :: a, [], p, _, _ => absurd p.length_eq (by simp)
  | x :: a, y :: b, p, ha, hb => by
    obtain ⟨ha1, ha2⟩ := List.pairwise_cons.mp ha
    obtain ⟨hb1, hb2⟩ := List.pairwise_cons.mp hb
    have e : x = y := by
      have h1 : x ∈ y :: b := p.mem_iff.mp (List.mem_cons_self ..)
      have h2 : y ∈ x :: a := p.mem_iff.mpr (List.mem_cons_self ..)
      rcases List.mem_cons.mp h1 with h1 | h1
      · exact h1
      · rcases List.mem_cons.mp h2 with h2 | h2
        · exact h2.symm
        · exact Int.le_antisymm (ha1 _ h2) (hb1 _ h1)
    subst e
    rw [perm_sorted (List.Perm.cons_inv p) ha2 hb2]
theorem order_sorted : ∀ mn, mn < 7 → 2 ≤ mn → (orderOf mn (2 ^ mn - 1) (2 ^ mn - 1)).Pairwise (· ≤ ·) := by decide +kernel
def divs (mn : Nat) (k : Int) : Bool := decide ((mn : Int).fmod k = 0)
def wayOf (mn : Nat) (k : Int) : Int := phi k * 2 ^ ((mn : Int).fdiv k).toNat
def waysOf (mn : Nat) : List Int := ((rangeKs 1 mn).filter (divs mn)).map (wayOf mn)

/-- what the law asks at the end: the count of the orders -/
def endChk (mn : Nat) : Bool :=
  decide (0 ≤ (waysOf mn).sum ∧ (waysOf mn).sum < 4096 ∧ (waysOf mn).length ≤ 6) && decide ((waysOf mn).sum % (mn : Int) = 0) && decide (((orderOf mn (2 ^ mn - 1) (2 ^ mn - 1)).length : Int) = (waysOf mn).sum / (mn : Int) - 1)
theorem endChk_all : ∀ mn, mn < 7 → 2 ≤ mn → endChk mn = true := by decide +kernel

/-- what the law asks of the rest that is drawn -/
def drawChk (mn cn d : Nat) : Bool := match lround cn d mn [(d : Int)], lround cn ((cn - d : Nat) : Int) mn [((cn - d : Nat) : Int)] with
  | some r1, some r2 => decide (1 ≤ r1.length ∧ r1.length ≤ 6) && decide (r1.map (fun k => (cn : Int) - k) = r2) &&
    (let ord := orderOf mn cn cn; let p := bsearch ord (least r1) ord.length 0 ord.length; decide (p < ord.length) && decide (ord.getD p 0 = least r1))
  | _, _ => false
theorem draw_facts {mn cn d : Nat} (h : drawChk mn cn d = true) (hd : d ≤ cn) : ∃ r1 r2, lround cn d mn [(d : Int)] = some r1 ∧ lround cn ((cn : Int) - (d : Int)) mn [(cn : Int) - (d : Int)] = some r2 ∧ (1 ≤ r1.length ∧ r1.length ≤ 6) ∧ r1.map (fun k => (cn : Int) - k) = r2 ∧
    bsearch (orderOf mn cn cn) (least r1) (orderOf mn cn cn).length 0 (orderOf mn cn cn).length < (orderOf mn cn cn).length ∧ (orderOf mn cn cn).getD (bsearch (orderOf mn cn cn) (least r1) (orderOf mn cn cn).length 0 (orderOf mn cn cn).length) 0 = least r1 := by
  unfold drawChk at h
  rw [Int.ofNat_sub hd] at h
  split at h
  · rename_i r1 r2 e1 e2
    simp only [Bool.and_eq_true, decide_eq_true_eq] at h
    obtain ⟨⟨h1, h2⟩, h3, h4⟩ := h
    exact ⟨r1, r2, e1, e2, h1, h2, h3, h4⟩
  · cases h
theorem drawn_is (y : Int) {cn : Nat} (h : 2 ≤ cn) : ∃ d : Nat, 1 + y.fmod ((cn : Int) - 1) = (d : Int) ∧ 0 < d ∧ d < cn := by
  rw [Int.fmod_eq_emod_of_nonneg _ (by omega)]
  have h1 := Int.emod_nonneg y (show (cn : Int) - 1 ≠ 0 by omega)
  have h2 := Int.emod_lt_of_pos y (show (0 : Int) < (cn : Int) - 1 by omega)
  exact ⟨(1 + y % ((cn : Int) - 1)).toNat, by omega, by omega, by omega⟩
theorem drawChk_all : ∀ mn, mn < 7 → 2 ≤ mn → ∀ d, d < 2 ^ mn - 1 → 0 < d → drawChk mn (2 ^ mn - 1) d = true := by decide +kernel
end Mine
end

section
open PySem PySem.W PySem.Spec PySem.Calls PyProof.Rows
namespace Mine
set_option maxRecDepth 100000
set_option maxHeartbeats 8000000
local macro_rules | `(tactic| k_all) => `(tactic| first | exact AllNe.out (by assumption) | exact tail1 (by assumption) | exact tail2 (by assumption) | exact tail3 (by assumption) | exact tail4 (by assumption) | exact tail0 (by assumption))
local macro_rules | `(tactic| walk_at "call builtin:list.append") => `(tactic| (k_here; (try dsimp only [List.cons_append, List.nil_append]); (with_reducible show wpAny _ _ (call (Value.builtin _) [Value.ref _, _]) _ _ _); k_dflt (refine' append_K ?k1 ?k2 ?k3 ?_ ?z; (case k1 => k_asm); (case k2 => k_asm); (case k3 => k_upd); (case z => assumption); k_whole); intro h' F' N'; (try k_sweep)))
local macro_rules | `(tactic| walk_at "pyIter ref") => `(tactic| refine Halt.out ?_)
local macro_rules | `(tactic| walk_at "call ref") => `(tactic| refine Halt.out ?_)
local macro_rules | `(tactic| walk_at "CompSrc") => `(tactic| refine Halt.out ?_)
local macro_rules | `(tactic| walk_at "CompSrcT") => `(tactic| refine Halt.out ?_)
local macro_rules | `(tactic| walk_at "call builtin:sorted") => `(tactic| refine Halt.out ?_)

theorem law_walk : Boxed PySem.Challenge.rw_kl0445_01.Holds := ⟨hd (by
  w_strict (
    k_go0
    (all_goals try k_fold)
    k_steps
    refine Halt.on ?_
    rename IntsAre _ _ => hints
    rename IsRange _ _ _ _ _ _ _ _ => hR
    rename Fr _ _ _ _ => FB
    rename News _ _ _ _ => NB
    rename Frag.In _ _ => XX
    rename Top _ _ _ _ _ _ => TT
    rename Below _ _ _ _ => KK
    rename List Int => scr
    rename Shared => s1
    rename Heap.IsList _ _ _ => hscr
    rename_i W s0 mg mb G Y fa o9 pm9 cd9 doc9 ho9 hcd9 hgens XM VM TM BM TEM TWM hs9 hlay9 hL9 hr9 hl29 wl1 wl2 sa sv w2 hL ra w1 r0 hr hc1 hc2 hD hh1 tkk1 wa wb left right X0 ch1 l0 h7 tk7 t7 h6 om dmany tk1 hlo hhi ordA h5 l1a tupA h4 l1b h3 h2 oc dcount h1 F1 N1 hz tkz ta ua va keepB
    obtain ⟨mn, hM, hm2, hm6⟩ : ∃ mn : Nat, 2 + scr.sum.fmod 5 = (mn : Int) ∧ 2 ≤ mn ∧ mn ≤ 6 := ⟨(2 + scr.sum.fmod 5).toNat, by omega, by omega, by omega⟩
    rw [hM] at dmany dcount hR
    rw [Int.toNat_natCast] at dcount hR
    obtain ⟨cn, hcn⟩ : ∃ cn : Nat, cn = 2 ^ mn - 1 := ⟨_, rfl⟩
    have hcI : (2 : Int) ^ mn - 1 = (cn : Int) := by
      rw [hcn, ← kbt_cast]
      have := Nat.pow_pos (n := mn) (show 0 < 2 by decide)
      omega
    have hcb : 3 ≤ cn ∧ cn ≤ 63 := hcn ▸ pow_bounds hm2 hm6
    rw [hcI] at dcount hR
    obtain ⟨tm, dm⟩ : ∃ t, om.data = .cell (some (.int (mn : Int) t)) := ⟨_, dmany⟩
    obtain ⟨tc, dc⟩ : ∃ t, oc.data = .cell (some (.int (cn : Int) t)) := ⟨_, dcount⟩
    clear dmany dcount F1 N1 keepB
    have NB' : News (ghostOf s1.heap [(41, 37), (34, 30)]) s1.heap.objs.size hz ((ordA, listOf ([] : List Value).toArray 0) :: (s1.heap.objs.size + 1 + 1, oc) :: (s1.heap.objs.size + 1, om) :: [(30, tabObj #[]), (37, tabObj #[])]) := news_sub NB fun p hp => by
      simp only [List.mem_cons, List.not_mem_nil, or_false] at hp ⊢
      rcases hp with h | h | h | h | h <;> simp [h]
    obtain ⟨m0, Fm, hkn⟩ : ∃ m0, Fr (ghostOf s1.heap [(41, 37), (34, 30)]) s1.heap.objs.size hz m0 ∧ Know m0 [(Str.ofString "order", Value.ref ordA), (Str.ofString "script", Value.ref sa)] := by
      with_unfolding_all exact ⟨_, FB, .cons rfl (.cons rfl .nil)⟩
    clear FB NB
    have hT0 : TabsOk [(30, tabObj #[]), (37, tabObj #[])] := ⟨[(30, tabObj #[])], [(37, tabObj #[])], rfl, .inl rfl, .inl rfl, disj_consL.mpr ⟨allNe1 (by decide), disj_nil⟩⟩
    (with_unfolding_all refine' range_inv (σ := StL) (fun c => (ordA, listOf c.vs.toArray c.k) :: (s1.heap.objs.size + 1 + 1, oc) :: (s1.heap.objs.size + 1, om) :: c.T) (fun c => [(Str.ofString "order", Value.ref ordA), (Str.ofString "script", Value.ref sa)]) (fun i c => IntsAre c.vs c.ns ∧ c.ns = orderOf mn cn i ∧ TabsOk c.T ∧ AllNe ordA c.T ∧ AllNe (s1.heap.objs.size + 1 + 1) c.T ∧ AllNe (s1.heap.objs.size + 1) c.T) ⟨[], 0, [], [(30, tabObj #[]), (37, tabObj #[])]⟩ (by rfl) hR (range_small (by omega)) range_size Fm NB' hkn ⟨.nil, rfl, hT0, allNe2 (by dsimp only; omega) (by dsimp only; omega), allNe2 (by dsimp only; omega) (by dsimp only; omega), allNe2 (by dsimp only; omega) (by dsimp only; omega)⟩ (fun c i t I it u hh tkk hi hP hne F3 N3 => ?_) (fun c u hh tkk hP F3 N3 => ?_))
    · clear Fm NB' hR hT0 hkn l1b hhi hlo hM hscr hints
      clear G Y ho9 hcd9 hT8 XM VM TM BM TEM TWM hT9 hs9 hlay9 hL9 hr9 hl29 hL ra w1 r0 hr hc1 hc2 hD left right X0 ch1 codeHd
      obtain ⟨p1, p2, p3, p4, p5, p6⟩ := hP
      have hne' := allNe_of hne
      simp only [AllNe] at hne'
      obtain ⟨n1, n2, n3, n4⟩ := hne'
      have hchk : chk mn cn i = true := by
        rw [hcn] at hi ⊢
        exact chk_all mn (by omega) hm2 i hi
      rw [Int.zero_add] at F3
      (try k_fold)
      k_steps
      refine Halt.on ?_
      obtain ⟨rs, hround, hlen, hmod, hrs, hfl, hfd, hfv, hrot, hones, hsums⟩ := chk_facts hchk
      k_dflt (refine' Gives.use (c_round (rest0 := (i : Int)) (count := (cn : Int)) (many := mn) (rs := rs) (by omega) (by omega) (by omega) (by omega) hround) (act := c.T) (rest := [(I, it), (ordA, listOf c.vs.toArray c.k), (s1.heap.objs.size + 1 + 1, oc), (s1.heap.objs.size + 1, om)]) ?kBca ?kFca ?kXca (news_rot (own := [(I, it), (ordA, listOf c.vs.toArray c.k), (s1.heap.objs.size + 1 + 1, oc), (s1.heap.objs.size + 1, om)]) ?kNca) ?kDisca ?kTca ?kkca p3 ?kdca ?kuca ?_; (case kNca => exact N3); (case kDisca => exact disj_consR.mpr ⟨n4, disj_consR.mpr ⟨p4, disj_consR.mpr ⟨p5, disj_consR.mpr ⟨p6, disj_nilR⟩⟩⟩⟩); (case kBca => k_asm); (case kFca => k_asm); (case kXca => k_asm); (case kTca => k_asm); (case kkca => first | exact rfl | assumption); (case kdca => ktr_room); (case kuca => ktr_units))
      rintro _ _ h5' tk5 F5 N5 D5 ⟨ld, vd, kd, T, rfl, rfl, hvd, hT, hTd, hTk⟩
      replace N5 := news_back1 N5
      simp only [List.cons_append, List.nil_append] at N5
      simp only [disj_consL, disj_consR, AllNe] at D5
      obtain ⟨⟨d1, e1⟩, ⟨d2, e2⟩, ⟨d3, e3⟩, ⟨d4, e4⟩, _⟩ := D5
      clear n4 p3 p4 p5 p6 hTk
      have hpos : ∀ a ∈ rs, 0 ≤ a := fun a ha => (hrs a ha).1
      have hvl : vd.length = rs.length := hvd.length
      k_steps
      · exact absurd hmod (by assumption)
      rotate_left
      · exact absurd (hpos _ (by assumption)) (by assumption)
      refine Halt.on ?_
      rename Fr _ _ _ _ => FM
      rename News _ _ _ _ => NM
      k_dflt (refine' Gives.use (c_int2digitsT (x := (i : Int)) (n := 1) (by omega) (by omega) (by decide) (by decide)) (act := T) (rest := [(ld, listOf vd.toArray kd), (I, it), (ordA, listOf c.vs.toArray c.k), (s1.heap.objs.size + 1 + 1, oc), (s1.heap.objs.size + 1, om)]) ?kBcb ?kFcb ?kXcb (news_rot (own := [(ld, listOf vd.toArray kd), (I, it), (ordA, listOf c.vs.toArray c.k), (s1.heap.objs.size + 1 + 1, oc), (s1.heap.objs.size + 1, om)]) ?kNcb) ?kDiscb ?kTcb ?kkcb hT.ok ?kdcb ?kucb ?_; (case kNcb => exact NM); (case kDiscb => exact disj_consR.mpr ⟨hTd, disj_consR.mpr ⟨e1, disj_consR.mpr ⟨e2, disj_consR.mpr ⟨e3, disj_consR.mpr ⟨e4, disj_nilR⟩⟩⟩⟩⟩); (case kBcb => k_asm); (case kFcb => k_asm); (case kXcb => k_asm); (case kTcb => k_asm); (case kkcb => first | exact rfl | assumption); (case kdcb => ktr_room); (case kucb => ktr_units))
      rintro _ _ h6' tk6 F6 N6 D6 ⟨l6, v6, k6, T6, rfl, rfl, hv6, _, hT6, hkp6⟩
      cases hkp6 hT
      replace N6 := news_back1 N6
      simp only [List.cons_append, List.nil_append] at N6
      replace D6 := (disj_consL.mp D6).1
      simp only [AllNe] at D6
      have hl6 : (digs 1 (cnt 1 (i : Int)) (i : Int)).length ≤ 16 := by rw [digs_length]; exact cnt_le16 (by omega) (by omega)
      k_steps
      refine Halt.on ?_
      rename Fr _ _ _ _ => FM
      rename News _ _ _ _ => NM
      rename_i fl fws fh hfI hfC hfL fl1 fh2
      rw [Int.toNat_natCast, rep_flat] at hfI
      change IntsAre fws (figs mn (i : Int)) at hfI
      have hfT : AllNe fl T := allNe_of fun p hp => Nat.ne_of_lt (ktn_ltOf fl1.2.2.2.2.2.2.2.2.2 p hp)
      have hns : ∀ d ∈ figs mn (i : Int), 0 ≤ d ∧ d < 2 ^ 1 := hfd
      k_dflt (refine' Gives.use (c_digits2intT (n := 1) (l := fl) (vs := fws) (k := 0) (ns := figs mn (i : Int)) hfI (by decide) hns (by omega) (by omega)) (act := (fl, listOf fws.toArray 0) :: T) (rest := [(ld, listOf vd.toArray kd), (I, it), (ordA, listOf c.vs.toArray c.k), (s1.heap.objs.size + 1 + 1, oc), (s1.heap.objs.size + 1, om)]) ?kBcc ?kFcc ?kXcc (news_rotC (own := [(ld, listOf vd.toArray kd), (I, it), (ordA, listOf c.vs.toArray c.k), (s1.heap.objs.size + 1 + 1, oc), (s1.heap.objs.size + 1, om)]) ?kNcc) ?kDiscc ?kTcc ?kkcc ⟨T, rfl, hT.ok, hfT⟩ ?kdcc ?kucc ?_; (case kNcc => exact (news_sub NM sub_a)); (case kDiscc => exact disj_consR.mpr ⟨allNe_cons (by dsimp only; omega) hTd, disj_consR.mpr ⟨allNe_cons (by dsimp only; omega) e1, disj_consR.mpr ⟨allNe_cons (by dsimp only; omega) e2, disj_consR.mpr ⟨allNe_cons (by dsimp only; omega) e3, disj_consR.mpr ⟨allNe_cons (by dsimp only; omega) e4, disj_nilR⟩⟩⟩⟩⟩); (case kBcc => k_asm); (case kFcc => k_asm); (case kXcc => k_asm); (case kTcc => k_asm); (case kkcc => first | exact rfl | assumption); (case kdcc => ktr_room); (case kucc => ktr_units))
      rintro _ _ h7' tk7 F7 N7 D7 ⟨t7, T7, rfl, rfl, _, hl7, hkp7⟩
      cases (hkp7 T rfl).2 hT
      replace N7 := news_backC N7
      simp only [List.cons_append, List.nil_append] at N7
      replace D7 := (disj_consL.mp D7).1
      simp only [AllNe] at D7
      clear fl1 D6
      have hfl2 : fws.length = (figs mn (i : Int)).length := hfI.length
      have hix0 : 0 ≤ (1 : Int).fmod (rs.length : Int) ∧ (1 : Int).fmod (rs.length : Int) < (rs.length : Int) := by
        rw [Int.fmod_eq_emod_of_nonneg _ (by omega)]
        exact ⟨Int.emod_nonneg _ (by omega), Int.emod_lt_of_pos _ (by omega)⟩
      k_steps
      · exact absurd hfv (by assumption)
      refine Halt.on ?_
      rename Fr _ _ _ _ => FM
      rename News _ _ _ _ => NM
      rename_i rl rws rh hrI rl1
      rw [hfl] at hrI
      have hrT : AllNe rl T := allNe_of fun p hp => Nat.ne_of_lt (ktn_ltOf rl1.2.2.2.2.2.2.2.2 p hp)
      have hrd : ∀ d ∈ (figs mn (i : Int)).drop (mn - 1) ++ (figs mn (i : Int)).take (mn - 1), 0 ≤ d ∧ d < 2 ^ 1 := fun d hd => (List.mem_append.mp hd).elim (fun h => hfd d (List.mem_of_mem_drop h)) (fun h => hfd d (List.mem_of_mem_take h))
      have hrlen : ((figs mn (i : Int)).drop (mn - 1) ++ (figs mn (i : Int)).take (mn - 1)).length ≤ 16 := by
        rw [List.length_append, List.length_drop, List.length_take, hfl]
        omega
      k_dflt (refine' Gives.use (c_digits2intT (n := 1) (l := rl) (vs := rws) (k := 0) (ns := (figs mn (i : Int)).drop (mn - 1) ++ (figs mn (i : Int)).take (mn - 1)) hrI (by decide) hrd (by omega) hrlen) (act := (rl, listOf rws.toArray 0) :: T) (rest := [(fl, listOf fws.toArray 0), (ld, listOf vd.toArray kd), (I, it), (ordA, listOf c.vs.toArray c.k), (s1.heap.objs.size + 1 + 1, oc), (s1.heap.objs.size + 1, om)]) ?kBcd ?kFcd ?kXcd (news_rotC (own := [(fl, listOf fws.toArray 0), (ld, listOf vd.toArray kd), (I, it), (ordA, listOf c.vs.toArray c.k), (s1.heap.objs.size + 1 + 1, oc), (s1.heap.objs.size + 1, om)]) ?kNcd) ?kDiscd ?kTcd ?kkcd ⟨T, rfl, hT.ok, hrT⟩ ?kdcd ?kucd ?_; (case kNcd => exact (news_sub NM sub_b)); (case kDiscd => exact disj_consR.mpr ⟨allNe_cons (by dsimp only; omega) hfT, disj_consR.mpr ⟨allNe_cons (by dsimp only; omega) hTd, disj_consR.mpr ⟨allNe_cons (by dsimp only; omega) e1, disj_consR.mpr ⟨allNe_cons (by dsimp only; omega) e2, disj_consR.mpr ⟨allNe_cons (by dsimp only; omega) e3, disj_consR.mpr ⟨allNe_cons (by dsimp only; omega) e4, disj_nilR⟩⟩⟩⟩⟩⟩); (case kBcd => k_asm); (case kFcd => k_asm); (case kXcd => k_asm); (case kTcd => k_asm); (case kkcd => first | exact rfl | assumption); (case kdcd => ktr_room); (case kucd => ktr_units))
      rintro _ _ h8' tk8 F8 N8 D8 ⟨t8, T8, rfl, rfl, _, hl8, hkp8⟩
      cases (hkp8 T rfl).2 hT
      replace N8 := news_tail (news_backC N8)
      simp only [List.cons_append, List.nil_append] at N8
      clear rl1 D8 FM NM hrI
      k_steps
      · exact absurd hrot (by assumption)
      refine Halt.on ?_
      rename Fr _ _ _ _ => FM
      rename News _ _ _ _ => NM
      k_dflt (refine LCg.CompSrc.ledger (by rfl) FM NM (.tail _ (.head _)) (by rw [sizeLine_eq, List.size_toArray]; omega) ?_)
      intro gq
      refine comp_ints (figsum mn) hvd (.inr ⟨_, .tail _ (.head _), rfl, _, rfl⟩) (fun k' t' I' oI' C' oC' D' m' ys' hq tkq E' hk' hC' hx' F' N' off' ne' => ?_) ?_
      · have oT : ∀ p ∈ T, p.1 ≠ I' ∧ p.1 ≠ C' ∧ p.1 ≠ D' := fun p hp => off'.mem p (.tail _ (.tail _ (.tail _ (.tail _ (.tail _ (.tail _ hp))))))
        have o1 : AllNe I' T := allNe_of fun p hp => (oT p hp).1
        have o2 : AllNe C' T := allNe_of fun p hp => (oT p hp).2.1
        have o3 : AllNe D' T := allNe_of fun p hp => (oT p hp).2.2
        clear off' oT
        have hkb := hrs k' hk'
        (try k_fold)
        k_steps
        refine Halt.on ?_
        rename Fr _ _ _ _ => FN
        rename News _ _ _ _ => NN
        k_dflt (refine' Gives.use (c_int2digitsT (x := k') (n := 1) (by omega) (by omega) (by decide) (by decide)) (act := T) (rest := [(I', oI'), (C', oC'), (D', LCg.lst ys'), (fl, listOf fws.toArray 0), (ld, listOf vd.toArray kd), (I, it), (ordA, listOf c.vs.toArray c.k), (s1.heap.objs.size + 1 + 1, oc), (s1.heap.objs.size + 1, om)]) ?kBce ?kFce ?kXce (news_rot (own := [(I', oI'), (C', oC'), (D', LCg.lst ys'), (fl, listOf fws.toArray 0), (ld, listOf vd.toArray kd), (I, it), (ordA, listOf c.vs.toArray c.k), (s1.heap.objs.size + 1 + 1, oc), (s1.heap.objs.size + 1, om)]) ?kNce) ?kDisce ?kTce ?kkce hT.ok ?kdce ?kuce ?_; (case kNce => exact NN); (case kDisce => exact disj_consR.mpr ⟨o1, disj_consR.mpr ⟨o2, disj_consR.mpr ⟨o3, disj_consR.mpr ⟨hfT, disj_consR.mpr ⟨hTd, disj_consR.mpr ⟨e1, disj_consR.mpr ⟨e2, disj_consR.mpr ⟨e3, disj_consR.mpr ⟨e4, disj_nilR⟩⟩⟩⟩⟩⟩⟩⟩⟩); (case kBce => k_asm); (case kFce => k_asm); (case kXce => k_asm); (case kTce => k_asm); (case kkce => first | exact rfl | assumption); (case kdce => ktr_room); (case kuce => ktr_units))
        rintro _ _ h9' tk9 F9 N9 D9 ⟨l9, v9, k9, T9, rfl, rfl, hv9, _, hT9, hkp9⟩
        cases hkp9 hT
        replace N9 := news_back1 N9
        simp only [List.cons_append, List.nil_append] at N9
        clear D9
        have hl9 : (digs 1 (cnt 1 k') k').length ≤ 16 := by rw [digs_length]; exact cnt_le16 (by omega) (by omega)
        k_steps
        rename News _ _ _ _ => NQ
        exact CPost.intro figsum_is (by k_asm) (news_sub NQ sub_e)
      intro ys hys onesA hq tkq FO NO off1
      have hoT := off1_ne off1
      simp only [AllNe] at hoT
      obtain ⟨q1, q2, q3, q4, q5, q6, hoT⟩ := hoT
      (try k_fold)
      k_steps
      · exact absurd hsums (by assumption)
      rotate_left
      · exact absurd ((by rw [Int.toNat_natCast, rep_flat]; exact hones) : List.map (figsum mn) rs = (List.replicate ((rs.length : Int)).toNat [(figs mn (i : Int)).sum]).flatten) (by assumption)
      refine Halt.on ?_
      rename Fr _ _ _ _ => FM
      rename News _ _ _ _ => NM
      rename _ ∈ rs => hMm
      cases least_is hMm (by assumption)
      have hol : c.ns.length ≤ 62 := by
        rw [p2]
        have := orderOf_len mn cn i
        omega
      have hble := bsearch_le c.ns (least rs) c.ns.length 0 c.ns.length (Nat.zero_le _)
      have hcv : c.vs.length = c.ns.length := p1.length
      k_dflt (refine' Gives.use (c_bisect (x := least rs) (k := c.k) p1 (by omega)) (act := [(ordA, listOf c.vs.toArray c.k)]) (rest := ((ld, listOf vd.toArray kd) :: (I, it) :: (s1.heap.objs.size + 1 + 1, oc) :: (s1.heap.objs.size + 1, om) :: T)) ?kBcf ?kFcf ?kXcf ?kNcf ?kDiscf ?kTcf ?kkcf rfl ?kdcf ?kucf ?_; (case kNcf => exact news_sub NM sub_f); (case kDiscf => exact disj_consL.mpr ⟨allNe_cons (by dsimp only; omega) (allNe_cons (by dsimp only; omega) (allNe_cons (by dsimp only; omega) (allNe_cons (by dsimp only; omega) (e2)))), disj_nil⟩); (case kBcf => k_asm); (case kFcf => k_asm); (case kXcf => k_asm); (case kTcf => k_asm); (case kkcf => first | exact rfl | assumption); (case kdcf => ktr_room); (case kucf => ktr_units))
      rintro _ _ h10 tk10 F10 N10 D10 ⟨t10, rfl, rfl⟩
      simp only [List.cons_append, List.nil_append] at N10
      clear FM NM D10
      k_steps

      · refine Halt.on ?_
        rename Fr _ _ _ _ => FM
        rename News _ _ _ _ => NM
        rename _ ∈ rs => hA
        cases least_is hA (by assumption)
        k_dflt (refine' Gives.use (c_insort (x := least rs) (k := c.k) p1 (by omega)) (act := [(ordA, listOf c.vs.toArray c.k)]) (rest := ((ld, listOf vd.toArray kd) :: (I, it) :: (s1.heap.objs.size + 1 + 1, oc) :: (s1.heap.objs.size + 1, om) :: T)) ?kBcg ?kFcg ?kXcg ?kNcg ?kDiscg ?kTcg ?kkcg rfl ?kdcg ?kucg ?_; (case kNcg => exact NM); (case kDiscg => exact disj_consL.mpr ⟨allNe_cons (by dsimp only; omega) (allNe_cons (by dsimp only; omega) (allNe_cons (by dsimp only; omega) (allNe_cons (by dsimp only; omega) (e2)))), disj_nil⟩); (case kBcg => k_asm); (case kFcg => k_asm); (case kXcg => k_asm); (case kTcg => k_asm); (case kkcg => first | exact rfl | assumption); (case kdcg => ktr_room); (case kucg => ktr_units))
        have h9 : (bsearch c.ns (least rs) c.ns.length 0 c.ns.length : Int) = (c.ns.length : Int) := by assumption
        rintro _ _ h11 tk11 F11 N11 D11 ⟨v11, k11, rfl, rfl, hi11⟩
        simp only [List.cons_append, List.nil_append] at N11
        clear FM NM D11
        k_steps
        rename News _ _ _ _ => NQ
        exact RPost.next ⟨v11, k11, _, T⟩ (by k_asm) (news_sub NQ sub_g) (AllNe.out (allNe_cons n1 (allNe_cons n2 (allNe_cons n3 e1)))) (by with_unfolding_all exact .cons rfl (.cons rfl .nil)) ⟨hi11, order_ins p2 hround (.inl (by omega)), hT.ok, e2, e3, e4⟩
      · refine Halt.on ?_
        rename Fr _ _ _ _ => FM
        rename News _ _ _ _ => NM
        rename _ ∈ rs => hA
        cases least_is hA (by assumption)
        clear hA
        rename _ ∈ rs => hB
        cases least_is hB (by assumption)
        k_dflt (refine' Gives.use (c_insort (x := least rs) (k := c.k) p1 (by omega)) (act := [(ordA, listOf c.vs.toArray c.k)]) (rest := ((ld, listOf vd.toArray kd) :: (I, it) :: (s1.heap.objs.size + 1 + 1, oc) :: (s1.heap.objs.size + 1, om) :: T)) ?kBch ?kFch ?kXch ?kNch ?kDisch ?kTch ?kkch rfl ?kdch ?kuch ?_; (case kNch => exact NM); (case kDisch => exact disj_consL.mpr ⟨allNe_cons (by dsimp only; omega) (allNe_cons (by dsimp only; omega) (allNe_cons (by dsimp only; omega) (allNe_cons (by dsimp only; omega) (e2)))), disj_nil⟩); (case kBch => k_asm); (case kFch => k_asm); (case kXch => k_asm); (case kTch => k_asm); (case kkch => first | exact rfl | assumption); (case kdch => ktr_room); (case kuch => ktr_units))
        have h9 : c.ns.getD ((bsearch c.ns (least rs) c.ns.length 0 c.ns.length : Int)).toNat 0 ≠ least rs := by assumption
        rw [Int.toNat_natCast] at h9
        rintro _ _ h11 tk11 F11 N11 D11 ⟨v11, k11, rfl, rfl, hi11⟩
        simp only [List.cons_append, List.nil_append] at N11
        clear FM NM D11
        k_steps
        rename News _ _ _ _ => NQ
        exact RPost.next ⟨v11, k11, _, T⟩ (by k_asm) (news_sub NQ sub_g) (AllNe.out (allNe_cons n1 (allNe_cons n2 (allNe_cons n3 e1)))) (by with_unfolding_all exact .cons rfl (.cons rfl .nil)) ⟨hi11, order_ins p2 hround (.inr h9), hT.ok, e2, e3, e4⟩
      · rename News _ _ _ _ => NQ
        clear hMm
        rename _ ∈ rs => hA
        cases least_is hA (by assumption)
        have h8 : (bsearch c.ns (least rs) c.ns.length 0 c.ns.length : Int) ≠ (c.ns.length : Int) := by assumption
        have h9 : c.ns.getD ((bsearch c.ns (least rs) c.ns.length 0 c.ns.length : Int)).toNat 0 = least rs := by assumption
        rw [Int.toNat_natCast] at h9
        exact RPost.next ⟨c.vs, c.k, c.ns, T⟩ (by k_asm) (news_sub NQ sub_g) (AllNe.out (allNe_cons n1 (allNe_cons n2 (allNe_cons n3 e1)))) (by with_unfolding_all exact .cons rfl (.cons rfl .nil)) ⟨p1, order_skip p2 hround (fun h => h.elim (fun e => h8 (by rw [e])) (fun e => e h9)), hT.ok, e2, e3, e4⟩
    · dsimp only
      (try k_fold)
      clear Fm NB' hR hT0 hkn l1b hhi hlo
      obtain ⟨q1, q2, q3, q4, q5, q6⟩ := hP
      have hend : endChk mn = true := endChk_all mn (by omega) hm2
      unfold endChk at hend
      simp only [Bool.and_eq_true, decide_eq_true_eq] at hend
      rw [← hcn, ← q2] at hend
      obtain ⟨⟨⟨hw0, hw1, hw2⟩, hw3⟩, hw4⟩ := hend
      k_steps
      refine Halt.on ?_
      rename Fr _ _ _ _ => FM
      rename News _ _ _ _ => NM
      rename IsRange _ _ _ _ _ _ _ _ => hR1
      refine LCt.CompSrcT.range (by rfl) FM NM hR1 (range_small1 (by omega)) range_size1 (by rw [sizeLine_eq]; omega) ?_
      intro gq
      refine comp_range_if (divs mn) (wayOf mn) trivial (fun k' t' I' oI' C' oC' D' m' ys' hq tkq E' hlo' hhi' hC' hx' F' N' off' ne' => ?_) ?_
      · clear off' FM NM hR1 hw0 hw1 hw2 hw3 hw4
        (try k_fold)
        k_steps
        · refine Halt.on ?_
          rename Fr _ _ _ _ => FN
          rename News _ _ _ _ => NN
          k_dflt (refine' Gives.use (c_free (x := k') (by omega) (by omega)) (act := []) (rest := _) ?kBda ?kFda ?kXda ?kNda disj_nil ?kTda ?kkda rfl ?kdda ?kuda ?_; (case kNda => exact NN); (case kBda => k_asm); (case kFda => k_asm); (case kXda => k_asm); (case kTda => k_asm); (case kkda => first | exact rfl | assumption); (case kdda => ktr_room); (case kuda => ktr_units))
          rintro _ _ h9' tk9 F9 N9 D9 ⟨t9, rfl, rfl⟩
          clear FN NN D9
          have hfd : 0 ≤ (mn : Int).fdiv k' ∧ (mn : Int).fdiv k' ≤ 6 := by
            rw [Int.fdiv_eq_ediv_of_nonneg _ (by omega)]
            exact ⟨Int.ediv_nonneg (by omega) (by omega), Int.le_trans (Int.ediv_le_self _ (by omega)) (by omega)⟩
          have hphi := phi_bounds k'
          have hpw := two_bounds hfd
          k_steps
          exact CElt.intro (p := divs mn k') (decide_eq_true (by assumption)) rfl (by k_asm) (by k_asm)
        · exact CNo.intro (p := divs mn k') (decide_eq_false (by assumption)) (by k_asm) (by k_asm)
      clear FM NM hR1
      intro ys hys waysA hq tkq FO NO off1
      have hoT := off1_ne off1
      simp only [AllNe] at hoT
      replace hys : IntsAre ys (waysOf mn) := hys
      generalize waysOf mn = wl at hys hw0 hw1 hw2 hw3 hw4
      have hyl : ys.length ≤ 6 := by rw [hys.length]; exact hw2
      (try k_fold)
      k_steps
      refine Halt.on ?_
      rename Fr _ _ _ _ => FM
      rename News _ _ _ _ => NM
      k_dflt (refine' Gives.use (c_int_divmod (x := wl.sum) (b := (mn : Int)) hw0 hw1 (by omega) (by omega)) (act := c.T) (rest := [(ordA, listOf c.vs.toArray c.k), (s1.heap.objs.size + 1 + 1, oc), (s1.heap.objs.size + 1, om)]) ?kBdb ?kFdb ?kXdb (news_rot (own := [(ordA, listOf c.vs.toArray c.k), (s1.heap.objs.size + 1 + 1, oc), (s1.heap.objs.size + 1, om)]) ?kNdb) ?kDisdb ?kTdb ?kkdb q3 ?kddb ?kudb ?_; (case kNdb => exact (news_tail NM)); (case kDisdb => exact disj_consR.mpr ⟨q4, disj_consR.mpr ⟨q5, disj_consR.mpr ⟨q6, disj_nilR⟩⟩⟩); (case kBdb => k_asm); (case kFdb => k_asm); (case kXdb => k_asm); (case kTdb => k_asm); (case kkdb => first | exact rfl | assumption); (case kddb => ktr_room); (case kudb => ktr_units))
      rintro _ _ h6' tk6 F6 N6 D6 ⟨l6, t6, t6', T, rfl, rfl, hT, hlT, _⟩
      replace N6 := news_back1 N6
      simp only [List.cons_append, List.nil_append] at N6
      simp only [disj_consL, disj_consR, AllNe] at D6
      obtain ⟨⟨_, e2⟩, ⟨_, e3⟩, ⟨_, e4⟩, _⟩ := D6
      rw [hw3] at N6
      generalize hwq : wl.sum / (mn : Int) = wq at N6 hw4
      clear hys hyl hw0 hw1 hw2 hw3 FM NM hwq
      have hol : c.ns.length ≤ 63 := by
        rw [q2]
        have := orderOf_len mn cn cn
        omega
      have hcv : c.vs.length = c.ns.length := q1.length
      have hno : ¬ (((c.ns.length : Int) != wq - 1) = true) := by rw [← hw4]; simp
      iterate 33 walk1
      rw [if_neg hno]
      clear hno hw4
      k_steps
      refine Halt.on ?_
      rename Fr _ _ _ _ => FM
      rename News _ _ _ _ => NM
      have hsrt : c.ns.Pairwise (· ≤ ·) := by
        rw [q2, hcn]
        exact order_sorted mn (by omega) hm2
      k_dflt (refine kso_sorted FM NM (kso_isList (its := c.vs.toArray) NM (.tail _ (.head _)) rfl) q1 (by omega) ?_)
      intro D9 vs9 ns9 c9 h9 F9 N9 l9 hi9 _ hp9 ho9 _
      obtain rfl := perm_sorted hp9 ho9 hsrt
      clear hp9 ho9 FM NM
      k_steps
      refine Halt.on ?_
      rename Fr _ _ _ _ => FM
      rename News _ _ _ _ => NM
      obtain ⟨dn, hdn, hdn1, hdn2⟩ := drawn_is (if (scr ++ [0]).getD (Int.toNat 0) 0 < 0 then -(scr ++ [0]).getD (Int.toNat 0) 0 else (scr ++ [0]).getD (Int.toNat 0) 0) (show 2 ≤ cn by omega)
      rw [hdn] at FM ⊢
      clear hdn
      have hdc : drawChk mn cn dn = true := by
        rw [hcn] at hdn2 ⊢
        exact drawChk_all mn (by omega) hm2 dn hdn2 hdn1
      obtain ⟨r1, r2, hl1, hl2, hr1, hr2, hb1, hb2⟩ := draw_facts hdc (by omega)
      rw [← q2] at hb1 hb2
      clear hdc
      k_dflt (refine' Gives.use (c_round (rest0 := (dn : Int)) (count := (cn : Int)) (many := mn) (rs := r1) (by omega) (by omega) (by omega) (by omega) hl1) (act := T) (rest := [(ordA, listOf c.vs.toArray c.k), (s1.heap.objs.size + 1 + 1, oc), (s1.heap.objs.size + 1, om)]) ?kBdc ?kFdc ?kXdc (news_rot (own := [(ordA, listOf c.vs.toArray c.k), (s1.heap.objs.size + 1 + 1, oc), (s1.heap.objs.size + 1, om)]) ?kNdc) ?kDisdc ?kTdc ?kkdc hT.ok ?kddc ?kudc ?_; (case kNdc => exact (news_sub NM fun _ hp => by repeat (first | exact hp | apply List.Mem.tail))); (case kDisdc => exact disj_consR.mpr ⟨e2, disj_consR.mpr ⟨e3, disj_consR.mpr ⟨e4, disj_nilR⟩⟩⟩); (case kBdc => k_asm); (case kFdc => k_asm); (case kXdc => k_asm); (case kTdc => k_asm); (case kkdc => first | exact rfl | assumption); (case kddc => ktr_room); (case kudc => ktr_units))
      rintro _ _ h7' tk7 F7 N7 D7 ⟨ld, vd, kd, T7, rfl, rfl, hvd, _, hld, hk7⟩
      cases hk7 hT
      replace N7 := news_back1 N7
      simp only [List.cons_append, List.nil_append] at N7
      simp only [disj_consL, disj_consR, AllNe] at D7
      obtain ⟨⟨d2, _⟩, ⟨d3, _⟩, ⟨d4, _⟩, _⟩ := D7
      have hvl : vd.length = r1.length := hvd.length
      clear FM NM hk7
      k_steps
      refine Halt.on ?_
      rename Fr _ _ _ _ => FM
      rename News _ _ _ _ => NM
      k_dflt (refine' Gives.use (c_round (rest0 := (cn : Int) - (dn : Int)) (count := (cn : Int)) (many := mn) (rs := r2) (by omega) (by omega) (by omega) (by omega) hl2) (act := T) (rest := [(ld, listOf vd.toArray kd), (ordA, listOf c.vs.toArray c.k), (s1.heap.objs.size + 1 + 1, oc), (s1.heap.objs.size + 1, om)]) ?kBdd ?kFdd ?kXdd (news_rot (own := [(ld, listOf vd.toArray kd), (ordA, listOf c.vs.toArray c.k), (s1.heap.objs.size + 1 + 1, oc), (s1.heap.objs.size + 1, om)]) ?kNdd) ?kDisdd ?kTdd ?kkdd hT.ok ?kddd ?kudd ?_; (case kNdd => exact NM); (case kDisdd => exact disj_consR.mpr ⟨hld, disj_consR.mpr ⟨e2, disj_consR.mpr ⟨e3, disj_consR.mpr ⟨e4, disj_nilR⟩⟩⟩⟩); (case kBdd => k_asm); (case kFdd => k_asm); (case kXdd => k_asm); (case kTdd => k_asm); (case kkdd => first | exact rfl | assumption); (case kddd => ktr_room); (case kudd => ktr_units))
      rintro _ _ h8' tk8 F8 N8 D8 ⟨lo, vo, ko, T8, rfl, rfl, hvo, _, hlo, hk8⟩
      cases hk8 hT
      replace N8 := news_back1 N8
      simp only [List.cons_append, List.nil_append] at N8
      simp only [disj_consL, disj_consR, AllNe] at D8
      obtain ⟨⟨f1, _⟩, ⟨f2, _⟩, ⟨f3, _⟩, ⟨f4, _⟩, _⟩ := D8
      have hvl2 : vo.length = r2.length := hvo.length
      have hr2l : r2.length = r1.length := by rw [← hr2, List.length_map]
      clear FM NM hk8
      k_steps
      refine Halt.on ?_
      rename Fr _ _ _ _ => FM
      rename News _ _ _ _ => NM
      k_dflt (refine LCg.CompSrc.ledger (by rfl) FM NM (.tail _ (.head _)) (by rw [sizeLine_eq, List.size_toArray]; omega) ?_)
      intro gr
      refine comp_ints (fun k => (cn : Int) - k) hvd (.inr ⟨_, .tail _ (.head _), rfl, _, rfl⟩) (fun k' t' I' oI' C' oC' D' m' ys' hq tkq E' hk' hC' hx' F' N' off' ne' => ?_) ?_
      · clear off' FM NM
        (try k_fold)
        k_steps
        exact CPost.intro rfl (by k_asm) (by k_asm)
      clear FM NM
      intro zs hzs onesA hq tkq FO NO off1
      have hoT := off1_ne off1
      simp only [AllNe] at hoT
      replace hzs : IntsAre zs r2 := hr2 ▸ hzs
      have hzl : zs.length = r2.length := hzs.length
      clear hr2
      (try k_fold)
      k_steps
      refine Halt.on ?_
      rename Fr _ _ _ _ => FM
      rename News _ _ _ _ => NM
      rename _ ∈ r1 => hMm
      cases least_is hMm (by assumption)
      k_dflt (refine' Gives.use (c_bisect (x := least r1) (k := c.k) q1 (by omega)) (act := [(ordA, listOf c.vs.toArray c.k)]) (rest := ((ld, listOf vd.toArray kd) :: (s1.heap.objs.size + 1 + 1, oc) :: (s1.heap.objs.size + 1, om) :: T)) ?kBde ?kFde ?kXde ?kNde ?kDisde ?kTde ?kkde rfl ?kdde ?kude ?_; (case kNde => exact news_sub NM sub_h); (case kDisde => exact disj_consL.mpr ⟨allNe_cons (by dsimp only; omega) (allNe_cons (by dsimp only; omega) (allNe_cons (by dsimp only; omega) (e2))), disj_nil⟩); (case kBde => k_asm); (case kFde => k_asm); (case kXde => k_asm); (case kTde => k_asm); (case kkde => first | exact rfl | assumption); (case kdde => ktr_room); (case kude => ktr_units))
      rintro _ _ h10 tk10 F10 N10 D10 ⟨t10, rfl, rfl⟩
      simp only [List.cons_append, List.nil_append] at N10
      clear FM NM D10
      have hix : ((bsearch c.ns (least r1) c.ns.length 0 c.ns.length : Nat) : Int) < (c.ns.length : Int) := by omega
      iterate 9 walk1
      rename _ ∈ r1 => hB
      cases least_is hB (by assumption)
      have hbq : (c.ns.getD ((bsearch c.ns (least r1) c.ns.length 0 c.ns.length : Nat) : Int).toNat 0 == least r1) = true := by
        rw [Int.toNat_natCast, hb2]
        exact beq_self_eq_true _
      rw [hbq]
      clear hbq hb1 hb2 hix
      walk1
      rotate_left
      · rename News _ _ _ _ => NQ
        obtain ⟨T1, T2, rfl, ⟨c1, oc1, vs1, t1, rfl, _⟩, ⟨c2, oc2, vs2, t2, rfl, _⟩, _⟩ := hT
        simp only [List.cons_append, List.nil_append] at NQ
        exact ⟨GrownAt.of NQ (.tail _ (.tail _ (.tail _ (.tail _ (.tail _ (.tail _ (.head _))))))), GrownAt.of NQ (.tail _ (.tail _ (.tail _ (.tail _ (.head _))))), trivial⟩
      · rename Fr _ _ _ _ => FQ
        exact law_ends FQ hgens rfl))⟩
end Mine
end

theorem PySem.Challenge.cw_kl0445_01_holds : PySem.Challenge.rw_kl0445_01.Holds := by
  exact Mine.law_walk.out
