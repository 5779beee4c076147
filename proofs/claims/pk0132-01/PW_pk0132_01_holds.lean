import PyProof.Rows.All
import Wide.All
import OpenK.AllK
import Wide.FinOn
import PySem.Challenge.RW_pk0132_01
open PySem PySem.W PyProof.Rows
set_option Elab.async false
set_option linter.unusedVariables false

namespace Mine
set_option maxRecDepth 100000
set_option maxHeartbeats 8000000
open_top hd for PySem.Challenge.rw_pk0132_01
end Mine

open PySem.Calls
namespace Mine
set_option maxRecDepth 100000
set_option maxHeartbeats 8000000

noncomputable abbrev KK (w : World) : Frag := hd.heap_39 w.params
noncomputable abbrev PP : Program := hd.view_39
noncomputable abbrev LL : List Str := looseW hd.view_39 []
noncomputable abbrev MM (w : World) : Model := model (PySem.Challenge.rw_pk0132_01.row.toRowW.prog) w
/-- every object of h is in h' as it was -/
abbrev Ext (h h' : Heap) : Prop := ∀ b o, h.get? b = some o → h'.get? b = some o
/-- a place in the run: so deep, with these frames -/
abbrev AT (dp un : Nat) (gd : Option (List Code)) (outer : List Env) : Around := { handled := none, depth := dp, frames := some outer, guards := gd, units := un }

/-- the ground that a call stands on -/
structure Gr (w : World) (mean : ExcName → Option Value) (mg mb : Str → Option Value) (dp un : Nat) (gd : Option (List Code)) (outer : List Env) (base h : Heap) : Prop where
  B : Below (AT dp un gd outer) base outer h
  X : (hd.heap_39 w.params).In h
  T : Top hd.view_39 (looseW hd.view_39 []) mean mg mb h

section
variable {w : World} {mean : ExcName → Option Value} {mg mb : Str → Option Value} {dp un : Nat} {gd : Option (List Code)} {outer : List Env} {base h h' : Heap}
theorem Gr.ext (G : Gr w mean mg mb dp un gd outer base h) (e : Ext h h') : Gr w mean mg mb dp un gd outer base h' :=
  ⟨⟨G.B.stack, fun b o q => e b o (G.B.stays b o q), G.B.frames.of_keeps fun b o q _ => ⟨o, e b o q, rfl⟩⟩, G.X.keeps e, G.T.keeps e⟩

theorem Below.pushC {A : Around} {base h₀ h : Heap} {outer : List Env} {L a : Addr} {m : Str → Option Value} {name : Str} {scope : Scope} {cd : Value}
    (B : Below A base outer h₀) (F : Fr h₀ L h m) (hf : scope.kind = .function) : Below (A.deeper (envOfC name scope L a cd)) base (envOfC name scope L a cd :: outer) h where
  stack := Around.frames_deeper B.stack
  stays := fun b o e => F.keep b o (B.stays b o e)
  frames := by
    have old := B.frames.of_keeps (h' := h) fun b o e _ => ⟨o, F.keep b o e, rfl⟩
    have above : base.get? L = none := by
      cases q : base.get? L with
      | none => rfl
      | some o =>
        have lt : L < h₀.objs.size := Heap.lt_size (B.stays L o q)
        exact (Nat.not_lt.mpr F.above lt).elim
    refine .cons ?_ rfl F.ns above old
    intro e
    have : scope.kind = .module := e
    rw [hf] at this
    cases this

end

section
variable {w : World} {mean : ExcName → Option Value} {mg mb : Str → Option Value} {dp un : Nat} {gd : Option (List Code)} {outer : List Env} {base : Heap} {s : Shared} {E : Value → Shared → Prop}

/-- a def without cells is entered over the heap as it stands -/
theorem enter {R : Value → Shared → Prop} {name qual : Str} {params : Arguments} {body : List Stmt} {scope : Scope} {dV kV doc pm cdv ct oc : Value} {an od : Option Addr} {osl : Array (Option Value)} {f : Addr} {args : List Value} {binds : List (Str × Value)}
    (X : (hd.heap_39 w.params).In s.heap) (T : Top hd.view_39 (looseW hd.view_39 []) mean mg mb s.heap)
    (ho : (hd.heap_39 w.params).lookup f = some ⟨oc, od, .func (fnOf name qual params body scope dV kV doc pm an cdv ct), osl⟩) (hcd : codeIn (hd.heap_39 w.params) cdv qual = true) (hroom : dp < recursionLimit)
    (hbind : BindsTo s (fnOf name qual params body scope dV kV doc pm an cdv ct) ⟨args, []⟩ binds) (hloc : ∀ y ∈ binds, scope.names.lookup y.1 = some .local)
    (hco : scope.isCoroutine = false) (hgen : scope.isGenerator = false) (hk : scope.kind = .function) (hcell : ∀ x ∈ scope.names, x.2 ≠ .cell)
    (h : ∀ L' h₁, Fr s.heap L' h₁ (fun y => binds.reverse.lookup y) → News s.heap L' h₁ [] →
      wpAny (model (PySem.Challenge.rw_pk0132_01.row.toRowW.prog) w) ((AT dp un gd outer).deeper (envOf qual scope L' f cdv)) (execs body (envOf qual scope L' f cdv))
        (fun fl s' => R (match fl with | .ret v => v | _ => .none) s')
        (fun e s' => wpAny (model (PySem.Challenge.rw_pk0132_01.row.toRowW.prog) w) ((AT dp un gd outer).deeper (envOf qual scope L' f cdv)) (leaving (envOf qual scope L' f cdv) e) (fun _ s'' => E e s'') (fun e' s'' => E e' s'') s')
        { s with heap := h₁, toks := s.toks + binds.length }) : wpAny (model (PySem.Challenge.rw_pk0132_01.row.toRowW.prog) w) (AT dp un gd outer) (call (.ref f) args) R E s :=
  wpAny_call (codeAny_call_def (fd := fnX name qual params body scope [] dV kV doc pm an cdv ct) (body := body) (binds := binds) hroom (X _ _ ho) rfl T.nolimit (codeRec_of X hcd) rfl hbind hcell hloc
    (fun h₁ hns hk₁ => h s.heap.objs.size h₁ ⟨hns, hk₁, Nat.le_refl _⟩ News.nil) hco hgen hk)
end

section
variable {w : World} {mean : ExcName → Option Value} {mg mb : Str → Option Value} {dp un : Nat} {gd : Option (List Code)} {outer : List Env} {base : Heap} {s : Shared} {E : Value → Shared → Prop}

/-- a def with cells is entered over the heap as it stands -/
theorem enterC {R : Value → Shared → Prop} {name qual : Str} {params : Arguments} {body : List Stmt} {scope : Scope} {dV kV doc pm cdv ct oc : Value} {an od : Option Addr} {osl : Array (Option Value)} {f : Addr} {args : List Value} {binds : List (Str × Value)}
    (G : Gr w mean mg mb dp un gd outer base s.heap)
    (ho : (hd.heap_39 w.params).lookup f = some ⟨oc, od, .func (fnOf name qual params body scope dV kV doc pm an cdv ct), osl⟩) (hcd : codeIn (hd.heap_39 w.params) cdv qual = true) (hroom : dp < recursionLimit)
    (hbind : BindsTo s (fnOf name qual params body scope dV kV doc pm an cdv ct) ⟨args, []⟩ binds) (hkind : (binds.all fun y => scope.names.lookup y.1 == some .local || scope.names.lookup y.1 == some .cell) = true)
    (hnd : ((cellsFrom 0 scope.names []).map (·.1)).Nodup) (hco : scope.isCoroutine = false) (hgen : scope.isGenerator = false) (hk : scope.kind = .function)
    (h : ∀ L' h₁ tk cells, (∀ h m, Fr s.heap L' h m → Gr w mean mg mb (dp + 1) (un + 3) gd (envOfC qual scope L' f cdv :: outer) base h) → Fr s.heap L' h₁ (bindL (envOfC qual scope L' f cdv).kindOf binds fun _ => none) → News s.heap L' h₁ cells →
      CellsAre (bindC (envOfC qual scope L' f cdv).kindOf binds fun _ => none) (cellsFrom (L' + 1) scope.names []) cells →
      wpAny (model (PySem.Challenge.rw_pk0132_01.row.toRowW.prog) w) ((AT dp un gd outer).deeper (envOfC qual scope L' f cdv)) (execs body (envOfC qual scope L' f cdv))
        (fun fl s' => R (match fl with | .ret v => v | _ => .none) s')
        (fun e s' => wpAny (model (PySem.Challenge.rw_pk0132_01.row.toRowW.prog) w) ((AT dp un gd outer).deeper (envOfC qual scope L' f cdv)) (leaving (envOfC qual scope L' f cdv) e) (fun _ s'' => E e s'') (fun e' s'' => E e' s'') s')
        { s with heap := h₁, toks := tk }) : wpAny (model (PySem.Challenge.rw_pk0132_01.row.toRowW.prog) w) (AT dp un gd outer) (call (.ref f) args) R E s := by
  refine wpAny_call (codeAny_call_function hroom (G.X _ _ ho) rfl hco hgen rfl (codeRec_of G.X hcd) (hbind _ _ _ _ ?_))
  refine wpAny_newFunctionEnv_cells hk (kindsX hkind _) fun env' he s' x => ?_
  subst he
  refine ⟨G.T.nolimit.keeps x.toInCall.keep, codeAny_func ?_⟩
  obtain ⟨h₁, tk, rfl, _⟩ := x.done
  obtain ⟨cells, NC, Y⟩ := Cl.news (h₀ := s.heap) (Nat.le_refl _) fun n c hm => ⟨x.cell n c (lookup_of_mem_nodup (cellsFrom_names scope.names 0 (s.heap.objs.size + 1) [] [] rfl ▸ hnd) hm), x.above n c hm⟩
  exact h s.heap.objs.size h₁ tk cells (fun h m F => ⟨Below.pushC G.B F hk, G.X.keeps F.keep, G.T.keeps F.keep⟩) ⟨x.toInCall.ns, x.toInCall.keep, Nat.le_refl _⟩ NC Y
end

/-- what a call of a def does: it ends with a value of which Post holds, and all that stood stands -/
def Ctr (w : World) (mean : ExcName → Option Value) (mg mb : Str → Option Value) (f : Addr) (d u : Nat) (Pre : Heap → Prop) (vs : List Value) (Post : Heap → Value → Prop) : Prop :=
  ∀ (dp un : Nat) (gd : Option (List Code)) (outer : List Env) (base : Heap) (s : Shared) (Q E : Value → Shared → Prop),
    Below (AT dp un gd outer) base outer s.heap → (hd.heap_39 w.params).In s.heap → Top hd.view_39 (looseW hd.view_39 []) mean mg mb s.heap → dp + d < recursionLimit → un + u < cLine → Pre s.heap →
    (∀ v h' tk', Ext s.heap h' → Post h' v → Q v { s with heap := h', toks := tk' }) → wpAny (model (PySem.Challenge.rw_pk0132_01.row.toRowW.prog) w) (AT dp un gd outer) (call (.ref f) vs) Q E s

def Stop (P : Prop) : Prop := P
theorem Stop.out {P : Prop} (h : Stop P) : P := h
theorem Stop.mk {P : Prop} (h : P) : Stop P := h

section
variable {w : World} {mean : ExcName → Option Value} {mg mb : Str → Option Value} {dp un : Nat} {gd : Option (List Code)} {outer : List Env} {base h₀ : Heap} {L a : Addr} {m : Str → Option Value} {news : List (Addr × Obj)} {s : Shared} {Q E : Value → Shared → Prop}
  {f : Addr} {d u : Nat} {Pre : Heap → Prop} {vs : List Value} {Post : Heap → Value → Prop} {name : Str} {scope : Scope} {cd : Value}

/-- a contract at a call out of a frame without cells -/
theorem Ctr.at (C : Ctr w mean mg mb f d u Pre vs Post) (B : Below (AT dp un gd outer) base outer h₀) (F : Fr h₀ L s.heap m) (N : News h₀ L s.heap news) (X : (hd.heap_39 w.params).In h₀) (T : Top hd.view_39 (looseW hd.view_39 []) mean mg mb h₀)
    (hk : scope.kind = .function) (hd : dp + 1 + d < recursionLimit) (hu : un + 3 + u < cLine) (hp : Pre s.heap)
    (ret : ∀ v h' tk', Fr h₀ L h' m → News h₀ L h' news → Ext s.heap h' → Post h' v → Q v { s with heap := h', toks := tk' }) :
    wpAny (model (PySem.Challenge.rw_pk0132_01.row.toRowW.prog) w) ((AT dp un gd outer).deeper (envOf name scope L a cd)) (call (.ref f) vs) Q E s :=
  C (dp + 1) (un + 3) gd (envOf name scope L a cd :: outer) base s Q E (Below.push B F hk) (X.keeps F.keep) (T.keeps F.keep) hd hu hp
    fun v h' tk' e p => ret v h' tk' (F.keeps e) (N.grown e) e p
end

end Mine

namespace Mine
theorem quiet_C2 : True := by w_top off; exact trivial
set_option maxRecDepth 100000
set_option maxHeartbeats 8000000
local macro_rules | `(tactic| walk_at "mine entered") => `(tactic| ((case k1 => assumption); (case k2 => assumption); (case k3 => k_is); (case k4 => k_is); (case k5 => omega); (case k6 => exact BindsTo.of_eq rfl); (case k7 => exact locs rfl); (case k8 => exact rfl); (case k9 => exact rfl); (case k10 => exact rfl); (case k11 => decide); k_whole))
/-- (a > b) - (a < b) -/
def sg (a b : Str) : Int := b2i (decide (b.cps.toList < a.cps.toList)) - b2i (decide (a.cps.toList < b.cps.toList))
theorem strcoll_c (w : World) (mean : ExcName → Option Value) (mg mb : Str → Option Value) (a b : Str) (ta tb : Tok) :
    Ctr w mean mg mb 21 2 8 (fun _ => True) [.str a ta, .str b tb] (fun _ v => ∃ t, v = .int (sg a b) t) := by
  unfold Ctr
  k_fill
  intro dp un gd outer base s Q E B X T hd hu _ hret
  k_dflt (refine' enter (binds := [(Str.ofString "a", .str a ta), (Str.ofString "b", .str b tb)]) ?k1 ?k2 ?k3 ?k4 ?k5 ?k6 ?k7 ?k8 ?k9 ?k10 ?k11 ?_; walk_at "mine entered")
  intro L' h₁ F N
  (try dsimp only)
  (try k_fold)
  k_steps
  dsimp only
  exact hret _ _ _ F.keep ⟨_, rfl⟩

def OptStr (v : Value) (o : Option Str) : Prop := match o with | none => v = .none | some x => ∃ t, v = .str x t
def locname (lo eo : Option Str) : Str := match eo with | none => lo.getD (Str.ofString "C") | some y => lo.getD (Str.ofString "C") ++ Str.ofString "." ++ y
def short (o : Option Str) : Prop := ∀ x, o = some x → x.length ≤ 1000

theorem build_c (w : World) (mean : ExcName → Option Value) (mg mb : Str → Option Value) (p : Addr) (lv ev : Value) (lo eo : Option Str) (hl : OptStr lv lo) (he : OptStr ev eo) (sl : short lo) (se : short eo) :
    Ctr w mean mg mb 28 2 8 (fun h => IsTup h p #[lv, ev] ∨ h.IsList p #[lv, ev]) [.ref p] (fun _ v => ∃ t, v = .str (locname lo eo) t) := by
  unfold Ctr
  k_fill
  intro dp un gd outer base s Q E B X T hd hu hp hret
  k_dflt (refine' enter (binds := [(Str.ofString "localetuple", .ref p)]) ?k1 ?k2 ?k3 ?k4 ?k5 ?k6 ?k7 ?k8 ?k9 ?k10 ?k11 ?_; walk_at "mine entered")
  intro L' h₁ F N
  (try dsimp only)
  cases lo with
  | none =>
    cases eo with
    | none =>
      cases hl; cases he
      (try k_fold)
      rcases hp with hp | hp
      · have hT : IsTup h₁ p #[.none, .none] := hp.keeps F.keep
        k_steps
        dsimp only
        exact hret _ _ _ (Fr.keep (by assumption)) ⟨_, rfl⟩
      · have hT : h₁.IsList p #[.none, .none] := hp.at fun o e => F.keep _ o e
        k_steps
        dsimp only
        exact hret _ _ _ (Fr.keep (by assumption)) ⟨_, rfl⟩
    | some y =>
      cases hl; obtain ⟨ty, rfl⟩ := he
      have hy : y.length ≤ 1000 := se y rfl
      (try k_fold)
      rcases hp with hp | hp
      · have hT : IsTup h₁ p #[.none, .str y ty] := hp.keeps F.keep
        k_steps
        dsimp only
        exact hret _ _ _ (Fr.keep (by assumption)) ⟨_, rfl⟩
      · have hT : h₁.IsList p #[.none, .str y ty] := hp.at fun o e => F.keep _ o e
        k_steps
        dsimp only
        exact hret _ _ _ (Fr.keep (by assumption)) ⟨_, rfl⟩
  | some x =>
    have hx : x.length ≤ 1000 := sl x rfl
    cases eo with
    | none =>
      obtain ⟨tx, rfl⟩ := hl; cases he
      (try k_fold)
      rcases hp with hp | hp
      · have hT : IsTup h₁ p #[.str x tx, .none] := hp.keeps F.keep
        k_steps
        dsimp only
        exact hret _ _ _ (Fr.keep (by assumption)) ⟨_, rfl⟩
      · have hT : h₁.IsList p #[.str x tx, .none] := hp.at fun o e => F.keep _ o e
        k_steps
        dsimp only
        exact hret _ _ _ (Fr.keep (by assumption)) ⟨_, rfl⟩
    | some y =>
      obtain ⟨tx, rfl⟩ := hl; obtain ⟨ty, rfl⟩ := he
      have hy : y.length ≤ 1000 := se y rfl
      (try k_fold)
      rcases hp with hp | hp
      · have hT : IsTup h₁ p #[.str x tx, .str y ty] := hp.keeps F.keep
        k_steps
        dsimp only
        exact hret _ _ _ (Fr.keep (by assumption)) ⟨_, rfl⟩
      · have hT : h₁.IsList p #[.str x tx, .str y ty] := hp.at fun o e => F.keep _ o e
        k_steps
        dsimp only
        exact hret _ _ _ (Fr.keep (by assumption)) ⟨_, rfl⟩
end Mine

namespace Mine
theorem quiet_C3 : True := by w_top off; exact trivial
set_option maxRecDepth 100000
set_option maxHeartbeats 8000000
local macro_rules | `(tactic| walk_at "mine entered") => `(tactic| ((case k1 => assumption); (case k2 => assumption); (case k3 => k_is); (case k4 => k_is); (case k5 => omega); (case k6 => exact BindsTo.of_eq rfl); (case k7 => exact locs rfl); (case k8 => exact rfl); (case k9 => exact rfl); (case k10 => exact rfl); (case k11 => decide); k_whole))
local macro_rules | `(tactic| walk_at "call ref") => `(tactic| (refine Stop.out ?_))
def pairS (x : Str) (eo : Option Str) : Str := match eo with | none => x | some y => x ++ Str.ofString "." ++ y

theorem pair_c (w : World) (mean : ExcName → Option Value) (mg mb : Str → Option Value) (x : Str) (tx : Tok) (ev : Value) (eo : Option Str) (he : OptStr ev eo) (sl : x.length ≤ 1000) (se : short eo) :
    Ctr w mean mg mb 40 4 20 (fun _ => True) [.str x tx, ev] (fun _ v => ∃ t, v = .str (pairS x eo) t) := by
  unfold Ctr
  k_fill
  intro dp un gd outer base s Q E B X T hd hu _ hret
  k_dflt (refine' enter (binds := [(Str.ofString "one", .str x tx), (Str.ofString "two", ev)]) ?k1 ?k2 ?k3 ?k4 ?k5 ?k6 ?k7 ?k8 ?k9 ?k10 ?k11 ?_; walk_at "mine entered")
  intro L' h₁ F N
  (try dsimp only)
  (try k_fold)
  k_steps
  · rename_i hC _ _ F' N' _
    have hx : x = Str.ofString "C" := by simpa using hC
    refine Stop.mk (Ctr.at (build_c w mean mg mb _ .none ev none eo rfl he (fun _ e => nomatch e) se) B F' N' X T rfl (by omega) (by omega) (.inl (News.isTup N' (by k_mem))) ?_)
    rintro v h' tk' F'' N'' _ ⟨t, rfl⟩
    refine hret _ _ _ F''.keep ⟨t, ?_⟩
    subst hx
    cases eo <;> rfl
  · rename_i hC _ _ F' N' _
    refine Stop.mk (Ctr.at (build_c w mean mg mb _ (.str x tx) ev (some x) eo ⟨tx, rfl⟩ he (fun _ e => by cases e; exact sl) se) B F' N' X T rfl (by omega) (by omega) (.inl (News.isTup N' (by k_mem))) ?_)
    rintro v h' tk' F'' N'' _ ⟨t, rfl⟩
    refine hret _ _ _ F''.keep ⟨t, ?_⟩
    cases eo <;> rfl

theorem lt_irrefl_cps (a : List Nat) : ¬ a < a := List.lt_irrefl a
theorem sg_swap (a b : Str) : sg b a = - sg a b := by unfold sg; omega
theorem sg_cases (a b : Str) : sg a b = -1 ∨ sg a b = 0 ∨ sg a b = 1 := by
  unfold sg
  simp only [b2i_decide]
  split <;> split <;> simp

theorem sign_c (w : World) (mean : ExcName → Option Value) (mg mb : Str → Option Value) (a b : Str) (ta tb : Tok) :
    Ctr w mean mg mb 47 4 20 (fun _ => True) [.str a ta, .str b tb] (fun _ v => ∃ t, v = .int (sg a b) t) := by
  unfold Ctr
  k_fill
  intro dp un gd outer base s Q E B X T hd hu _ hret
  k_dflt (refine' enter (binds := [(Str.ofString "one", .str a ta), (Str.ofString "two", .str b tb)]) ?k1 ?k2 ?k3 ?k4 ?k5 ?k6 ?k7 ?k8 ?k9 ?k10 ?k11 ?_; walk_at "mine entered")
  intro L' h₁ F N
  (try dsimp only)
  (try k_fold)
  k_steps
  refine Stop.mk (Ctr.at (strcoll_c w mean mg mb a b ta tb) B F N X T rfl (by omega) (by omega) trivial ?_)
  rintro v h' tk' F' N' _ ⟨t, rfl⟩
  clear F N
  k_steps
  refine Stop.mk (Ctr.at (strcoll_c w mean mg mb b a tb ta) B F' N' X T rfl (by omega) (by omega) trivial ?_)
  rintro v h' tk' F'' N'' _ ⟨t, rfl⟩
  clear F' N'
  rw [sg_swap a b]
  rcases sg_cases a b with e | e | e <;> rw [e] at hret ⊢
  · k_steps
    dsimp only
    exact hret _ _ _ (Fr.keep (by assumption)) ⟨_, rfl⟩
  · k_steps
    dsimp only
    exact hret _ _ _ (Fr.keep (by assumption)) ⟨_, rfl⟩
  · k_steps
    dsimp only
    exact hret _ _ _ (Fr.keep (by assumption)) ⟨_, rfl⟩
end Mine

namespace Mine
set_option maxRecDepth 100000
set_option maxHeartbeats 4000000

/-- how a turn ends: the loop's own iterator and what J speaks of stand -/
def TurnEnd (h₀ : Heap) (L I : Addr) (oI : Obj) (J : (Str → Option Value) → List (Addr × Obj) → Prop) (s s₂ : Shared) : Prop :=
  ∃ h' tk' m' news', s₂ = { s with heap := h', toks := tk' } ∧ Fr h₀ L h' m' ∧ News h₀ L h' ((I, oI) :: news') ∧ (∀ p ∈ news', p.1 ≠ I) ∧ J m' news'

theorem TurnEnd.mk {h₀ : Heap} {L I : Addr} {oI : Obj} {J : (Str → Option Value) → List (Addr × Obj) → Prop} {s : Shared} {h' : Heap} {tk' : Nat} {m' : Str → Option Value} {news' : List (Addr × Obj)}
    (F : Fr h₀ L h' m') (N : News h₀ L h' ((I, oI) :: news')) (hne : ∀ p ∈ news', p.1 ≠ I) (hj : J m' news') : TurnEnd h₀ L I oI J s { s with heap := h', toks := tk' } :=
  ⟨h', tk', m', news', rfl, F, N, hne, hj⟩

section
variable {prog : Program} {w : World} {A : Around} {E : Value → Shared → Prop} {s : Shared} {env : Env} {h₀ : Heap} {L : Addr} {target : Expr} {body : List Stmt}

/-- a for over a list: J holds between the turns -/
theorem loop_list {R : Result → Shared → Prop} {ax : Addr} {items : Array Value} {m₀ : Str → Option Value} {news₀ : List (Addr × Obj)} (J : Nat → (Str → Option Value) → List (Addr × Obj) → Prop)
    (hh : A.handled = none) (F : Fr h₀ L s.heap m₀) (N : News h₀ L s.heap news₀) (hj : J 0 m₀ news₀)
    (hl : ∀ i h m news, J i m news → Fr h₀ L h m → News h₀ L h news → h.IsList ax items)
    (turn : ∀ I i v h tk m news oI E', items[i]? = some v → J i m news → Fr h₀ L h m → News h₀ L h ((I, oI) :: news) → (∀ p ∈ news, p.1 ≠ I) →
      wpAny (model prog w) A (assign target env v) (fun _ s₁ => wpAny (model prog w) A (execs body env) (fun f s₂ => match f with
        | .next | .cont => TurnEnd h₀ L I oI (J (i + 1)) s s₂
        | .brk => R (.ok .next) s₂
        | .ret v => R (.ok (.ret v)) s₂) E' s₁) E' { s with heap := h, toks := tk })
    (done : ∀ h tk m news, J items.size m news → Fr h₀ L h m → News h₀ L h news → R (.ok .next) { s with heap := h, toks := tk })
    (ht : ∀ it v, letOwnedTupleGo target it v = pure () := by intro _ _; rfl) :
    wpAny (model prog w) A (pyIter (.ref ax)) (fun it s₂ => codeAny (model prog w) A (.forLoop target it body [] env) R s₂) E s := by
  have hl0 : s.heap.IsList ax items := hl 0 _ _ _ hj F N
  refine wpAny_pyIter_list hl0 ?_
  have hLI : L ≠ s.heap.objs.size := Nat.ne_of_lt F.ns.lt
  have h0I : ∀ b o, h₀.get? b = some o → b ≠ s.heap.objs.size := fun b o e => Nat.ne_of_lt (Nat.lt_trans (Nat.lt_of_lt_of_le (Heap.lt_size e) F.above) F.ns.lt)
  have hI0 : h₀.get? s.heap.objs.size = none := by
    cases e : h₀.get? s.heap.objs.size with
    | none => rfl
    | some o => exact absurd rfl (h0I _ _ e)
  have stF : ∀ h h' m, Fr h₀ L h m → Heap.ExtBut s.heap.objs.size h h' → Fr h₀ L h' m := fun h h' m f e => by
    obtain ⟨oL, a1, a2, hL, a3⟩ := f.ns
    exact ⟨⟨oL, a1, a2, e _ _ hLI hL, a3⟩, fun b o q => e b o (h0I b o q) (f.keep b o q), f.above⟩
  have stN : ∀ h h' news, News h₀ L h news → (∀ p ∈ news, p.1 ≠ s.heap.objs.size) → Heap.ExtBut s.heap.objs.size h h' → News h₀ L h' news := fun h h' news n hne e p hp =>
    ⟨e _ _ (hne p hp) (n p hp).1, (n p hp).2⟩
  refine codeAny_forLoop
    (fun n s' => ∃ h' tk m' news' i, s' = { s with heap := h', toks := tk } ∧ h'.IsListIter s.heap.objs.size ax i ∧ Fr h₀ L h' m' ∧ News h₀ L h' news' ∧ (∀ p ∈ news', p.1 ≠ s.heap.objs.size) ∧ J i m' news' ∧ i ≤ items.size ∧ n = items.size + 1 - i) ?_ (items.size + 1)
    ⟨_, s.toks, m₀, news₀, 0, rfl, ⟨_, Heap.get?_push_size _ rfl, rfl, rfl⟩, F.push _, fun p hp => ⟨Heap.get?_push_of_some _ (N p hp).1, (N p hp).2⟩, fun p hp => Nat.ne_of_lt (Heap.lt_size (N p hp).1), hj, Nat.zero_le _, rfl⟩ (ht _)
  rintro n s' ⟨h', tk, m', news', i, rfl, hit', F', N', hne', hJ, hi, rfl⟩
  have hl' := hl i _ _ _ hJ F' N'
  cases hv : items[i]? with
  | none =>
    have hsz : i = items.size := Nat.le_antisymm hi (by simpa using hv)
    refine wpAny_pyNext_list_end hh hit' hl' hv fun h₁ he₁ => wpAny_execs_nil ?_
    exact done h₁ tk m' news' (hsz ▸ hJ) (stF _ _ _ F' he₁) (stN _ _ _ N' hne' he₁)
  | some v =>
    have hlt : i < items.size := (Array.getElem?_eq_some_iff.mp hv).1
    refine wpAny_pyNext_list_item hit' hl' hv fun h₁ hit₁ hs₁ => ?_
    obtain ⟨oI, e1, e2, e3⟩ := hit₁
    refine wpAny_mono (turn s.heap.objs.size i v h₁ tk m' news' oI _ hv hJ (stF _ _ _ F' hs₁.extBut) (fun p hp => ?_) hne') (fun _ s₁ q => wpAny_mono q (fun f s₂ p => ?_) fun _ _ e => e) fun _ _ e => e
    · rcases List.mem_cons.mp hp with rfl | hp
      · exact ⟨e1, Ne.symm hLI, hI0⟩
      · exact stN _ _ _ N' hne' hs₁.extBut p hp
    · have fin : TurnEnd h₀ L s.heap.objs.size oI (J (i + 1)) s s₂ → ∃ m, m < items.size + 1 - i ∧ ∃ h' tk m' news' i, s₂ = { s with heap := h', toks := tk } ∧ h'.IsListIter s.heap.objs.size ax i ∧ Fr h₀ L h' m' ∧ News h₀ L h' news' ∧ (∀ p ∈ news', p.1 ≠ s.heap.objs.size) ∧ J i m' news' ∧ i ≤ items.size ∧ m = items.size + 1 - i := by
        rintro ⟨h₂, tk₂, m₂, news₂, rfl, F₂, N₂, hne₂, hJ₂⟩
        exact ⟨items.size + 1 - (i + 1), by omega, h₂, tk₂, m₂, news₂, i + 1, rfl, ⟨oI, (N₂ _ (.head _)).1, e2, e3⟩, F₂, fun p hp => N₂ p (.tail _ hp), hne₂, hJ₂, hlt, rfl⟩
      cases f with
      | next => exact fin p
      | cont => exact fin p
      | brk => exact p
      | ret v => exact p
end

section
variable {prog : Program} {w : World} {A : Around} {E : Value → Shared → Prop} {s : Shared} {env : Env} {target : Expr} {body : List Stmt}

/-- a for over a list: J holds of the heap between the turns -/
theorem loop_heap {R : Result → Shared → Prop} {ax : Addr} {items : Array Value} (J : Nat → Heap → Prop)
    (hh : A.handled = none) (hj : J 0 s.heap) (hl : ∀ i h, J i h → h.IsList ax items)
    (stable : ∀ i h h' I, J i h → s.heap.get? I = none → (h.get? I = none ∨ ∃ k, h.IsListIter I ax k) → Heap.ExtBut I h h' → J i h')
    (turn : ∀ I i v h tk E', items[i]? = some v → J i h → h.IsListIter I ax (i + 1) → s.heap.get? I = none →
      wpAny (model prog w) A (assign target env v) (fun _ s₁ => wpAny (model prog w) A (execs body env) (fun f s₂ => match f with
        | .next | .cont => ∃ h' tk', s₂ = { s with heap := h', toks := tk' } ∧ J (i + 1) h' ∧ h'.IsListIter I ax (i + 1)
        | .brk => R (.ok .next) s₂
        | .ret v => R (.ok (.ret v)) s₂) E' s₁) E' { s with heap := h, toks := tk })
    (done : ∀ h tk, J items.size h → R (.ok .next) { s with heap := h, toks := tk })
    (ht : ∀ it v, letOwnedTupleGo target it v = pure () := by intro _ _; rfl) :
    wpAny (model prog w) A (pyIter (.ref ax)) (fun it s₂ => codeAny (model prog w) A (.forLoop target it body [] env) R s₂) E s := by
  refine wpAny_pyIter_list (hl 0 _ hj) ?_
  have hI0 : s.heap.get? s.heap.objs.size = none := Heap.get?_none_of_le (Nat.le_refl _)
  refine codeAny_forLoop
    (fun n s' => ∃ h' tk i, s' = { s with heap := h', toks := tk } ∧ h'.IsListIter s.heap.objs.size ax i ∧ J i h' ∧ i ≤ items.size ∧ n = items.size + 1 - i) ?_ (items.size + 1)
    ⟨_, s.toks, 0, rfl, ⟨_, Heap.get?_push_size _ rfl, rfl, rfl⟩, stable 0 _ _ _ hj hI0 (.inl hI0) (fun b o _ e => Heap.get?_push_of_some _ e), Nat.zero_le _, rfl⟩ (ht _)
  rintro n s' ⟨h', tk, i, rfl, hit', hJ, hi, rfl⟩
  have hl' := hl i _ hJ
  cases hv : items[i]? with
  | none =>
    have hsz : i = items.size := Nat.le_antisymm hi (by simpa using hv)
    refine wpAny_pyNext_list_end hh hit' hl' hv fun h₁ he₁ => wpAny_execs_nil ?_
    exact done h₁ tk (hsz ▸ stable i _ _ _ hJ hI0 (.inr ⟨_, hit'⟩) he₁)
  | some v =>
    have hlt : i < items.size := (Array.getElem?_eq_some_iff.mp hv).1
    refine wpAny_pyNext_list_item hit' hl' hv fun h₁ hit₁ hs₁ => ?_
    refine wpAny_mono (turn s.heap.objs.size i v h₁ tk _ hv (stable i _ _ _ hJ hI0 (.inr ⟨_, hit'⟩) hs₁.extBut) hit₁ hI0) (fun _ s₁ q => wpAny_mono q (fun f s₂ p => ?_) fun _ _ e => e) fun _ _ e => e
    have fin : (∃ h' tk', s₂ = { s with heap := h', toks := tk' } ∧ J (i + 1) h' ∧ h'.IsListIter s.heap.objs.size ax (i + 1)) → ∃ m, m < items.size + 1 - i ∧ ∃ h' tk i, s₂ = { s with heap := h', toks := tk } ∧ h'.IsListIter s.heap.objs.size ax i ∧ J i h' ∧ i ≤ items.size ∧ m = items.size + 1 - i := by
      rintro ⟨h₂, tk₂, rfl, hJ₂, hI₂⟩
      exact ⟨items.size + 1 - (i + 1), by omega, h₂, tk₂, i + 1, rfl, hI₂, hJ₂, hlt, rfl⟩
    cases f with
    | next => exact fin p
    | cont => exact fin p
    | brk => exact p
    | ret v => exact p
end

end Mine

namespace Mine
set_option maxRecDepth 100000
set_option maxHeartbeats 4000000

section
variable {w : World} {mean : ExcName → Option Value} {mg mb : Str → Option Value} {dp un : Nat} {gd : Option (List Code)} {outer : List Env} {base h h' h₀ : Heap} {s : Shared} {E : Value → Shared → Prop} {env : Env} {Q : Value → Shared → Prop}

theorem Ext.refl (h : Heap) : Ext h h := fun _ _ e => e
theorem Ext.trans {a b c : Heap} (x : Ext a b) (y : Ext b c) : Ext a c := fun d o e => y d o (x d o e)

/-- a contract at a call -/
theorem Ctr.gr {f : Addr} {d u : Nat} {Pre : Heap → Prop} {vs : List Value} {Post : Heap → Value → Prop} (C : Ctr w mean mg mb f d u Pre vs Post) (G : Gr w mean mg mb dp un gd outer base s.heap)
    (hd : dp + d < recursionLimit) (hu : un + u < cLine) (hp : Pre s.heap) (ret : ∀ v h' tk', Ext s.heap h' → Post h' v → Q v { s with heap := h', toks := tk' }) :
    wpAny (model (PySem.Challenge.rw_pk0132_01.row.toRowW.prog) w) (AT dp un gd outer) (call (.ref f) vs) Q E s := C dp un gd outer base s Q E G.B G.X G.T hd hu hp ret

/-- a def of the text's, called by its name -/
theorem call_def {x : Str} {pf pos : Pos} {f : Addr} {oc : Value} {od : Option Addr} {fd : FuncData} {osl : Array (Option Value)} {e : Expr} {rest : List Expr} {A : Around}
    (X : (hd.heap_39 w.params).In s.heap) (T : Top hd.view_39 (looseW hd.view_39 []) mean mg mb s.heap)
    (hK : nsIn (hd.heap_39 w.params) mainGlobals x = some (some (.ref f))) (hf : (hd.heap_39 w.params).lookup f = some ⟨oc, od, .func fd, osl⟩)
    (hg : env.globals = mainGlobals) (hk : env.scope.kind = .function) (hx : env.kindOf x = some .globalImplicit) (hd : (x == ("__debug__" : Str)) = false)
    (he : starEach (e :: rest) env = (false, eval e env) :: starEach rest env)
    (he2 : eval (.Call (.Name x pf) (e :: rest) [] pos) env = (do callWith pos (← eval (.Name x pf) env) [] (backTo pos (starEach (e :: rest) env)) (backToKw pos (keywordEach [] env))))
    (h : wpAny (model (PySem.Challenge.rw_pk0132_01.row.toRowW.prog) w) A (spliced (backTo pos (starEach (e :: rest) env))) (fun vs s₁ => Ext s.heap s₁.heap ∧ wpAny (model (PySem.Challenge.rw_pk0132_01.row.toRowW.prog) w) A (call (.ref f) vs) Q E s₁) E s) :
    wpAny (model (PySem.Challenge.rw_pk0132_01.row.toRowW.prog) w) A (eval (.Call (.Name x pf) (e :: rest) [] pos) env) Q E s :=
  Call_ (Name_function_global hk hx (loadGlobal_global (env := env) (by rw [hg]; exact T.g) (mg_of X T.g hK) (callWith_def (o := ⟨oc, od, .func fd, osl⟩) rfl (wpAny_mono h (fun vs s₁ q => ⟨q.1 _ _ (X _ _ hf), q.2⟩) fun _ _ y => y) he)) hd) he2

/-- a name of the block's own -/
theorem nm_loc {M : Model} {A : Around} {x : Str} {pos : Pos} {v : Value} {m : Str → Option Value} (hn : s.heap.Ns env.locals m) (hv : m x = some v) (hk : env.scope.kind = .function) (hl : env.kindOf x = some .local)
    (hd : (x == ("__debug__" : Str)) = false) (h : Q v s) : wpAny M A (eval (.Name x pos) env) Q E s := wpAny_Name (wpAny_loadName_local hk hl hn hv h) hd
/-- a name in a cell -/
theorem nm_cell {M : Model} {A : Around} {x : Str} {pos : Pos} {c : Addr} {v : Value} (hc : env.cells.lookup x = some c) (hv : s.heap.IsCell c (some v)) (hk : env.scope.kind = .function) (hl : env.kindOf x = some .cell)
    (hd : (x == ("__debug__" : Str)) = false) (h : Q v s) : wpAny M A (eval (.Name x pos) env) Q E s := wpAny_Name (wpAny_loadName_cell hk hl hc hv h) hd
end

theorem eqGives_int_none (n : Int) (t : Tok) : MeetsSeq.EqGives (.int n t) .none false := fun prog w A E s Q h => by
  unfold eqBool
  refine wpAny_holding ?_
  show wpAny _ _ (if (Value.int n t == Value.none) = true then _ else (richCompare CmpOp.Eq (Value.int n t) Value.none >>= fun x => truthOfDropped x)) Q E s
  rw [if_neg (by intro h; cases eq_of_beq h)]
  exact wpAny_bind (EqNone.eq_int_none (wpAny_truthy_bool h))

theorem any_false (a : Array Value) : (a.any fun _ => false) = false := by rw [Array.any_eq_false']; intro _ _; simp
/-- None is in no list of ints -/
theorem in_none_ints {prog : Program} {w : World} {A : Around} {E : Value → Shared → Prop} {s : Shared} {l : Addr} {items : Array Value} {ns : List Int} {Q : Value → Shared → Prop} (hl : s.heap.IsList l items) (hi : IntsAre items.toList ns)
    (h : Q (.bool false) s) : wpAny (model prog w) A (compareOp .In .none (.ref l)) Q E s :=
  SeqInW.in_listW (fun _ => false) (fun y hy => by obtain ⟨n, t, rfl⟩ := IntsAre.all hi y (by simpa using hy); exact eqGives_int_none n t) hl (by rw [any_false]; exact h)

end Mine

namespace Mine
theorem quiet_C5 : True := by w_top off; exact trivial
set_option maxRecDepth 100000
set_option maxHeartbeats 8000000
local macro_rules | `(tactic| walk_at "mine enteredC") => `(tactic| ((case k1 => exact ⟨by assumption, by assumption, by assumption⟩); (case k3 => k_is); (case k4 => k_is); (case k5 => omega); (case k6 => exact BindsTo.of_eq rfl); (case k7 => exact rfl); (case k8 => decide); (case k9 => exact rfl); (case k10 => exact rfl); (case k11 => exact rfl); k_whole))
local macro_rules | `(tactic| walk_at "call ref") => `(tactic| (refine Stop.out ?_))
local macro_rules | `(tactic| walk_at "pyIter ref") => `(tactic| (refine Stop.out ?_))
local macro_rules | `(tactic| walk_at "exec Assign cons ListComp") => `(tactic| (refine Stop.out ?_))

local macro_rules | `(tactic| walk_at "subscriptTail Name Slice ref ref") => `(tactic| (refine Stop.out ?_))
local macro_rules | `(tactic| walk_at "mine call") => `(tactic| (k_dflt (refine' call_def ?a1 ?a2 ?a3 ?a4 ?a5 ?a6 ?a7 ?a8 ?a9 ?a10 ?_; (case a1 => assumption); (case a2 => assumption); (case a3 => k_is); (case a4 => k_is); (case a5 => exact rfl); (case a6 => exact rfl); (case a7 => exact rfl); (case a8 => exact rfl); (case a9 => exact rfl); (case a10 => exact rfl))))

/-- how two names stand to each other -/
def cmpS (paired : Bool) (one name : Str) : Int := if paired then sg (pairS one (some name)) (pairS name (some one)) else sg one name
def laidStep (paired : Bool) (row : List Str) (name : Str) : List Str :=
  row.take (row.length - (row.map (cmpS paired · name)).count 1) ++ [name] ++ row.drop (row.length - (row.map (cmpS paired · name)).count 1)
def laidOf (paired : Bool) (ns : List Str) : List Str := ns.foldl (laidStep paired) []

theorem map2 {m : Str → Option Value} {a b : Str} {va vb : Option Value} (h1 : m a = va) (h2 : m b = vb) : m = fun y => if y = a then va else if y = b then vb else m y := by
  funext y
  by_cases ha : y = a
  · subst ha; simp [h1]
  · by_cases hb : y = b
    · subst hb; simp [ha, h2]
    · simp [ha, hb]

theorem filter_tt : ∀ vs : List Value, vs.filter (fun _ => true) = vs
  | [] => rfl
  | v :: r => by rw [List.filter_cons_of_pos rfl, filter_tt r]
theorem laidStep_perm (p : Bool) (row : List Str) (x : Str) : (laidStep p row x).Perm (x :: row) := by
  unfold laidStep
  generalize row.length - (row.map (cmpS p · x)).count 1 = k
  rw [List.append_assoc]
  refine (List.perm_append_comm_assoc _ _ _).trans ?_
  rw [List.take_append_drop]
  exact List.Perm.refl _
theorem laidOf_snoc (p : Bool) (ns : List Str) (x : Str) : laidOf p (ns ++ [x]) = laidStep p (laidOf p ns) x := by unfold laidOf; rw [List.foldl_append]; rfl
theorem laid_fold_perm (p : Bool) : ∀ (ns row : List Str), (ns.foldl (laidStep p) row).Perm (ns ++ row)
  | [], row => List.Perm.refl _
  | x :: r, row => by
    rw [List.foldl_cons]
    refine (laid_fold_perm p r (laidStep p row x)).trans ?_
    refine ((laidStep_perm p row x).append_left r).trans ?_
    exact List.perm_middle
theorem laidOf_perm (p : Bool) (ns : List Str) : (laidOf p ns).Perm ns := by have h := laid_fold_perm p ns []; rw [List.append_nil] at h; exact h
theorem laidOf_length (p : Bool) (ns : List Str) : (laidOf p ns).length = ns.length := (laidOf_perm p ns).length_eq
theorem laid_take {p : Bool} {ns : List Str} {i : Nat} {x : Str} (h : ns[i]? = some x) : laidOf p (ns.take (i + 1)) = laidStep p (laidOf p (ns.take i)) x := by
  rw [List.take_add_one, h]; exact laidOf_snoc p _ x
theorem laid_mem {p : Bool} {ns : List Str} {i : Nat} {z : Str} (h : z ∈ laidOf p (ns.take i)) : z ∈ ns := List.mem_of_mem_take ((laidOf_perm p _).mem_iff.mp h)

theorem list_same {vs ws : List Value} (h : ws.length = vs.toArray.size) (hp : ∀ (j : Nat) (v : Value), ws[j]? = some v → vs.toArray[j]? = some v) : ws = vs := by
  apply List.ext_getElem?
  intro j
  by_cases hj : j < ws.length
  · have h1 := List.getElem?_eq_getElem hj
    have h2 := hp j _ h1
    rw [h1]
    simpa using h2.symm
  · rw [List.getElem?_eq_none (by omega), List.getElem?_eq_none (by simp at h; omega)]
theorem paired_ints {f : Str → Int} {vs : List Value} {ss : List Str} (hs : StrsAre vs ss) : ∀ {ys : List Value}, Paired (fun v y => ∃ z t t', v = .str z t ∧ y = .int (f z) t') vs ys → IntsAre ys (ss.map f) := by
  induction hs with
  | nil => intro ys h; cases h; exact .nil
  | cons y t _ ih =>
    intro ys h
    cases h with
    | cons hf hr =>
      obtain ⟨z, u, u', e, rfl⟩ := hf
      cases e
      exact .cons _ _ (ih hr)

theorem laid_c (w : World) (mean : ExcName → Option Value) (mg mb : Str → Option Value) (l : Addr) (vs : List Value) (ns : List Str) (hs : StrsAre vs ns) (paired : Bool)
    (hlen : ns.length ≤ 20) (hshort : ∀ x ∈ ns, x.length ≤ 100)
    (hup : ∀ i x, ns[i]? = some x → ((laidOf paired (ns.take i)).map (cmpS paired · x)).Pairwise (· ≤ ·)) :
    Ctr w mean mg mb 52 8 200 (fun h => h.IsList l vs.toArray) [.ref l, .bool paired] (fun h v => ∃ r vs', v = .ref r ∧ h.IsList r vs'.toArray ∧ StrsAre vs' (laidOf paired ns)) := by
  unfold Ctr
  k_fill
  intro dp un gd outer base s Q E B X T hd hu hl hret
  k_dflt (refine' enterC (binds := [(Str.ofString "names", .ref l), (Str.ofString "paired", .bool paired)]) ?k1 ?k3 ?k4 ?k5 ?k6 ?k7 ?k8 ?k9 ?k10 ?k11 ?_; walk_at "mine enteredC")
  intro L' h₁ tk cells hB F N Y
  (try dsimp only)
  obtain ⟨o1, o2, hE, d1, d2⟩ := CellsAre.two Y
  subst hE
  clear Y
  have d2' : o2.data = .cell (some (.bool paired)) := d2
  have d1' : o1.data = .cell none := d1
  clear d1 d2
  k_steps
  rename_i r0 _ l1 _ F' N'
  refine wpAny_For ?_ (by intro _; rfl)
  refine nm_loc F'.ns rfl rfl rfl rfl ?_
  refine loop_list (h₀ := s.heap) (L := L') (items := vs.toArray) (fun i m news => ∃ r vs' o1' c1, m (Str.ofString "names") = some (.ref l) ∧ m (Str.ofString "row") = some (.ref r) ∧ news = [(r, listOf vs'.toArray 0), (L' + 1 + 1, o1'), (L' + 1, o2)] ∧ o1'.data = .cell c1 ∧
    StrsAre vs' (laidOf paired (ns.take i)) ∧ r ≠ L' + 1 + 1 ∧ r ≠ L' + 1) rfl F' N' ?hj ?hl ?turn ?done
  case hj => exact ⟨_, [], o1, none, rfl, rfl, rfl, d1', .nil, Nat.ne_of_gt l1.1, Nat.ne_of_gt l1.2⟩
  case hl => intro i h m news _ F _; exact hl.at fun o e => F.keep _ o e
  case done =>
    rintro h tk m news ⟨r, vs', o1', c1, e1, e2, rfl, e4, e5, _, _⟩ F N
    rw [map2 e2 e1] at F
    dsimp only
    k_steps
    dsimp only
    refine hret _ _ _ F.keep ⟨r, vs', rfl, News.isList N (.head _), ?_⟩
    have h1 : vs.toArray.size = ns.length := by rw [List.size_toArray]; exact StrsAre.length hs
    rw [h1, List.take_length] at e5
    exact e5
  case turn =>
    rintro I i v h tk m news oI E' hv ⟨r, vs', o1', c1, e1, e2, rfl, e4, e5, n1, n2⟩ F N hne
    obtain ⟨x, tx, rfl, hx⟩ := StrsAre.item hs i v (by simpa using hv)
    rw [map2 e2 e1] at F
    have q1 : @Ne Nat r I := hne _ (.head _)
    have q2 : @Ne Nat (L' + 1 + 1) I := hne _ (.tail _ (.head _))
    have q3 : @Ne Nat (L' + 1) I := hne _ (.tail _ (.tail _ (.head _)))
    have q4 : @Ne Nat r (L' + 1 + 1) := n1
    have q5 : @Ne Nat r (L' + 1) := n2
    k_steps
    rename_i h2 o1n F2 N2 dn
    refine Stop.mk ?_
    refine' wpAny_Assign_ListComp_free (fun _ => true) (fun v y => ∃ z t t', v = .str z t ∧ y = .int (cmpS paired z x) t') ?hsw ?hclos ?hcell ?hkind ?hnames ?hx ?hy ?hp ?h ?hs
    case hsw => with_unfolding_all rfl
    case hclos => with_unfolding_all rfl
    case hcell => decide
    case hkind => with_unfolding_all rfl
    case hnames => decide
    case hx => with_unfolding_all rfl
    case hy => with_unfolding_all rfl
    case hp => with_unfolding_all rfl
    case hs => intro _; with_unfolding_all rfl
    case h =>
      refine nm_loc F2.ns rfl rfl rfl rfl ?_
      have hrl : h2.IsList r vs'.toArray := News.isList N2 (.tail _ (.head _))
      refine wpAny_pyIter_list hrl ?_
      have hrI : r ≠ h2.objs.size := by obtain ⟨o, ho, _⟩ := hrl; exact Nat.ne_of_lt (Heap.lt_size ho)
      have hLI : L' ≠ h2.objs.size := Nat.ne_of_lt F2.ns.lt
      refine ⟨_, _, _, vs'.toArray.size, _, _, _, rfl, Walks.list rfl h2.objs.size r hrI vs'.toArray, ?_, ⟨⟨_, Heap.get?_push_size _ rfl, rfl, rfl⟩, hrl.push _⟩, ?_, ?_, F2.ns.push _, ⟨?_, ?_⟩, ?_⟩
      · have h1 := StrsAre.length e5
        rw [laidOf_length, List.length_take] at h1
        rw [List.size_toArray, sizeLine_eq]
        omega
      · intro b hb
        rw [Heap.size_push]
        rcases List.mem_cons.mp hb with rfl | hb
        · exact Nat.lt_succ_self _
        · obtain ⟨o, ho, _⟩ := hrl
          rw [List.mem_singleton.mp hb]
          exact Nat.lt_succ_of_lt (Heap.lt_size ho)
      · exact fun hm => hLI (List.mem_singleton.mp hm)
      · intro C i v s₃ m₃ E'' _ _ _ _ _ _
        exact wpAny_pure ⟨rfl, _, _, rfl, fun _ _ e => e⟩
      · intro C j v s₃ m₃ E'' hC hP _ hn₃ hm₃ hk₃ _
        obtain ⟨z, tz, rfl, hz⟩ := StrsAre.item e5 j v (by simpa using hP)
        have e3 : Ext h2 s₃.heap := fun b o e => hk₃ b o (fun hm => absurd (Heap.lt_size e) (by rw [List.mem_singleton.mp hm]; exact Nat.lt_irrefl _)) (Heap.get?_push_of_some _ e)
        have cn3 : s₃.heap.IsCell (L' + 1 + 1) (some (.str x tx)) := ⟨o1n, e3 _ _ (News.get (a := L' + 1 + 1) (o := o1n) N2 (by k_mem)), dn⟩
        have cp3 : s₃.heap.IsCell (L' + 1) (some (.bool paired)) := ⟨o2, e3 _ _ (News.get (a := L' + 1) (o := o2) N2 (by k_mem)), d2'⟩
        have G3 := hB _ _ (F2.keeps e3)
        have X3 := G3.X
        have T3 := G3.T
        have hzl : z.length ≤ 100 := hshort z (laid_mem (List.mem_of_getElem? hz))
        have hxl : x.length ≤ 100 := hshort x (List.mem_of_getElem? hx)
        refine IfExp_ (isTrue_plain (nm_cell (c := L' + 1) rfl cp3 rfl rfl rfl (wpAny_truthy_bool ?_)))
        cases paired with
        | true =>
          show wpAny _ _ (eval _ _) _ _ _
          walk_at "mine call"
          refine args_cons ?_
          walk_at "mine call"
          refine args_cons (nm_loc hn₃ hm₃ rfl rfl rfl (args_cons (nm_cell (c := L' + 1 + 1) rfl cn3 rfl rfl rfl (args_nil ⟨Ext.refl _, ?_⟩))))
          refine Ctr.gr (pair_c w mean mg mb z tz (.str x tx) (some x) ⟨tx, rfl⟩ (by omega) (by rintro _ ⟨⟩; omega)) G3 (show dp + 1 + 4 < recursionLimit by omega) (show un + 3 + 20 < cLine by omega) trivial ?_
          rintro v4 h4 tk4 x4 ⟨t4, rfl⟩
          have G4 := G3.ext x4
          have X4 := G4.X
          have T4 := G4.T
          refine args_cons ?_
          walk_at "mine call"
          refine args_cons (nm_cell (c := L' + 1 + 1) rfl (cn3.keeps x4) rfl rfl rfl (args_cons (nm_loc (hn₃.keeps x4) hm₃ rfl rfl rfl (args_nil ⟨Ext.refl _, ?_⟩))))
          refine Ctr.gr (pair_c w mean mg mb x tx (.str z tz) (some z) ⟨tz, rfl⟩ (by omega) (by rintro _ ⟨⟩; omega)) G4 (show dp + 1 + 4 < recursionLimit by omega) (show un + 3 + 20 < cLine by omega) trivial ?_
          rintro v5 h5 tk5 x5 ⟨t5, rfl⟩
          refine args_nil ⟨Ext.trans x4 x5, ?_⟩
          refine Ctr.gr (sign_c w mean mg mb _ _ t4 t5) (G4.ext x5) (show dp + 1 + 4 < recursionLimit by omega) (show un + 3 + 20 < cLine by omega) trivial ?_
          rintro v6 h6 tk6 x6 ⟨t6, rfl⟩
          exact ⟨⟨z, tz, t6, rfl, rfl⟩, _, _, rfl, Ext.trans x4 (Ext.trans x5 x6)⟩
        | false =>
          show wpAny _ _ (eval _ _) _ _ _
          walk_at "mine call"
          refine args_cons (nm_loc hn₃ hm₃ rfl rfl rfl (args_cons (nm_cell (c := L' + 1 + 1) rfl cn3 rfl rfl rfl (args_nil ⟨Ext.refl _, ?_⟩))))
          refine Ctr.gr (sign_c w mean mg mb z x tz tx) G3 (show dp + 1 + 4 < recursionLimit by omega) (show un + 3 + 20 < cLine by omega) trivial ?_
          rintro v6 h6 tk6 x6 ⟨t6, rfl⟩
          exact ⟨⟨z, tz, t6, rfl, rfl⟩, _, _, rfl, x6⟩
      · intro D h3 tk3 ys vsx hD hlD hpD hlen3 hP3 hF3 hn3 hk3
        have hvx : vsx = vs' := list_same hlen3 hP3
        subst hvx
        have hI3 : IntsAre ys.toList ((laidOf paired (ns.take i)).map (cmpS paired · x)) := paired_ints e5 (by rw [filter_tt] at hF3; exact hF3)
        obtain ⟨nD, eD⟩ := hpD
        have hDL : D ≠ L' := by
          rintro rfl
          obtain ⟨o, _, _, ho, _⟩ := F2.ns
          rw [Heap.get?_push_of_some _ ho] at hD
          cases hD
        have hD2 : h2.get? D = none := by
          cases e : h2.get? D with
          | none => rfl
          | some o => rw [Heap.get?_push_of_some _ e] at hD; cases hD
        have up : ∀ b o, b ≠ L' → h2.get? b = some o → h3.get? b = some o := fun b o hb e =>
          hk3 b o hb (fun hm => absurd (Heap.lt_size e) (by rw [List.mem_singleton.mp hm]; exact Nat.lt_irrefl _)) (Heap.get?_push_of_some _ e)
        have hD0 : s.heap.get? D = none := by
          cases e : s.heap.get? D with
          | none => rfl
          | some o => rw [F2.keep _ _ e] at hD2; cases hD2
        have F3 : Fr s.heap L' h3 _ := ⟨hn3, fun b o e => up b o (Nat.ne_of_lt (Nat.lt_of_lt_of_le (Heap.lt_size e) F2.above)) (F2.keep b o e), F2.above⟩
        have N3 : News s.heap L' h3 [(D, listOf ys nD), (I, oI), (r, listOf vsx.toArray 0), (L' + 1 + 1, o1n), (L' + 1, o2)] := by
          intro p hp
          rcases List.mem_cons.mp hp with rfl | hp
          · exact ⟨eD, hDL, hD0⟩
          · have := N2 p hp
            exact ⟨up _ _ this.2.1 this.1, this.2⟩
        have dne : ∀ p ∈ [(I, oI), (r, listOf vsx.toArray 0), (L' + 1 + 1, o1n), (L' + 1, o2)], p.1 ≠ D := fun p hp e => by
          have := (N2 p hp).1
          rw [e, hD2] at this
          cases this
        have q6 : @Ne Nat I D := dne _ (.head _)
        have q7 : @Ne Nat r D := dne _ (.tail _ (.head _))
        have q8 : @Ne Nat (L' + 1 + 1) D := dne _ (.tail _ (.tail _ (.head _)))
        have q9 : @Ne Nat (L' + 1) D := dne _ (.tail _ (.tail _ (.tail _ (.head _))))
        have hlD' : h3.IsList D ys.toList.toArray := by simpa using hlD
        have hlr3 : h3.IsList r vsx.toArray := News.isList N3 (.tail _ (.tail _ (.head _)))
        clear dne hk3 hD hP3 hF3 hn3 F2 N2 up hD2 hD0
        dsimp only
        k_steps
        refine in_none_ints hlD hI3 ?_
        k_steps
        have hlr : vsx.length ≤ 20 := by
          have h1 := StrsAre.length e5
          rw [laidOf_length, List.length_take] at h1
          omega
        have hly : ys.toList.length ≤ 20 := by
          have h1 := IntsAre.length hI3
          rw [List.length_map, laidOf_length, List.length_take] at h1
          omega
        refine sorted_N F3 N3 hlD' hI3 (by omega) ?_
        intro h4 vs4 ns4 n4 F4 N4 hI4 hp4 hs4
        have e44 : ns4 = (laidOf paired (ns.take i)).map (cmpS paired · x) := hp4.eq_of_pairwise (fun a b _ _ h1 h2 => by omega) hs4 (hup i x hx)
        subst e44
        have N4' : News s.heap L' h4 [(D, listOf ys nD), (I, oI), (r, listOf vsx.toArray 0), (L' + 1 + 1, o1n), (L' + 1, o2)] := fun p hp => N4 p (.tail _ hp)
        have hl4 : h4.IsList (h3.objs.size + 1) vs4.toArray := News.isList N4 (.head _)
        have hlD4 : h4.IsList D ys.toList.toArray := by have := News.isList N4' (.head _); simpa using this
        have hlr4 : h4.IsList r vsx.toArray := News.isList N4' (.tail _ (.tail _ (.head _)))
        clear N4 F3 N3 hlD hlD' hlr3 eD
        refine ne_intsK hlD4 hI3 hl4 hI4 (show un + 3 + 64 < cLine by omega) ?_
        simp only [decide_true, Bool.not_true]
        clear hl4 hI4 hp4
        k_steps
        rename_i h5 F5 N5
        have hlr5 : h5.IsList r vsx.toArray := News.isList N5 (.tail _ (.tail _ (.head _)))
        have hcr : ((laidOf paired (ns.take i)).map (cmpS paired · x)).count 1 ≤ vsx.length := by
          have h1 := List.count_le_length (a := (1 : Int)) (l := (laidOf paired (ns.take i)).map (cmpS paired · x))
          rw [List.length_map] at h1
          have h2 := StrsAre.length e5
          omega
        have ek : ((vsx.toArray.size : Nat) : Int) - ((((laidOf paired (ns.take i)).map (cmpS paired · x)).count 1 : Nat) : Int) = ((vsx.length - ((laidOf paired (ns.take i)).map (cmpS paired · x)).count 1 : Nat) : Int) := by
          rw [List.size_toArray]; omega
        rw [ek]
        generalize hkk : vsx.length - ((laidOf paired (ns.take i)).map (cmpS paired · x)).count 1 = kk
        refine Stop.mk (slice_list F5 N5 hlr5 .none (.int _ _) ?_)
        intro h6 F6 N6
        rw [slicePick_upto'] at N6
        k_steps
        rename_i ln h7 F7 N7 _
        refine add_arrays F7 N7 (News.isList N7 (.tail _ (.head _))) (News.isList N7 (.head _)) ?_ (by rw [sizeLine_eq]; simp only [List.size_toArray, List.length_take]; simp; omega)
        intro h8 F8 N8
        clear F7 N7
        k_steps
        rw [ek, hkk]
        have hlr8 : h8.IsList r vsx.toArray := News.isList N8 (by k_mem)
        refine Stop.mk (slice_list F8 N8 hlr8 (.int _ _) .none ?_)
        intro h9 F9 N9
        rw [slicePick_from'] at N9
        clear F8 N8
        k_steps
        refine add_arrays F9 N9 (News.isList N9 (.tail _ (.head _))) (News.isList N9 (.head _)) ?_ (by rw [sizeLine_eq]; simp; omega)
        intro h10 F10 N10
        have hfr : ∀ p ∈ [(I, oI), (r, listOf vsx.toArray 0), (L' + 1 + 1, o1n), (L' + 1, o2)], p.1 ≠ h9.objs.size := by
          intro p hp
          have : h9.get? p.1 = some p.2 := (N9 p (by
            refine .tail _ (.tail _ (.tail _ (.tail _ (.tail _ ?_))))
            exact hp)).1
          exact Nat.ne_of_lt (Heap.lt_size this)
        clear F9 N9
        k_steps
        rename_i h11 F11 N11
        dsimp only
        refine TurnEnd.mk (news' := [(h9.objs.size, listOf ((vsx.take kk ++ [Value.str x tx]) ++ vsx.drop kk).toArray 0), (L' + 1 + 1, o1n), (L' + 1, o2)]) F11 (fun p hp => N11 p ?_) ?_ ⟨h9.objs.size, (vsx.take kk ++ [Value.str x tx]) ++ vsx.drop kk, o1n, _, rfl, rfl, rfl, dn, ?_, ?_, ?_⟩
        · rcases List.mem_cons.mp hp with rfl | hp
          · k_mem
          · rcases List.mem_cons.mp hp with rfl | hp
            · exact .head _
            · rcases List.mem_cons.mp hp with rfl | hp
              · k_mem
              · rcases List.mem_cons.mp hp with rfl | hp
                · k_mem
                · cases hp
        · intro p hp
          rcases List.mem_cons.mp hp with rfl | hp
          · exact Ne.symm (hfr _ (.head _))
          · rcases List.mem_cons.mp hp with rfl | hp
            · exact q2
            · rw [List.mem_singleton.mp hp]; exact q3
        · rw [laid_take hx]
          have h2 := StrsAre.length e5
          unfold laidStep
          rw [← h2, hkk]
          exact StrsAre.append' (StrsAre.append' (StrsAre.take' e5 kk) (.cons x tx .nil)) (StrsAre.drop' e5 kk)
        · exact Ne.symm (hfr _ (.tail _ (.tail _ (.head _))))
        · exact Ne.symm (hfr _ (.tail _ (.tail _ (.tail _ (.head _)))))
end Mine

namespace Mine
theorem quiet_C6 : True := by w_top off; exact trivial
local macro_rules | `(tactic| walk_at "mine spare") => `(tactic| skip)
set_option maxRecDepth 100000
set_option maxHeartbeats 8000000
local macro_rules | `(tactic| walk_at "mine entered") => `(tactic| ((case k1 => assumption); (case k2 => assumption); (case k3 => k_is); (case k4 => k_is); (case k5 => omega); (case k6 => exact BindsTo.of_eq rfl); (case k7 => exact locs rfl); (case k8 => exact rfl); (case k9 => exact rfl); (case k10 => exact rfl); (case k11 => decide); k_whole))
local macro_rules | `(tactic| walk_at "call ref") => `(tactic| (refine Stop.out ?_))
local macro_rules | `(tactic| walk_at "pyIter ref") => `(tactic| (refine Stop.out ?_))
local macro_rules | `(tactic| walk_at "exec For Name Subscript cons nil") => `(tactic| (refine Stop.out ?_))
local macro_rules | `(tactic| walk_at "exec For") => `(tactic| (refine Stop.out ?_))
local macro_rules | `(tactic| walk_at "subscriptTail Name Slice ref ref") => `(tactic| (refine Stop.out ?_))

/-- names in one line, the first as it is -/
def lineF (x : Str) (xs : List Str) : Str := xs.foldl (fun acc y => pairS acc (some y)) x

theorem map1 {m : Str → Option Value} {a : Str} {va : Option Value} (h1 : m a = va) : m = fun y => if y = a then va else m y := by
  funext y
  by_cases ha : y = a
  · subst ha; simp [h1]
  · simp [ha]
theorem pairS_length (a y : Str) : (pairS a (some y)).length = a.length + 1 + y.length := by
  show (a ++ Str.ofString "." ++ y).length = _
  rw [Str.length_append, Str.length_append]
  rfl
theorem lineF_snoc (x : Str) (xs : List Str) (y : Str) : lineF x (xs ++ [y]) = pairS (lineF x xs) (some y) := by unfold lineF; rw [List.foldl_append]; rfl
theorem lineF_length {c : Nat} : ∀ (xs : List Str) (x : Str), (∀ y ∈ xs, y.length ≤ c) → (lineF x xs).length ≤ x.length + xs.length * (c + 1)
  | [], x, _ => by simp [lineF]
  | y :: r, x, h => by
    have h1 := lineF_length r (pairS x (some y)) fun z hz => h z (.tail _ hz)
    have h2 := h y (.head _)
    rw [pairS_length] at h1
    show (lineF (pairS x (some y)) r).length ≤ _
    rw [List.length_cons, Nat.add_mul]
    omega

theorem line_c (w : World) (mean : ExcName → Option Value) (mg mb : Str → Option Value) (l : Addr) (vs : List Value) (x : Str) (ns : List Str) (hs : StrsAre vs (x :: ns))
    (hlen : ns.length ≤ 19) (hshort : ∀ y ∈ x :: ns, y.length ≤ 40) :
    Ctr w mean mg mb 59 8 60 (fun h => h.IsList l vs.toArray) [.ref l] (fun _ v => ∃ t, v = .str (lineF x ns) t) := by
  unfold Ctr
  k_fill
  intro dp un gd outer base s Q E B X T hd hu hl hret
  k_dflt (refine' enter (binds := [(Str.ofString "row", .ref l)]) ?k1 ?k2 ?k3 ?k4 ?k5 ?k6 ?k7 ?k8 ?k9 ?k10 ?k11 ?_; walk_at "mine entered")
  intro L' h₁ F N
  (try dsimp only)
  obtain ⟨tx, vs1, rfl, hs1⟩ := StrsAre.cons_inv hs
  have hl1 : h₁.IsList l (.str x tx :: vs1).toArray := hl.at fun o e => F.keep _ o e
  k_steps
  refine Stop.mk (Ctr.at (pair_c w mean mg mb x _ .none none rfl (by have := hshort x (.head _); omega) (fun _ e => nomatch e)) B F N X T rfl (by omega) (by omega) trivial ?_)
  rintro v h2 tk2 F2 N2 x2 ⟨t2, rfl⟩
  clear F N
  k_steps
  rename_i h3 F3 N3
  refine Stop.mk (wpAny_For ?_ (by intro _; rfl))
  k_steps
  have hl3 : h3.IsList l (.str x tx :: vs1).toArray := hl.at fun o e => F3.keep _ o e
  refine Stop.mk (slice_list F3 N3 hl3 (.int _ _) .none ?_)
  intro h4 F4 N4
  have e1 : slicePick (.str x tx :: vs1).toArray (some 1) none none = vs1.toArray := slicePick_from' _ 1
  rw [e1] at N4
  clear F3 N3
  generalize ha : ({ s with heap := h3, toks := tk } : Shared).heap.objs.size + 1 = a at N4 ⊢
  refine loop_list (h₀ := s.heap) (L := L') (items := vs1.toArray) (fun i m news => (∃ t, m (Str.ofString "line") = some (.str (lineF x (ns.take i)) t)) ∧ news = [(a, { cls := .type "list", data := .seq vs1.toArray })]) rfl F4 N4 ?hj ?hl ?turn ?done
  case hj => exact ⟨⟨_, rfl⟩, rfl⟩
  case hl => rintro i h m news ⟨_, rfl⟩ _ N; exact News.isList N (.head _)
  case done =>
    rintro h tk m news ⟨⟨t, e2⟩, rfl⟩ F N
    rw [map1 e2] at F
    dsimp only
    k_steps
    dsimp only
    refine hret _ _ _ F.keep ⟨t, ?_⟩
    have h1 : vs1.toArray.size = ns.length := by rw [List.size_toArray]; exact StrsAre.length hs1
    rw [h1, List.take_length]
  case turn =>
    rintro I i v h tk m news oI E' hv ⟨⟨t, e2⟩, rfl⟩ F N hne
    obtain ⟨y, ty, rfl, hy⟩ := StrsAre.item hs1 i v (by simpa using hv)
    rw [map1 e2] at F
    k_steps
    rename_i h5 F5 N5
    have hb : (lineF x (ns.take i)).length ≤ 40 + 19 * 41 := by
      have h1 := lineF_length (c := 40) (ns.take i) x fun z hz => hshort z (.tail _ (List.mem_of_mem_take hz))
      have h2 := hshort x (.head _)
      have h3 : (ns.take i).length ≤ 19 := by rw [List.length_take]; omega
      have h4 := Nat.mul_le_mul_right 41 h3
      omega
    refine Stop.mk (Ctr.at (pair_c w mean mg mb _ t (.str y ty) (some y) ⟨ty, rfl⟩ (by omega) (by rintro _ ⟨⟩; have := hshort y (.tail _ (List.mem_of_getElem? hy)); omega)) B F5 N5 X T rfl (by omega) (by omega) trivial ?_)
    rintro v h6 tk6 F6 N6 x6 ⟨t6, rfl⟩
    clear F5 N5
    k_steps
    rename_i h7 F7 N7
    dsimp only
    refine TurnEnd.mk F7 N7 hne ⟨⟨t6, ?_⟩, rfl⟩
    show some (Value.str (pairS (lineF x (ns.take i)) (some y)) t6) = _
    rw [List.take_add_one, hy]
    rw [← lineF_snoc]
    rfl
end Mine

namespace Mine
theorem quiet_C7 : True := by w_top off; exact trivial
set_option maxRecDepth 100000
set_option maxHeartbeats 8000000
local macro_rules | `(tactic| walk_at "mine entered") => `(tactic| ((case k1 => assumption); (case k2 => assumption); (case k3 => k_is); (case k4 => k_is); (case k5 => omega); (case k6 => exact BindsTo.of_eq rfl); (case k7 => exact locs rfl); (case k8 => exact rfl); (case k9 => exact rfl); (case k10 => exact rfl); (case k11 => decide); k_whole))
local macro_rules | `(tactic| walk_at "call ref") => `(tactic| (refine Stop.out ?_))
local macro_rules | `(tactic| walk_at "pyIter ref") => `(tactic| (refine Stop.out ?_))
local macro_rules | `(tactic| walk_at "exec For") => `(tactic| (refine Stop.out ?_))
local macro_rules | `(tactic| walk_at "exec For Name Subscript cons nil") => `(tactic| (refine Stop.out ?_))
local macro_rules | `(tactic| walk_at "subscriptTail Name Slice ref ref") => `(tactic| (refine Stop.out ?_))

/-- names in one line, laid from the end -/
def endF (rs : List Str) : Option Str := rs.foldl (fun acc y => some (pairS y acc)) none
theorem endF_snoc (rs : List Str) (y : Str) : endF (rs ++ [y]) = some (pairS y (endF rs)) := by unfold endF; rw [List.foldl_append]; rfl
theorem end_fold_length {c : Nat} : ∀ (rs : List Str) (o : Option Str) (k : Nat), (∀ y ∈ rs, y.length ≤ c) → (∀ x, o = some x → x.length ≤ k) → ∀ x, rs.foldl (fun acc y => some (pairS y acc)) o = some x → x.length ≤ k + rs.length * (c + 1)
  | [], o, k, _, h, x, e => by have := h x e; simpa using this
  | y :: r, o, k, hy, h, x, e => by
    have h1 := end_fold_length r (some (pairS y o)) (k + (c + 1)) (fun z hz => hy z (.tail _ hz)) (by
      rintro _ ⟨⟩
      have h2 := hy y (.head _)
      cases o with
      | none => show y.length ≤ _; omega
      | some z => rw [pairS_length]; have := h z rfl; omega) x e
    rw [List.length_cons, Nat.add_mul]
    omega
theorem endF_length {c : Nat} {rs : List Str} (h : ∀ y ∈ rs, y.length ≤ c) {x : Str} (e : endF rs = some x) : x.length ≤ rs.length * (c + 1) := by
  have := end_fold_length rs none 0 h (fun _ e => nomatch e) x e
  omega
theorem strs_reverse {vs : List Value} {ss : List Str} (h : StrsAre vs ss) : StrsAre vs.reverse ss.reverse := by
  induction h with
  | nil => exact .nil
  | cons y t _ ih => rw [List.reverse_cons, List.reverse_cons]; exact StrsAre.append' ih (.cons y t .nil)

theorem lineEnd_c (w : World) (mean : ExcName → Option Value) (mg mb : Str → Option Value) (l : Addr) (vs : List Value) (ns : List Str) (hs : StrsAre vs ns)
    (hlen : ns.length ≤ 20) (hshort : ∀ y ∈ ns, y.length ≤ 40) :
    Ctr w mean mg mb 66 8 60 (fun h => h.IsList l vs.toArray) [.ref l] (fun _ v => OptStr v (endF ns.reverse)) := by
  unfold Ctr
  k_fill
  intro dp un gd outer base s Q E B X T hd hu hl hret
  k_dflt (refine' enter (binds := [(Str.ofString "row", .ref l)]) ?k1 ?k2 ?k3 ?k4 ?k5 ?k6 ?k7 ?k8 ?k9 ?k10 ?k11 ?_; walk_at "mine entered")
  intro L' h₁ F N
  (try dsimp only)
  k_steps
  rename_i h3 F3 N3
  refine Stop.mk (wpAny_For ?_ (by intro _; rfl))
  k_steps
  have hl3 : h3.IsList l vs.toArray := hl.at fun o e => F3.keep _ o e
  refine Stop.mk (slice_list3 F3 N3 hl3 .none .none (.int _ _) (by decide) ?_)
  intro h4 F4 N4
  have e1 : slicePick vs.toArray none none (some (-1)) = vs.reverse.toArray := krv_pick _
  rw [e1] at N4
  clear F3 N3
  have hsr := strs_reverse hs
  generalize vs.reverse = ws at hsr N4
  generalize ha : ({ s with heap := h3, toks := tk } : Shared).heap.objs.size + 1 = a at N4 ⊢
  refine loop_list (h₀ := s.heap) (L := L') (items := ws.toArray) (fun i m news => (∃ lv, m (Str.ofString "line") = some lv ∧ OptStr lv (endF (ns.reverse.take i))) ∧ news = [(a, { cls := .type "list", data := .seq ws.toArray })]) rfl F4 N4 ?hj ?hl ?turn ?done
  case hj => exact ⟨⟨.none, rfl, rfl⟩, rfl⟩
  case hl => rintro i h m news ⟨_, rfl⟩ _ N; exact News.isList N (.head _)
  case done =>
    rintro h tk m news ⟨⟨lv, e2, e3⟩, rfl⟩ F N
    rw [map1 e2] at F
    dsimp only
    k_steps
    dsimp only
    refine hret _ _ _ F.keep ?_
    have h1 : ws.toArray.size = ns.reverse.length := by rw [List.size_toArray]; exact StrsAre.length hsr
    rw [h1, List.take_length] at e3
    exact e3
  case turn =>
    rintro I i v h tk m news oI E' hv ⟨⟨lv, e2, e3⟩, rfl⟩ F N hne
    obtain ⟨y, ty, rfl, hy⟩ := StrsAre.item hsr i v (by simpa using hv)
    have hyl : y.length ≤ 40 := hshort y (by have := List.mem_of_getElem? hy; simpa using this)
    rw [map1 e2] at F
    have hb : short (endF (ns.reverse.take i)) := by
      intro x ex
      have h1 := endF_length (c := 40) (fun z hz => hshort z (by have := List.mem_of_mem_take hz; simpa using this)) ex
      have h3 : (ns.reverse.take i).length ≤ 20 := by rw [List.length_take, List.length_reverse]; omega
      have h4 := Nat.mul_le_mul_right 41 h3
      omega
    k_steps
    · rename_i hC l5 h5 F5 N5 l1
      refine Stop.mk (Ctr.at (build_c w mean mg mb _ .none lv none (endF (ns.reverse.take i)) rfl e3 (fun _ e => nomatch e) hb) B F5 N5 X T rfl (by omega) (by omega) (.inr (News.isList N5 (.head _))) ?_)
      rintro v h6 tk6 F6 N6 x6 ⟨t6, rfl⟩
      clear F5 N5
      k_steps
      rename_i h7 F7 N7
      dsimp only
      refine TurnEnd.mk (news' := [(a, { cls := .type "list", data := .seq ws.toArray })]) F7 (fun p hp => N7 p (.tail _ hp)) hne ⟨⟨_, rfl, ?_⟩, rfl⟩
      rw [List.take_add_one, hy]
      show OptStr _ (endF (ns.reverse.take i ++ [y]))
      rw [endF_snoc]
      refine ⟨t6, ?_⟩
      have hx : y = Str.ofString "C" := by simpa using hC
      subst hx
      cases endF (ns.reverse.take i) <;> rfl
    · rename_i hC l5 h5 F5 N5 l1
      refine Stop.mk (Ctr.at (build_c w mean mg mb _ (.str y ty) lv (some y) (endF (ns.reverse.take i)) ⟨ty, rfl⟩ e3 (fun _ e => by cases e; omega) hb) B F5 N5 X T rfl (by omega) (by omega) (.inr (News.isList N5 (.head _))) ?_)
      rintro v h6 tk6 F6 N6 x6 ⟨t6, rfl⟩
      clear F5 N5
      k_steps
      rename_i h7 F7 N7
      dsimp only
      refine TurnEnd.mk (news' := [(a, { cls := .type "list", data := .seq ws.toArray })]) F7 (fun p hp => N7 p (.tail _ hp)) hne ⟨⟨_, rfl, ?_⟩, rfl⟩
      rw [List.take_add_one, hy]
      show OptStr _ (endF (ns.reverse.take i ++ [y]))
      rw [endF_snoc]
      refine ⟨t6, ?_⟩
      cases endF (ns.reverse.take i) <;> rfl
end Mine

namespace Mine
set_option maxRecDepth 100000
set_option maxHeartbeats 4000000

/-- a comprehension's two clauses -/
abbrev nest (elt t0 i0 t1 i1 : Expr) (scope : Scope) (pos : Pos) : Expr := .ListComp elt [⟨t0, i0, [], 0⟩, ⟨t1, i1, [], 0⟩] scope pos

theorem compTurn_nest0 (elt t0 i0 t1 i1 : Expr) (scope : Scope) (pos : Pos) (it acc : Value) (env : Env) :
    compTurn (nest elt t0 i0 t1 i1 scope pos) 0 it acc env = (standAt i0.pos >>= fun _ => pyNext it >>= fun r => match r with
      | none => pure (.done .next)
      | some v => letOwnedTupleGo t0 it v >>= fun _ => assign t0 env v >>= fun _ =>
        (eval i1 env >>= fun x => standAt i1.pos >>= fun _ => foldedSetIterable i1 env x >>= fun x => holding [x] (pyIter x) >>= fun it1 =>
          runOwn (.compStart (nest elt t0 i0 t1 i1 scope pos) 1 it1 acc env) env >>= fun _ =>
          again (.compLoop (nest elt t0 i0 t1 i1 scope pos) 0 it acc env))) := by rfl

theorem compTurn_nest1 (elt t0 i0 t1 i1 : Expr) (scope : Scope) (pos : Pos) (it acc : Value) (env : Env) :
    compTurn (nest elt t0 i0 t1 i1 scope pos) 1 it acc env = (standAt i1.pos >>= fun _ => pyNext it >>= fun r => match r with
      | none => pure (.done .next)
      | some v => letOwnedTupleGo t1 it v >>= fun _ => assign t1 env v >>= fun _ =>
        (eval elt env >>= fun x => call (.builtin "list.append") [acc, x] >>= fun _ => pure ()) >>= fun _ =>
          again (.compLoop (nest elt t0 i0 t1 i1 scope pos) 1 it acc env)) := by rfl

section
variable {prog : Program} {w : World} {A : Around} {E : Value → Shared → Prop} {R : Result → Shared → Prop} {s : Shared}

theorem start_nest1 {elt t0 i0 t1 i1 : Expr} {scope : Scope} {pos : Pos} {it acc : Value} {env : Env}
    (h0 : codeAny (model prog w) A (.compLoop (nest elt t0 i0 t1 i1 scope pos) 1 it acc env) R s)
    (h : wpAny (model prog w) A (pyIter it) (fun it' s' => codeAny (model prog w) A (.compLoop (nest elt t0 i0 t1 i1 scope pos) 1 it' acc env) R s') (notedBy (model prog w) A env fun x s' => R (.error x) s') s) :
    codeAny (model prog w) A (.compStart (nest elt t0 i0 t1 i1 scope pos) 1 it acc env) R s := by
  refine codeAny_of_tree ?_
  show wpAny _ _ ((compStart (nest elt t0 i0 t1 i1 scope pos) 1 it acc env).onRaise (fun x => do noteFrame x env; standAt theWindowsPlace)) _ _ s
  refine wpAny_notedAt ?_
  unfold compStart
  show wpAny _ _ (ask >>= _) _ _ s
  refine wpAny_bind (wpAny_askSetting (wpAny_ite ?_))
  split
  · first
      | exact wpAny_bind (wpAny_pure (wpAny_pure (And.intro rfl h0)))
      | exact wpAny_pure (And.intro rfl h0)
  · first
      | exact wpAny_bind (wpAny_rule (wpAny_bind (wpAny_standAt (wpAny_bind (wpAny_mono h (fun it' s' h' => wpAny_pure (And.intro rfl h')) fun _ _ x => x)))))
      | (refine wpAny_bind (wpAny_rule ?_); show wpAny _ _ (standAt i1.pos >>= _) _ _ s; exact wpAny_bind (wpAny_standAt (wpAny_bind (wpAny_mono h (fun it' s' h' => wpAny_pure (And.intro rfl h')) fun _ _ x => x))))

/-- the inner clause's loop -/
theorem loop_nest1 {elt t0 i0 t1 i1 : Expr} {scope : Scope} {pos : Pos} {it acc : Value} {env : Env} (I : Nat → Shared → Prop)
    (turn : ∀ n s, I n s → wpAny (model prog w) A (pyNext it) (fun r s₁ => match r with
      | none => R (.ok .next) s₁
      | some v => wpAny (model prog w) A (assign t1 env v) (fun _ s₂ => wpAny (model prog w) A (eval elt env) (fun x s₃ =>
          wpAny (model prog w) A (call (.builtin "list.append") [acc, x]) (fun _ s₄ => ∃ m, m < n ∧ I m s₄) (notedBy (model prog w) A env fun e s' => R (.error e) s') s₃)
          (notedBy (model prog w) A env fun e s' => R (.error e) s') s₂) (notedBy (model prog w) A env fun e s' => R (.error e) s') s₁) (notedBy (model prog w) A env fun e s' => R (.error e) s') s)
    (n : Nat) (h : I n s) (ht : ∀ v, letOwnedTupleGo t1 it v = pure () := by intro _; rfl) :
    codeAny (model prog w) A (.compLoop (nest elt t0 i0 t1 i1 scope pos) 1 it acc env) R s := by
  refine codeAny_loop rfl I (fun n s hI => ?_) n h
  show wpAny _ _ ((compTurn (nest elt t0 i0 t1 i1 scope pos) 1 it acc env).onRaise (fun x => do noteFrame x env; theTreesLotGoes x)) _ _ s
  refine wpAny_noted ?_
  rw [compTurn_nest1]
  refine wpAny_bind (wpAny_standAt (wpAny_bind (wpAny_mono (turn n s hI) (fun r s₁ h₁ => ?_) fun _ _ h' => h')))
  cases r with
  | none => exact wpAny_pure h₁
  | some v =>
    refine wpAny_bind (wpAny_of_eq (ht v) ?_)
    exact wpAny_bind (wpAny_mono h₁ (fun _ s₂ h₂ => wpAny_bind (wpAny_bind (wpAny_mono h₂ (fun x s₃ h₃ => wpAny_bind (wpAny_mono h₃
      (fun _ s₄ h₄ => wpAny_pure (wpAny_pure ⟨rfl, h₄⟩)) fun _ _ h' => h')) fun _ _ h' => h'))) fun _ _ h' => h')

/-- the outer clause's loop -/
theorem loop_nest0 {elt t0 i0 t1 i1 : Expr} {scope : Scope} {pos : Pos} {it acc : Value} {env : Env} (I : Nat → Shared → Prop)
    (turn : ∀ n s, I n s → wpAny (model prog w) A (pyNext it) (fun r s₁ => match r with
      | none => R (.ok .next) s₁
      | some v => wpAny (model prog w) A (assign t0 env v) (fun _ s₂ => wpAny (model prog w) A (eval i1 env) (fun x s₃ =>
          wpAny (model prog w) A (pyIter x) (fun it1 s₄ => codeAny (model prog w) A (.compStart (nest elt t0 i0 t1 i1 scope pos) 1 it1 acc env) (fun r s₅ => (∃ f, r = .ok f) ∧ ∃ m, m < n ∧ I m s₅) s₄)
            (notedBy (model prog w) A env fun e s' => R (.error e) s') s₃)
          (notedBy (model prog w) A env fun e s' => R (.error e) s') s₂) (notedBy (model prog w) A env fun e s' => R (.error e) s') s₁) (notedBy (model prog w) A env fun e s' => R (.error e) s') s)
    (n : Nat) (h : I n s) (ht : ∀ v, letOwnedTupleGo t0 it v = pure () := by intro _; rfl) (hs : ∀ x, foldedSetIterable i1 env x = pure x := by intro _; rfl) :
    codeAny (model prog w) A (.compLoop (nest elt t0 i0 t1 i1 scope pos) 0 it acc env) R s := by
  refine codeAny_loop rfl I (fun n s hI => ?_) n h
  show wpAny _ _ ((compTurn (nest elt t0 i0 t1 i1 scope pos) 0 it acc env).onRaise (fun x => do noteFrame x env; theTreesLotGoes x)) _ _ s
  refine wpAny_noted ?_
  rw [compTurn_nest0]
  refine wpAny_bind (wpAny_standAt (wpAny_bind (wpAny_mono (turn n s hI) (fun r s₁ h₁ => ?_) fun _ _ h' => h')))
  cases r with
  | none => exact wpAny_pure h₁
  | some v =>
    refine wpAny_bind (wpAny_of_eq (ht v) ?_)
    refine wpAny_bind (wpAny_mono h₁ (fun _ s₂ h₂ => wpAny_bind (wpAny_mono h₂ (fun x s₃ h₃ => wpAny_bind (wpAny_standAt (wpAny_bind (wpAny_of_eq (hs x) (wpAny_bind (wpAny_holding (wpAny_mono h₃ (fun it1 s₄ h₄ => ?_) fun _ _ h' => h')))))))
      fun _ _ h' => h')) fun _ _ h' => h')
    refine wpAny_bind (wpAny_runOwn (codeAny_mono h₄ fun r s₅ h₅ => ?_))
    obtain ⟨⟨f, rfl⟩, h₆⟩ := h₅
    exact wpAny_pure ⟨rfl, h₆⟩
end

end Mine

namespace Mine
set_option maxRecDepth 100000
set_option maxHeartbeats 4000000

/-- y is a list of the texts l, and not the list D -/
def LstA (D : Addr) (h : Heap) (l : List Str) (y : Value) : Prop := ∃ T ws, y = .ref T ∧ T ≠ D ∧ h.IsList T (ws : List Value).toArray ∧ StrsAre ws l

theorem LstA.extBut {D q : Addr} {h h' : Heap} {l : List Str} {y : Value} (x : LstA D h l y) (e : Heap.ExtBut q h h') (hq : q = D ∨ ∀ ws, ¬ h.IsList q ws) : LstA D h' l y := by
  obtain ⟨T, ws, rfl, hD, hl, hs⟩ := x
  have hT : T ≠ q := by
    rintro rfl
    rcases hq with rfl | hq
    · exact hD rfl
    · exact hq _ hl
  exact ⟨T, ws, rfl, hD, hl.extBut e hT, hs⟩
theorem LstA.ext {D : Addr} {h h' : Heap} {l : List Str} {y : Value} (x : LstA D h l y) (e : Ext h h') : LstA D h' l y := by
  obtain ⟨T, ws, rfl, hD, hl, hs⟩ := x
  exact ⟨T, ws, rfl, hD, hl.at fun o q => e _ o q, hs⟩

theorem not_list_ns {h : Heap} {a : Addr} {m} (hn : h.Ns a m) (ws : Array Value) : ¬ h.IsList a ws := by
  rintro ⟨o, ho, _, n, hd⟩
  obtain ⟨o', es, ep, ho', hd', _⟩ := hn
  rw [ho] at ho'; cases ho'; rw [hd] at hd'; cases hd'
theorem not_list_range {h : Heap} {a : Addr} {x l st : Int} (hn : IsRangeIter h a x l st) (ws : Array Value) : ¬ h.IsList a ws := by
  rintro ⟨o, ho, _, n, hd⟩
  have hn' : h.get? a = some _ := hn
  rw [ho] at hn'
  have e := Option.some.inj hn'
  rw [e] at hd
  cases hd
theorem not_list_iter {h : Heap} {a l : Addr} {i : Nat} (hn : h.IsListIter a l i) (ws : Array Value) : ¬ h.IsList a ws := by
  rintro ⟨o, ho, _, n, hd⟩
  obtain ⟨o', ho', _, hd'⟩ := hn
  rw [ho] at ho'; cases ho'; rw [hd] at hd'; cases hd'

section
variable {prog : Program} {w : World} {A : Around} {E : Value → Shared → Prop} {R : Result → Shared → Prop} {s : Shared}

theorem inner_run {elt t0 i0 i1 : Expr} {scope : Scope} {pos px : Pos} {I1 D : Addr} {cenv : Env} {n : Nat} {ys₀ : Array Value} {ls₀ : List (List Str)} {m : Str → Option Value} {f : Nat → List Str} {a : Value}
    (hh : A.handled = none) (hk : cenv.kindOf (Str.ofString "k") = some .local) (hp : (cenv.scope.kind == .class || (cenv.scope.kind == .module && cenv.locals != cenv.globals)) = false)
    (hst : IsRangeIter s.heap I1 0 n 1) (hacc : s.heap.PlainList D ys₀) (hn : s.heap.Ns cenv.locals m) (hone : m (Str.ofString "one") = some a)
    (hP : Paired (LstA D s.heap) ls₀ ys₀.toList) (hsz : ys₀.size + n ≤ sizeLine)
    (helt : ∀ j s₂ m₂ t E', j < n → s₂.heap.Ns cenv.locals m₂ → m₂ (Str.ofString "k") = some (.int (j : Nat) t) → m₂ (Str.ofString "one") = some a →
      (∀ b o, b ≠ cenv.locals → b ≠ I1 → b ≠ D → s.heap.get? b = some o → s₂.heap.get? b = some o) → (∃ o, s₂.heap.get? D = some o) →
      wpAny (model prog w) A (eval elt cenv) (fun y s₃ => LstA D s₃.heap (f j) y ∧ Keeps s₂ s₃) E' s₂)
    (hR : ∀ h' tk m' ys, h'.Ns cenv.locals m' → h'.PlainList D ys → Paired (LstA D h') (ls₀ ++ (List.range n).map f) ys.toList →
      (∀ b o, b ≠ cenv.locals → b ≠ I1 → b ≠ D → s.heap.get? b = some o → h'.get? b = some o) → R (.ok .next) { s with heap := h', toks := tk }) :
    codeAny (model prog w) A (.compLoop (nest elt t0 i0 (.Name (Str.ofString "k") px) i1 scope pos) 1 (.ref I1) (.ref D) cenv) R s := by
  have hCI : cenv.locals ≠ I1 := by
    intro e0
    obtain ⟨o', es, ep, ho', hd', _⟩ := hn
    have hst0 : s.heap.get? I1 = some _ := hst
    rw [e0, hst0] at ho'
    have e := Option.some.inj ho'
    rw [← e] at hd'
    cases hd'
  have hDI : D ≠ I1 := by rintro rfl; exact not_list_range hst _ hacc.isList
  have hDC : D ≠ cenv.locals := by rintro rfl; exact not_list_ns hn _ hacc.isList
  have W := Walks.range (prog := prog) (w := w) hh I1 0 1 n
  refine loop_nest1 (fun k s' => ∃ h' tk m' ys j, s' = { s with heap := h', toks := tk } ∧ IsRangeIter h' I1 (0 + ((j : Nat) : Int) * 1) ((n : Int) - (j : Nat)) 1 ∧ h'.PlainList D ys ∧ h'.Ns cenv.locals m' ∧ m' (Str.ofString "one") = some a ∧
    Paired (LstA D h') (ls₀ ++ (List.range j).map f) ys.toList ∧ j ≤ n ∧ k = n + 1 - j ∧ (∀ b o, b ≠ cenv.locals → b ≠ I1 → b ≠ D → s.heap.get? b = some o → h'.get? b = some o)) ?_ (n + 1)
    ⟨s.heap, s.toks, m, ys₀, 0, rfl, by simpa using hst, hacc, hn, hone, by simpa using hP, Nat.zero_le _, rfl, fun _ _ _ _ _ e => e⟩
  rintro k s' ⟨H, tk, m', ys, j, rfl, hst', hacc', hn', hone', hP', hj, rfl, hk'⟩
  by_cases hlt : j < n
  · refine W.item j _ _ _ hlt hst' fun v h₁ tk₁ hv hst₁ hk₁ => ?_
    obtain ⟨t, rfl⟩ := hv
    have e₁ : Heap.ExtBut I1 H h₁ := fun b o hb e => hk₁ b o (fun h => hb (List.mem_singleton.mp h)) e
    have hn₁ : h₁.Ns cenv.locals m' := hn'.at' fun o e => e₁ _ o hCI e
    refine wpAny_assign_Name (wpAny_storeName_local hk hn₁ (fun h₂ hn₂ hs₂ => ?_) hp)
    have hI2 : IsRangeIter h₂ I1 (0 + ((j + 1 : Nat) : Int) * 1) ((n : Int) - (j + 1 : Nat)) 1 := hs₂.extBut _ _ (Ne.symm hCI) hst₁
    have up : ∀ b o, b ≠ cenv.locals → b ≠ I1 → H.get? b = some o → h₂.get? b = some o := fun b o hC hI e => hs₂.extBut b o hC (e₁ b o hI e)
    have hacc₂ : h₂.PlainList D ys := hacc'.at fun o e => up _ o hDC hDI e
    have hP₂ : Paired (LstA D h₂) (ls₀ ++ (List.range j).map f) ys.toList :=
      Paired.mono (fun _ _ x => (x.extBut e₁ (.inr (not_list_range hst'))).extBut hs₂.extBut (.inr (not_list_ns hn₁))) hP'
    have e0 : (0 : Int) + ((j : Nat) : Int) * 1 = ((j : Nat) : Int) := by omega
    rw [e0] at hn₂
    refine wpAny_mono (helt j _ _ t _ hlt hn₂ (by simp) ?_ (fun b o h1 h2 h3 e => up b o h1 h2 (hk' b o h1 h2 h3 e)) ?_) (fun y s₃ h₃ => ?_) fun _ _ e => e
    · rw [if_neg (by decide)]; exact hone'
    · obtain ⟨c, e⟩ := hacc₂; exact ⟨_, e⟩
    · obtain ⟨hy, h3, tk3, rfl, hk3⟩ := h₃
      have hacc₃ : h3.PlainList D ys := hacc₂.at fun o e => hk3 _ o e
      have hlen : ys.size ≤ sizeLine := by
        have e1 := Paired.length hP'
        have e2 : ys.toList.length = ys.size := by simp
        have e3 := Paired.length hP
        have e4 : ys₀.toList.length = ys₀.size := by simp
        rw [List.length_append, List.length_map, List.length_range] at e1
        omega
      refine wpAny_list_append_plain hacc₃ (fun h4 hl4 hs4 => ?_) hlen
      refine ⟨n + 1 - (j + 1), by omega, h4, tk3, _, ys.push y, j + 1, rfl, hs4.extBut _ _ (Ne.symm hDI) (hk3 _ _ hI2), hl4, (hn₂.keeps hk3).at' fun o e => hs4.extBut _ o (Ne.symm hDC) e, ?_, ?_, hlt, rfl, fun b o h1 h2 h3 e => hs4.extBut b o h3 (hk3 b o (up b o h1 h2 (hk' b o h1 h2 h3 e)))⟩
      · rw [if_neg (by decide)]; exact hone'
      · rw [List.range_succ, List.map_append, ← List.append_assoc, Array.toList_push]
        exact Paired.snoc (Paired.mono (fun _ _ x => (x.ext hk3).extBut hs4.extBut (.inl rfl)) hP₂) (hy.extBut hs4.extBut (.inl rfl))
  · have hjn : j = n := by omega
    subst hjn
    refine W.done _ _ _ hst' fun h₁ tk₁ hk₁ => ?_
    have e₁ : Heap.ExtBut I1 H h₁ := fun b o hb e => hk₁ b o (fun h => hb (List.mem_singleton.mp h)) e
    exact hR h₁ tk₁ m' ys (hn'.at' fun o e => e₁ _ o hCI e) (hacc'.at fun o e => e₁ _ o hDI e) (Paired.mono (fun _ _ x => x.extBut e₁ (.inr (not_list_range hst'))) hP') fun b o h1 h2 h3 e => e₁ b o h2 (hk' b o h1 h2 h3 e)
end

end Mine

namespace Mine
set_option maxRecDepth 100000
set_option maxHeartbeats 4000000

/-- one name laid at each place -/
def lays (x : Str) (one : List Str) (k : Nat) : List Str := one.take k ++ [x] ++ one.drop k
def laysAll (x : Str) (one : List Str) : List (List Str) := (List.range (one.length + 1)).map (lays x one)

theorem paired_get {α β : Type} {F : α → β → Prop} : ∀ {l₁ : List α} {l₂ : List β}, Paired F l₁ l₂ → ∀ (i : Nat) (b : β), l₂[i]? = some b → ∃ a, l₁[i]? = some a ∧ F a b
  | _, _, .nil, _, _, h => by simp at h
  | _, _, .cons f r, 0, b, h => by simp at h; subst h; exact ⟨_, by simp, f⟩
  | _, _, .cons f r, i + 1, b, h => by simp at h; obtain ⟨a, h1, h2⟩ := paired_get r i b h; exact ⟨a, by simpa using h1, h2⟩

theorem flat_take {os : List (List Str)} {g : List Str → List (List Str)} {i : Nat} {one : List Str} (h : os[i]? = some one) : (os.take (i + 1)).flatMap g = (os.take i).flatMap g ++ g one := by
  rw [List.take_add_one, h, List.flatMap_append]; simp
theorem flat_le (os : List (List Str)) (g : List Str → List (List Str)) (i : Nat) : ((os.take i).flatMap g).length ≤ (os.flatMap g).length := by
  have h : os.flatMap g = (os.take i).flatMap g ++ (os.drop i).flatMap g := by rw [← List.flatMap_append, List.take_append_drop]
  rw [h, List.length_append]; omega

theorem range_small (n : Nat) (hn : n ≤ 1000) : Builtin.Range.small 0 (n : Int) 1 = true ∧ Builtin.Range.rangeSize 0 (n : Int) 1 = (n : Int) := by
  have h : Builtin.Range.rangeSize 0 (n : Int) 1 = (n : Int) := by
    unfold Builtin.Range.rangeSize
    simp
    try omega
  refine ⟨?_, h⟩
  unfold Builtin.Range.small
  rw [h]
  simp [Builtin.Range.rangeFitsLong]
  omega

section
variable {prog : Program} {w : World} {A : Around} {E : Value → Shared → Prop} {R : Result → Shared → Prop} {s : Shared}

/-- what the element's clause gives -/
def EltOk (prog : Program) (w : World) (A : Around) (cenv : Env) (elt : Expr) (x : Str) (D I0 : Addr) (h0 : Heap) : Prop :=
  ∀ one a j s₂ m₂ t E', j ≤ one.length → one.length ≤ 100 → s₂.heap.Ns cenv.locals m₂ → m₂ (Str.ofString "k") = some (.int (j : Nat) t) → m₂ (Str.ofString "one") = some (.ref a) →
    (∃ ws, s₂.heap.IsList a (ws : List Value).toArray ∧ StrsAre ws one) → (∀ b o, b ≠ cenv.locals → b ≠ I0 → b ≠ D → h0.get? b = some o → s₂.heap.get? b = some o) → (∃ o, s₂.heap.get? D = some o) →
    wpAny (model prog w) A (eval elt cenv) (fun y s₃ => LstA D s₃.heap (lays x one j) y ∧ Keeps s₂ s₃) E' s₂
/-- what the inner source gives -/
def RngOk (prog : Program) (w : World) (A : Around) (cenv : Env) (i1 : Expr) (D I0 : Addr) (h0 : Heap) : Prop :=
  ∀ a ws s₂ m₂ E', s₂.heap.Ns cenv.locals m₂ → m₂ (Str.ofString "one") = some (.ref a) → s₂.heap.IsList a (ws : List Value).toArray → ws.length ≤ 100 →
    (∀ b o, b ≠ cenv.locals → b ≠ I0 → b ≠ D → h0.get? b = some o → s₂.heap.get? b = some o) →
    wpAny (model prog w) A (eval i1 cenv) (fun v s₃ => (∃ r t u v', v = .ref r ∧ IsRange s₃.heap r 0 ((ws.length + 1 : Nat) : Int) 1 t u v') ∧ Keeps s₂ s₃) E' s₂

theorem outer_run {elt i0 i1 : Expr} {scope : Scope} {pos p0 px : Pos} {I0 D ax : Addr} {cenv : Env} {items : Array Value} {os : List (List Str)} {m : Str → Option Value} {x : Str}
    (hh : A.handled = none) (hk : cenv.kindOf (Str.ofString "k") = some .local) (h1 : cenv.kindOf (Str.ofString "one") = some .local) (hp : (cenv.scope.kind == .class || (cenv.scope.kind == .module && cenv.locals != cenv.globals)) = false)
    (hs1 : ∀ x, foldedSetIterable i1 cenv x = pure x)
    (hit : s.heap.IsListIter I0 ax 0) (hax : s.heap.IsList ax items) (hacc : s.heap.PlainList D #[]) (hn : s.heap.Ns cenv.locals m) (haD : ax ≠ D)
    (hP : Paired (LstA D s.heap) os items.toList) (hsz : (os.flatMap (laysAll x)).length ≤ sizeLine) (hol : ∀ one ∈ os, one.length ≤ 100)
    (helt : EltOk prog w A cenv elt x D I0 s.heap) (hrng : RngOk prog w A cenv i1 D I0 s.heap)
    (hR : ∀ h' tk m' ys, h'.Ns cenv.locals m' → h'.PlainList D ys → Paired (LstA D h') (os.flatMap (laysAll x)) ys.toList →
      (∀ b o, b ≠ cenv.locals → b ≠ I0 → b ≠ D → s.heap.get? b = some o → h'.get? b = some o) → R (.ok .next) { s with heap := h', toks := tk }) :
    codeAny (model prog w) A (.compLoop (nest elt (.Name (Str.ofString "one") p0) i0 (.Name (Str.ofString "k") px) i1 scope pos) 0 (.ref I0) (.ref D) cenv) R s := by
  have hCI : cenv.locals ≠ I0 := by
    intro e0
    obtain ⟨o', es, ep, ho', hd', _⟩ := hn
    obtain ⟨o2, ho2, _, hd2⟩ := hit
    rw [e0, ho2] at ho'
    have e := Option.some.inj ho'
    rw [← e, hd2] at hd'
    cases hd'
  have hDI : D ≠ I0 := by rintro rfl; exact not_list_iter hit _ hacc.isList
  have hDC : D ≠ cenv.locals := by rintro rfl; exact not_list_ns hn _ hacc.isList
  have haI : ax ≠ I0 := by rintro rfl; exact not_list_iter hit _ hax
  have haC : ax ≠ cenv.locals := by rintro rfl; exact not_list_ns hn _ hax
  have hos : os.length = items.size := by have := Paired.length hP; simpa using this
  refine loop_nest0 (fun k s' => ∃ h' tk m' ys i, s' = { s with heap := h', toks := tk } ∧ h'.IsListIter I0 ax i ∧ h'.IsList ax items ∧ h'.PlainList D ys ∧ h'.Ns cenv.locals m' ∧
    Paired (LstA D h') ((os.take i).flatMap (laysAll x)) ys.toList ∧ Paired (LstA D h') os items.toList ∧ i ≤ items.size ∧ k = items.size + 1 - i ∧
    (∀ b o, b ≠ cenv.locals → b ≠ I0 → b ≠ D → s.heap.get? b = some o → h'.get? b = some o)) ?_ (items.size + 1)
    ⟨s.heap, s.toks, m, #[], 0, rfl, hit, hax, hacc, hn, by simpa using Paired.nil, hP, Nat.zero_le _, rfl, fun _ _ _ _ _ e => e⟩ (by intro _; rfl) hs1
  rintro k s' ⟨H, tk, m', ys, i, rfl, hit', hax', hacc', hn', hY, hO, hi, rfl, hk'⟩
  cases hv : items[i]? with
  | none =>
    have hin : i = items.size := Nat.le_antisymm hi (by simpa using hv)
    refine wpAny_pyNext_list_end hh hit' hax' hv fun h₁ e₁ => ?_
    refine hR h₁ tk m' ys (hn'.at' fun o e => e₁ _ o hCI e) (hacc'.extBut e₁ hDI) ?_ fun b o a1 a2 a3 e => e₁ b o a2 (hk' b o a1 a2 a3 e)
    rw [hin, ← hos, List.take_length] at hY
    exact Paired.mono (fun _ _ x => x.extBut e₁ (.inr (not_list_iter hit'))) hY
  | some v =>
    have hlt : i < items.size := (Array.getElem?_eq_some_iff.mp hv).1
    refine wpAny_pyNext_list_item hit' hax' hv fun h₁ hit₁ hs₁ => ?_
    obtain ⟨one, hone, hL⟩ := paired_get hO i v (by simpa using hv)
    obtain ⟨a, ws, rfl, haDD, hla, hws⟩ := hL
    have hn₁ : h₁.Ns cenv.locals m' := hn'.at' fun o e => hs₁.extBut _ o hCI e
    refine wpAny_assign_Name (wpAny_storeName_local h1 hn₁ (fun h₂ hn₂ hs₂ => ?_) hp)
    have up : ∀ b o, b ≠ cenv.locals → b ≠ I0 → H.get? b = some o → h₂.get? b = some o := fun b o hC hI e => hs₂.extBut b o hC (hs₁.extBut b o hI e)
    have lup : ∀ l y, LstA D H l y → LstA D h₂ l y := fun l y x => (x.extBut hs₁.extBut (.inr (not_list_iter hit'))).extBut hs₂.extBut (.inr (not_list_ns hn₁))
    have haI' : a ≠ I0 := by rintro rfl; exact not_list_iter hit' _ hla
    have haC' : a ≠ cenv.locals := by rintro rfl; exact not_list_ns hn' _ hla
    have hla₂ : h₂.IsList a ws.toArray := hla.at fun o e => up a o haC' haI' e
    have hwl : ws.length = one.length := StrsAre.length hws
    have hone100 : one.length ≤ 100 := hol one (List.mem_of_getElem? hone)
    refine wpAny_mono (hrng a ws _ _ _ hn₂ (by simp) hla₂ (by omega) fun b o a1 a2 a3 e => up b o a1 a2 (hk' b o a1 a2 a3 e)) (fun v s₃ h₃ => ?_) fun _ _ e => e
    obtain ⟨⟨r, t, u, v', rfl, hr⟩, h3, tk3, rfl, k3⟩ := h₃
    obtain ⟨sm1, sm2⟩ := range_small (ws.length + 1) (by omega)
    refine wpAny_pyIter_range hr sm1 ?_
    rw [sm2]
    have hI1 : IsRangeIter (h3.push { cls := .type "range_iterator", data := .fields #[rawInt 0, rawInt ((ws.length + 1 : Nat) : Int), rawInt 1] }) h3.objs.size 0 ((ws.length + 1 : Nat) : Int) 1 := Heap.get?_push_size _ rfl
    have kp : Ext h3 (h3.push { cls := .type "range_iterator", data := .fields #[rawInt 0, rawInt ((ws.length + 1 : Nat) : Int), rawInt 1] }) := fun b o e => Heap.get?_push_of_some _ e
    have old : ∀ b o, h3.get? b = some o → b ≠ h3.objs.size := fun b o e => Nat.ne_of_lt (Heap.lt_size e)
    generalize h3.push { cls := .type "range_iterator", data := .fields #[rawInt 0, rawInt ((ws.length + 1 : Nat) : Int), rawInt 1] } = H4 at hI1 kp ⊢
    generalize h3.objs.size = I1 at hI1 old ⊢
    have e24 : Ext h₂ H4 := Ext.trans k3 kp
    have up4 : ∀ b o, b ≠ cenv.locals → b ≠ I0 → H.get? b = some o → H4.get? b = some o := fun b o a1 a2 e => e24 b o (up b o a1 a2 e)
    have hacc4 : H4.PlainList D ys := hacc'.at fun o e => up4 _ o hDC hDI e
    have hn4 := hn₂.keeps e24
    have hY4 : Paired (LstA D H4) ((os.take i).flatMap (laysAll x)) ys.toList := Paired.mono (fun l y z => (lup l y z).ext e24) hY
    have hone4 : (fun y => if y = Str.ofString "one" then some (Value.ref a) else m' y) (Str.ofString "one") = some (.ref a) := by simp
    have hit4 : H4.IsListIter I0 ax (i + 1) := by obtain ⟨o, e1, e2⟩ := hit₁; exact ⟨o, e24 _ _ (hs₂.extBut _ _ (Ne.symm hCI) e1), e2⟩
    have hax4 : H4.IsList ax items := hax'.at fun o e => up4 _ o haC haI e
    have hO4 : Paired (LstA D H4) os items.toList := Paired.mono (fun l y z => (lup l y z).ext e24) hO
    have hla4 : H4.IsList a ws.toArray := hla₂.at fun o e => e24 _ o e
    have hI1ne : ∀ b o, h₂.get? b = some o → b ≠ I1 := fun b o e => old b o (k3 b o e)
    have hys : ys.size + (ws.length + 1) ≤ sizeLine := by
      have q1 := Paired.length hY
      have q2 := flat_le os (laysAll x) (i + 1)
      rw [flat_take hone, List.length_append] at q2
      have q3 : (laysAll x one).length = one.length + 1 := by simp [laysAll]
      have q4 : ys.toList.length = ys.size := by simp
      omega
    have run : ∀ tkk, codeAny (model prog w) A (.compLoop (nest elt (.Name (Str.ofString "one") p0) i0 (.Name (Str.ofString "k") px) i1 scope pos) 1 (.ref I1) (.ref D) cenv)
        (fun r s₅ => (∃ f, r = .ok f) ∧ ∃ k, k < items.size + 1 - i ∧ ∃ h' tk m' ys i, s₅ = { s with heap := h', toks := tk } ∧ h'.IsListIter I0 ax i ∧ h'.IsList ax items ∧ h'.PlainList D ys ∧ h'.Ns cenv.locals m' ∧
          Paired (LstA D h') ((os.take i).flatMap (laysAll x)) ys.toList ∧ Paired (LstA D h') os items.toList ∧ i ≤ items.size ∧ k = items.size + 1 - i ∧
          (∀ b o, b ≠ cenv.locals → b ≠ I0 → b ≠ D → s.heap.get? b = some o → h'.get? b = some o)) { s with heap := H4, toks := tkk } := by
      intro tkk
      refine inner_run (n := ws.length + 1) (f := lays x one) (a := .ref a) hh hk hp hI1 hacc4 hn4 hone4 hY4 hys ?_ ?_
      · intro j s₂ m₂ t E'' hj g1 g2 g3 g4 g5
        refine helt one a j s₂ m₂ t E'' (by omega) hone100 g1 g2 g3 ⟨ws, ?_, hws⟩ ?_ g5
        · exact hla4.at fun o e => g4 a o haC' (by obtain ⟨o', e', _⟩ := hla₂; exact hI1ne a o' e') haDD e
        · intro b o a1 a2 a3 e
          exact g4 b o a1 (hI1ne b o (up b o a1 a2 (hk' b o a1 a2 a3 e))) a3 (up4 b o a1 a2 (hk' b o a1 a2 a3 e))
      · intro h5 tk5 m5 ys5 f1 f2 f3 f4
        have hmv : ∀ l y, LstA D H4 l y → LstA D h5 l y := by
          rintro l y ⟨T, us, rfl, t1, t2, t3⟩
          exact ⟨T, us, rfl, t1, t2.at fun o e => f4 T o (by rintro rfl; exact not_list_ns hn4 _ t2) (by rintro rfl; exact not_list_range hI1 _ t2) t1 e, t3⟩
        refine ⟨⟨_, rfl⟩, items.size + 1 - (i + 1), by omega, h5, tk5, m5, ys5, i + 1, rfl, ?_, ?_, f2, f1, ?_, Paired.mono hmv hO4, hlt, rfl, ?_⟩
        · obtain ⟨o, e1, e2⟩ := hit4
          refine ⟨o, f4 _ o (Ne.symm hCI) ?_ (Ne.symm hDI) e1, e2⟩
          obtain ⟨o', e1', _⟩ := hit₁
          exact hI1ne I0 o' (hs₂.extBut _ _ (Ne.symm hCI) e1')
        · exact hax4.at fun o e => f4 _ o haC (by obtain ⟨o', e', _⟩ := hax'; exact hI1ne ax o' (up ax o' haC haI e')) haD e
        · rw [flat_take hone]
          have : laysAll x one = (List.range (ws.length + 1)).map (lays x one) := by rw [hwl]; rfl
          rw [this]
          exact f3
        · intro b o a1 a2 a3 e
          exact f4 b o a1 (hI1ne b o (up b o a1 a2 (hk' b o a1 a2 a3 e))) a3 (up4 b o a1 a2 (hk' b o a1 a2 a3 e))
    exact start_nest1 (run _) (wpAny_pyIter_rangeiter hI1 (run _))
end

end Mine

namespace Mine
set_option maxRecDepth 100000
set_option maxHeartbeats 4000000

/-- y is a list of the texts l -/
def LstB (h : Heap) (l : List Str) (y : Value) : Prop := ∃ T ws, y = .ref T ∧ h.IsList T (ws : List Value).toArray ∧ StrsAre ws l
theorem LstB.ext {h h' : Heap} {l : List Str} {y : Value} (x : LstB h l y) (e : Ext h h') : LstB h' l y := by
  obtain ⟨T, ws, rfl, hl, hs⟩ := x
  exact ⟨T, ws, rfl, hl.at fun o q => e _ o q, hs⟩

section
variable {prog : Program} {w : World} {A : Around} {E : Value → Shared → Prop} {env : Env}

theorem assign_nest {s : Shared} {elt i0 i1 : Expr} {y : Str} {py p0 px : Pos} {scope : Scope} {cl : List (Str × Addr)} {pos spos : Pos} {Q : Flow → Shared → Prop} {ax : Addr} {items : Array Value} {os : List (List Str)} {m : Str → Option Value} {x : Str}
    (hh : A.handled = none)
    (hsw : swapsWith (nest elt (.Name (Str.ofString "one") p0) i0 (.Name (Str.ofString "k") px) i1 scope pos) (some (.Name y py)) spos.line env = pure true)
    (hclos : closureFor scope env = pure cl) (hcell : ∀ z ∈ scope.names, z.2 ≠ .cell) (hkind : scope.kind = .function)
    (hnames : ∀ z ∈ scope.names, z.2 = .local → scope.names.lookup z.1 = some .local) (hk : scope.names.lookup (Str.ofString "k") = some .local) (h1 : scope.names.lookup (Str.ofString "one") = some .local)
    (hy : env.kindOf y = some .local) (hp : (env.scope.kind == .class || (env.scope.kind == .module && env.locals != env.globals)) = false)
    (hi0 : ∀ Q' : Value → Shared → Prop, Q' (.ref ax) s → wpAny (model prog w) A (eval i0 env) Q' E s)
    (hax : s.heap.IsList ax items) (hn : s.heap.Ns env.locals m) (hP : Paired (LstB s.heap) os items.toList)
    (hsz : (os.flatMap (laysAll x)).length ≤ sizeLine) (hol : ∀ one ∈ os, one.length ≤ 100)
    (helt : ∀ C D I0 h0, Ext s.heap h0 → s.heap.objs.size ≤ C → s.heap.objs.size ≤ D → s.heap.objs.size ≤ I0 → EltOk prog w A (compEnvC scope cl C env) elt x D I0 h0)
    (hrng : ∀ C D I0 h0, Ext s.heap h0 → s.heap.objs.size ≤ C → s.heap.objs.size ≤ D → s.heap.objs.size ≤ I0 → RngOk prog w A (compEnvC scope cl C env) i1 D I0 h0)
    (hQ : ∀ D h' tk ys, h'.PlainList D ys → Paired (LstB h') (os.flatMap (laysAll x)) ys.toList → h'.Ns env.locals (fun z => if z = y then some (.ref D) else m z) →
      (∀ b o, b ≠ env.locals → s.heap.get? b = some o → h'.get? b = some o) → s.heap.get? D = none → Q .next { s with heap := h', toks := tk })
    (hs : ∀ x, foldedSetIterable i0 env x = pure x) (hs1 : ∀ C x, foldedSetIterable i1 (compEnvC scope cl C env) x = pure x) :
    wpAny (model prog w) A (exec (.Assign [.Name y py] (nest elt (.Name (Str.ofString "one") p0) i0 (.Name (Str.ofString "k") px) i1 scope pos) spos) env) Q E s := by
  rw [exec_Assign_Name_used _ _ _ _ hsw]
  refine wpAny_bind (wpAny_standAt (wpAny_bind ?_))
  show wpAny _ A (do let _ ← comprehension (nest elt (.Name (Str.ofString "one") p0) i0 (.Name (Str.ofString "k") px) i1 scope pos) scope env _ (newList []) false (eval i0 env) (some (assign (.Name y py) env))) _ _ s
  refine wpAny_bind (wpAny_mono (wpAny_comprehension_free (use := some (assign (.Name y py) env)) (Q := fun _ s' => Q .next s') rfl hs hclos hkind hnames
    (hi0 _ (wpAny_pyIter_list hax ?_))) (fun _ s' hq => wpAny_pure (wpAny_pure hq)) fun _ _ e => e)
  refine wpAny_newObj_type (wpAny_newFunctionEnv hcell (by intro y hy; simp at hy) (fun h₁ hns₁ hsb₁ => ?_) hkind)
  dsimp only at hns₁ hsb₁ ⊢
  have hI := (Heap.get?_push_size (h := s.heap) (o := { cls := .type "list_iterator", data := .fields #[.ref ax, .int 0 0] }) rfl)
  have e1 : Ext s.heap (s.heap.push { cls := .type "list_iterator", data := .fields #[.ref ax, .int 0 0] }) := fun b o e => Heap.get?_push_of_some _ e
  have z1 : (s.heap.push { cls := .type "list_iterator", data := .fields #[.ref ax, .int 0 0] }).objs.size = s.heap.objs.size + 1 := Heap.size_push ..
  generalize s.heap.push { cls := .type "list_iterator", data := .fields #[.ref ax, .int 0 0] } = H1 at hI e1 z1 hns₁ hsb₁ ⊢
  have hD := (Heap.get?_push_size (h := H1) (o := { cls := .type "list", dict := none, data := .seq ([] : List Value).toArray }) rfl)
  have e2 : Ext H1 (H1.push { cls := .type "list", dict := none, data := .seq ([] : List Value).toArray }) := fun b o e => Heap.get?_push_of_some _ e
  have z2 : (H1.push { cls := .type "list", dict := none, data := .seq ([] : List Value).toArray }).objs.size = H1.objs.size + 1 := Heap.size_push ..
  generalize H1.push { cls := .type "list", dict := none, data := .seq ([] : List Value).toArray } = H2 at hD e2 z2 hns₁ hsb₁ ⊢
  have e3 : Ext H2 h₁ := fun b o e => hsb₁.extBut b o (Nat.ne_of_lt (Heap.lt_size e)) (Heap.get?_push_of_some _ e)
  have e03 : Ext s.heap h₁ := Ext.trans e1 (Ext.trans e2 e3)
  have lt0 : ∀ b o, s.heap.get? b = some o → @LT.lt Nat _ b s.heap.objs.size := fun b o e => Heap.lt_size e
  have hit : h₁.IsListIter s.heap.objs.size ax 0 := ⟨_, e3 _ _ (e2 _ _ hI), rfl, rfl⟩
  have hax1 : h₁.IsList ax items := hax.at fun o e => e03 _ o e
  have hacc : h₁.PlainList H1.objs.size #[] := ⟨0, e3 _ _ hD⟩
  have haxlt : @LT.lt Nat _ ax s.heap.objs.size := by obtain ⟨o, ho, _⟩ := hax; exact lt0 _ _ ho
  have hLlt : @LT.lt Nat _ env.locals s.heap.objs.size := hn.lt
  have hP1 : Paired (LstA H1.objs.size h₁) os items.toList := Paired.mono (fun l v x => by
    obtain ⟨T, ws, rfl, t1, t2⟩ := x
    have : @LT.lt Nat _ T s.heap.objs.size := by obtain ⟨o, ho, _⟩ := t1; exact lt0 _ _ ho
    exact ⟨T, ws, rfl, Nat.ne_of_lt (show @LT.lt Nat _ T H1.objs.size by omega), t1.at fun o e => e03 _ o e, t2⟩) hP
  have fin : ∀ tk0, codeAny (model prog w) A (.compLoop (nest elt (.Name (Str.ofString "one") p0) i0 (.Name (Str.ofString "k") px) i1 scope pos) 0 (.ref s.heap.objs.size) (.ref H1.objs.size) (compEnvC scope cl H2.objs.size env))
      (compPost (model prog w) A E (some (assign (.Name y py) env)) (fun _ s' => Q .next s') (.ref H1.objs.size) H2.objs.size) { s with heap := h₁, toks := tk0 } := by
    intro tk0
    refine outer_run (s := { s with heap := h₁, toks := tk0 }) (cenv := compEnvC scope cl H2.objs.size env) (x := x) hh (lookup_relabel_local hk) (lookup_relabel_local h1) (by simp [compEnvC, relabel, hkind]) (hs1 _) hit hax1 hacc hns₁ (Nat.ne_of_lt (show @LT.lt Nat _ ax H1.objs.size by omega)) hP1 hsz hol
      (helt _ _ _ _ e03 (by omega) (by omega) (Nat.le_refl _)) (hrng _ _ _ _ e03 (by omega) (by omega) (Nat.le_refl _)) ?_
    intro h' tk m' ys f1 f2 f3 f4
    have up : ∀ b o, s.heap.get? b = some o → h'.get? b = some o := fun b o e => by
      have hb := lt0 b o e
      exact f4 b o (Nat.ne_of_lt (show @LT.lt Nat _ b H2.objs.size by omega)) (Nat.ne_of_lt hb) (Nat.ne_of_lt (show @LT.lt Nat _ b H1.objs.size by omega)) (e03 b o e)
    show wpAny _ A (assign (.Name y py) env (.ref H1.objs.size)) _ _ _
    refine wpAny_assign_Name (wpAny_storeName_local hy (hn.at' fun o e => up _ o e) (fun h₂ hn₂ hs₂ => ?_) hp)
    refine ⟨m', f1.sameBut hs₂ (Nat.ne_of_gt (show @LT.lt Nat _ env.locals H2.objs.size by omega)), fun h₃ hs₃ => ?_⟩
    refine hQ H1.objs.size h₃ _ ys ?_ ?_ (hn₂.sameBut hs₃ (Nat.ne_of_lt (show @LT.lt Nat _ env.locals H2.objs.size by omega))) ?_ ?_
    · exact (f2.extBut hs₂.extBut (Nat.ne_of_gt (show @LT.lt Nat _ env.locals H1.objs.size by omega))).extBut hs₃.extBut (Nat.ne_of_lt (show @LT.lt Nat _ H1.objs.size H2.objs.size by omega))
    · refine Paired.mono (fun l v x => ?_) f3
      obtain ⟨T, ws, rfl, t0, t1, t2⟩ := x
      have a1 : T ≠ env.locals := by
        rintro rfl
        exact not_list_ns (hn.at' fun o e => up _ o e) _ t1
      have a2 : T ≠ H2.objs.size := by rintro rfl; exact not_list_ns f1 _ t1
      exact ⟨T, ws, rfl, (t1.extBut hs₂.extBut a1).extBut hs₃.extBut a2, t2⟩
    · intro b o hb e
      have hb' := lt0 b o e
      exact hs₃.extBut b o (Nat.ne_of_lt (show @LT.lt Nat _ b H2.objs.size by omega)) (hs₂.extBut b o hb (up b o e))
    · cases e : s.heap.get? H1.objs.size with
      | none => rfl
      | some o => have := lt0 _ _ e; omega
  refine codeAny_compStart_list (fin _) ?_
  exact wpAny_pyIter_listiter hit (fin _)
end

end Mine

namespace Mine
set_option maxRecDepth 100000
set_option maxHeartbeats 4000000

section
variable {prog : Program} {w : World} {A : Around} {E : Value → Shared → Prop} {s : Shared} {Q : Value → Shared → Prop}

theorem slice_tail {value slice : Expr} {l : Addr} {items : Array Value} {vl vu vk : Value} {lo hi st : Option Int} {ops : List Value} (hl : s.heap.IsList l items) (pl : IsPart vl lo) (pu : IsPart vu hi) (pk : IsPart vk st) (h0 : st ≠ some 0)
    (hs : subscripted slice false (.ref l) (.ref s.heap.objs.size) = operate ops (getItem (.ref l) (.ref s.heap.objs.size)))
    (ht : ∀ r, letTemporaryGo value (.ref l) r = pure ()) (hsz : items.size ≤ sizeLine)
    (h : ∀ T h', Ext s.heap h' → s.heap.get? T = none → h'.PlainList T (slicePick items lo hi st) → Q (.ref T) { s with heap := h' }) :
    wpAny (model prog w) A (subscriptTail value slice (.ref l) (.ref s.heap.objs.size)) Q E { s with heap := s.heap.push { cls := .type "slice", data := .fields #[vl, vu, vk] } } := by
  refine subscriptTail_ops (Heap.IsList.typeIs (s := { s with heap := s.heap.push { cls := .type "slice", data := .fields #[vl, vu, vk] } }) (hl.push _)) list_getitem_lookup
    (wpAny_getItem_list_slice (hl.push _) (Heap.IsSliceOf.new ..) pl pu pk h0 ?_ hsz) hs ht
  refine h _ _ (fun b o e => Heap.get?_push_of_some _ (Heap.get?_push_of_some _ e)) ?_ ⟨0, Heap.get?_push_size _ rfl⟩
  exact Heap.get?_none_of_le (by show s.heap.objs.size ≤ (s.heap.push _).objs.size; rw [Heap.size_push]; exact Nat.le_succ _)

theorem add_pure {l b : Addr} {vs ws : List Value} (hl : s.heap.IsList l vs.toArray) (hb : s.heap.IsList b ws.toArray) (hsz : vs.length + ws.length ≤ sizeLine)
    (h : ∀ T h', Ext s.heap h' → s.heap.get? T = none → h'.PlainList T (vs ++ ws).toArray → Q (.ref T) { s with heap := h' }) :
    wpAny (model prog w) A (binaryOp .Add (.ref l) (.ref b)) Q E s := by
  obtain ⟨⟨cls, dd, data, sl⟩, ho, hc, n, hd⟩ := id hl
  obtain ⟨⟨cls2, dd2, data2, sl2⟩, ho2, hc2, n2, hd2⟩ := id hb
  simp only at hc hd hc2 hd2
  subst hc hd hc2 hd2
  have e : vs.toArray ++ ws.toArray = (vs ++ ws).toArray := by simp
  refine concat_meets ⟨_, ho, rfl⟩ ⟨_, ho2, rfl⟩ noFill_list_add seq_list_add PySem.F.slot_list_add PySem.F.entry_list_add (PySem.F.args_list_add_2 _ _) (list_addW l b vs.toArray ws.toArray n n2 dd dd2 sl sl2 (by simpa using hsz)) ⟨ho, ho2, ?_⟩
  rw [e]
  exact h _ _ (fun b o e => Heap.get?_push_of_some _ e) (Heap.get?_none_of_le (Nat.le_refl _)) ⟨0, Heap.get?_push_size _ rfl⟩

theorem newList_pure {vs : List Value} (hsz : vs.length ≤ sizeLine)
    (h : ∀ T h', Ext s.heap h' → s.heap.get? T = none → h'.PlainList T vs.toArray → Q (.ref T) { s with heap := h' }) : wpAny (model prog w) A (newList vs) Q E s :=
  wpAny_newObj_type (h _ _ (fun b o e => Heap.get?_push_of_some _ e) (Heap.get?_none_of_le (Nat.le_refl _)) ⟨0, Heap.get?_push_size _ rfl⟩) (by show vs.toArray.size ≤ sizeLine; rw [List.size_toArray]; exact hsz)
end

section
variable {w : World} {mean : ExcName → Option Value} {mg mb : Str → Option Value} {s : Shared} {E : Value → Shared → Prop} {env : Env} {Q : Value → Shared → Prop} {A : Around} {M : Model}
/-- a built-in's name -/
theorem nm_blt {x : Str} {pos : Pos} {v : Value} (X : (hd.heap_39 w.params).In s.heap) (T : Top hd.view_39 (looseW hd.view_39 []) mean mg mb s.heap)
    (hK : nsIn (hd.heap_39 w.params) mainGlobals x = some none) (hb : bootBuiltins x = some v) (hne : x ≠ Str.ofString "__name__")
    (hg : env.globals = mainGlobals) (hbn : env.builtins = builtinsNs) (hk : env.scope.kind = .function) (hx : env.kindOf x = some .globalImplicit) (hd : (x == ("__debug__" : Str)) = false)
    (h : Q v s) : wpAny M A (eval (.Name x pos) env) Q E s :=
  Name_function_global hk hx (loadGlobal_builtin (mb := mb) (env := env) (by rw [hg]; exact T.g) (mg_none_of X T.g hK) (by rw [hbn]; exact T.b) (by rw [T.builtins x hne]; exact hb) h) hd
end

end Mine

namespace Mine
theorem quiet_C8 : True := by w_top off; exact trivial
set_option maxRecDepth 100000
set_option maxHeartbeats 8000000
local macro_rules | `(tactic| walk_at "mine enteredC") => `(tactic| ((case k1 => exact ⟨by assumption, by assumption, by assumption⟩); (case k3 => k_is); (case k4 => k_is); (case k5 => omega); (case k6 => exact BindsTo.of_eq rfl); (case k7 => exact rfl); (case k8 => decide); (case k9 => exact rfl); (case k10 => exact rfl); (case k11 => exact rfl); k_whole))
local macro_rules | `(tactic| walk_at "exec For") => `(tactic| (refine Stop.out ?_))
local macro_rules | `(tactic| walk_at "exec For Name Name cons nil") => `(tactic| (refine Stop.out ?_))

/-- all orders of the names -/
def ordersOf (ns : List Str) : List (List Str) := ns.foldl (fun os x => os.flatMap (laysAll x)) [[]]
theorem orders_take {ns : List Str} {i : Nat} {x : Str} (h : ns[i]? = some x) : ordersOf (ns.take (i + 1)) = (ordersOf (ns.take i)).flatMap (laysAll x) := by
  rw [List.take_add_one, h]; unfold ordersOf; rw [Option.toList_some, List.foldl_append]; rfl
theorem lays_length (x : Str) (one : List Str) (k : Nat) : (lays x one k).length = one.length + 1 := by
  unfold lays
  simp only [List.length_append, List.length_take, List.length_drop, List.length_cons, List.length_nil]
  omega
theorem laysAll_mem {x : Str} {one l : List Str} (h : l ∈ laysAll x one) : l.length = one.length + 1 := by
  unfold laysAll at h
  obtain ⟨k, _, rfl⟩ := List.mem_map.mp h
  exact lays_length x one k
theorem orders_fold_len : ∀ (ns : List Str) (os : List (List Str)) (c : Nat), (∀ l ∈ os, l.length = c) → ∀ l ∈ ns.foldl (fun os x => os.flatMap (laysAll x)) os, l.length = c + ns.length
  | [], os, c, h, l, hl => h l hl
  | x :: r, os, c, h, l, hl => by
    have := orders_fold_len r (os.flatMap (laysAll x)) (c + 1) (fun l hl => by
      obtain ⟨one, h1, h2⟩ := List.mem_flatMap.mp hl
      rw [laysAll_mem h2, h one h1]) l hl
    rw [List.length_cons]; omega
theorem orders_len (ns : List Str) : ∀ l ∈ ordersOf ns, l.length = ns.length := fun l hl => by
  have := orders_fold_len ns [[]] 0 (by simp) l hl
  omega
theorem flat_bound (x : Str) (c : Nat) : ∀ (os : List (List Str)), (∀ l ∈ os, l.length ≤ c) → (os.flatMap (laysAll x)).length ≤ os.length * (c + 1)
  | [], _ => by simp
  | o :: r, h => by
    have h1 := flat_bound x c r fun l hl => h l (.tail _ hl)
    have h2 := h o (.head _)
    have h3 : (laysAll x o).length = o.length + 1 := by simp [laysAll]
    rw [List.flatMap_cons, List.length_append, List.length_cons, Nat.add_mul]
    omega
theorem orders_fold_count : ∀ (ns : List Str) (os : List (List Str)) (c : Nat), (∀ l ∈ os, l.length = c) → c + ns.length ≤ 6 → (ns.foldl (fun os x => os.flatMap (laysAll x)) os).length ≤ os.length * 7 ^ ns.length
  | [], os, _, _, _ => by simp
  | x :: r, os, c, h, hc => by
    have h1 := orders_fold_count r (os.flatMap (laysAll x)) (c + 1) (fun l hl => by
      obtain ⟨one, h1, h2⟩ := List.mem_flatMap.mp hl
      rw [laysAll_mem h2, h one h1]) (by rw [List.length_cons] at hc; omega)
    have h2 := flat_bound x 6 os fun l hl => by rw [h l hl]; rw [List.length_cons] at hc; omega
    refine Nat.le_trans h1 ?_
    rw [List.length_cons, Nat.pow_succ, Nat.mul_comm (7 ^ r.length) 7, ← Nat.mul_assoc]
    exact Nat.mul_le_mul_right _ h2
theorem orders_count {ns : List Str} (h : ns.length ≤ 6) : (ordersOf ns).length ≤ 7 ^ 6 := by
  have h1 := orders_fold_count ns [[]] 0 (by simp) (by omega)
  refine Nat.le_trans h1 ?_
  rw [List.length_singleton, Nat.one_mul]
  exact Nat.pow_le_pow_right (by omega) h

theorem orders_c (w : World) (mean : ExcName → Option Value) (mg mb : Str → Option Value) (l : Addr) (vs : List Value) (ns : List Str) (hs : StrsAre vs ns)
    (hlen : ns.length ≤ 6) :
    Ctr w mean mg mb 33 8 200 (fun h => h.IsList l vs.toArray) [.ref l] (fun h v => ∃ r ys, v = .ref r ∧ h.IsList r ys ∧ Paired (LstB h) (ordersOf ns) ys.toList) := by
  unfold Ctr
  k_fill
  intro dp un gd outer base s Q E B X T hd hu hl hret
  k_dflt (refine' enterC (binds := [(Str.ofString "names", .ref l)]) ?k1 ?k3 ?k4 ?k5 ?k6 ?k7 ?k8 ?k9 ?k10 ?k11 ?_; walk_at "mine enteredC")
  intro L' h₁ tk cells hB F N Y
  (try dsimp only)
  obtain ⟨o1, hE, d1⟩ := CellsAre.one Y
  subst hE
  clear Y
  have d1' : o1.data = .cell none := d1
  clear d1
  k_steps
  rename_i a1 _ l1 a2 _ l2 h3 F3 N3
  refine Stop.mk (wpAny_For ?_ (by intro _; rfl))
  refine nm_loc F3.ns rfl rfl rfl rfl ?_
  have hLab := F3.above
  have k0 := F3.keep
  refine loop_heap (items := vs.toArray) (fun i h => ∃ m r ys c, h.Ns L' m ∧ m (Str.ofString "names") = some (.ref l) ∧ m (Str.ofString "orders") = some (.ref r) ∧ h.IsList r ys ∧ Paired (LstB h) (ordersOf (ns.take i)) ys.toList ∧ h.IsCell (L' + 1) c ∧ Ext s.heap h) rfl ?hj ?hl ?stable ?turn ?done
  case hj =>
    refine ⟨_, a2, _, none, F3.ns, rfl, rfl, News.isList N3 (.head _), ?_, ⟨o1, News.get (a := L' + 1) (o := o1) N3 (by k_mem), d1'⟩, F3.keep⟩
    exact .cons ⟨a1, [], rfl, News.isList N3 (.tail _ (.head _)), .nil⟩ .nil
  case hl => rintro i h ⟨m, r, ys, c, _, _, _, _, _, _, e⟩; exact hl.at fun o q => e _ o q
  case stable =>
    rintro i h h' I ⟨m, r, ys, c, e1, e2, e3, e4, e5, e6, e7⟩ hI hor hx
    have hne : ∀ b o, h.get? b = some o → (∀ fs, o.data ≠ .fields fs) → b ≠ I := by
      rintro b o hb hd rfl
      rcases hor with h0 | ⟨k, o', ho', _, hd'⟩
      · rw [h0] at hb; cases hb
      · rw [hb] at ho'; cases ho'; exact hd _ hd'
    have hlst : ∀ b ws, h.IsList b ws → h'.IsList b ws := fun b ws q => by
      obtain ⟨o, ho, hc, n, hd⟩ := q
      exact ⟨o, hx _ _ (hne b o ho (by rw [hd]; intro _ e; cases e)) ho, hc, n, hd⟩
    refine ⟨m, r, ys, c, ?_, e2, e3, hlst _ _ e4, Paired.mono (fun _ _ ⟨T, ws, q1, q2, q3⟩ => ⟨T, ws, q1, hlst _ _ q2, q3⟩) e5, ?_, ?_⟩
    · obtain ⟨o, es, ep, ho, hd, r'⟩ := e1
      exact ⟨o, es, ep, hx _ _ (hne _ o ho (by rw [hd]; intro _ e; cases e)) ho, hd, r'⟩
    · obtain ⟨o, ho, hd⟩ := e6
      exact ⟨o, hx _ _ (hne _ o ho (by rw [hd]; intro _ e; cases e)) ho, hd⟩
    · intro b o e
      refine hx b o ?_ (e7 b o e)
      rintro rfl
      have := k0 _ _ e
      rw [hI] at this
      cases this
  case done =>
    rintro h tk ⟨m, r, ys, c, e1, e2, e3, e4, e5, e6, e7⟩
    have F : Fr s.heap L' h m := ⟨e1, e7, hLab⟩
    rw [map2 e3 e2] at F
    have N : News s.heap L' h [] := News.nil
    clear F3 N3
    dsimp only
    k_steps
    dsimp only
    have h1 : vs.toArray.size = ns.length := by rw [List.size_toArray]; exact StrsAre.length hs
    rw [h1, List.take_length] at e5
    exact hret _ _ _ e7 ⟨r, ys, rfl, e4, e5⟩
  case turn =>
    rintro I i v h tk E' hv ⟨m, r, ys, c, e1, e2, e3, e4, e5, e6, e7⟩ hit hI
    obtain ⟨x, tx, rfl, hx⟩ := StrsAre.item hs i v (by simpa using hv)
    clear F3 N3
    refine wpAny_assign_Name (wpAny_storeName_cell (c := L' + 1) rfl rfl rfl e6 (fun h2 c2 sb => ?_))
    refine wpAny_execs_cons ?_
    have hne : ∀ b o, h.get? b = some o → (∀ v, o.data ≠ .cell v) → b ≠ L' + 1 := by
      rintro b o hb hd rfl
      obtain ⟨o', ho', hd'⟩ := e6
      rw [hb] at ho'; cases ho'; exact hd _ hd'
    have hlst : ∀ b ws, h.IsList b ws → h2.IsList b ws := fun b ws q => by
      obtain ⟨o, ho, hc, n, hd⟩ := q
      exact ⟨o, sb.extBut _ _ (hne b o ho (by rw [hd]; intro _ e; cases e)) ho, hc, n, hd⟩
    have e1' : h2.Ns L' m := by
      obtain ⟨o, es, ep, ho, hd, r'⟩ := e1
      exact ⟨o, es, ep, sb.extBut _ _ (hne _ o ho (by rw [hd]; intro _ e; cases e)) ho, hd, r'⟩
    have e7' : Ext s.heap h2 := fun b o e => sb.extBut b o (Nat.ne_of_lt (Nat.lt_succ_of_lt (Nat.lt_of_lt_of_le (Heap.lt_size e) hLab))) (e7 b o e)
    have hit2 : h2.IsListIter I l (i + 1) := by
      obtain ⟨o, ho, hc, hd⟩ := hit
      exact ⟨o, sb.extBut _ _ (hne _ o ho (by rw [hd]; intro _ e; cases e)) ho, hc, hd⟩
    have e5' : Paired (LstB h2) (ordersOf (ns.take i)) ys.toList := Paired.mono (fun _ _ ⟨T, ws, q1, q2, q3⟩ => ⟨T, ws, q1, hlst _ _ q2, q3⟩) e5
    have hlen2 : (ns.take i).length ≤ 6 := by rw [List.length_take]; omega
    refine' assign_nest (x := x) (ax := r) (items := ys) (os := ordersOf (ns.take i)) (m := m) rfl ?hsw ?hclos ?hcell ?hkind ?hnames ?hk ?h1 ?hy ?hp ?hi0 (hlst _ _ e4) e1' e5' ?hsz ?hol ?helt ?hrng ?hQ ?hs ?hs1
    case hsw => with_unfolding_all rfl
    case hclos => with_unfolding_all rfl
    case hcell => decide
    case hkind => with_unfolding_all rfl
    case hnames => decide
    case hk => with_unfolding_all rfl
    case h1 => with_unfolding_all rfl
    case hy => with_unfolding_all rfl
    case hp => with_unfolding_all rfl
    case hs => intro _; with_unfolding_all rfl
    case hs1 => intro _ _; with_unfolding_all rfl
    case hi0 => intro Q' q; exact nm_loc e1' e3 rfl rfl rfl q
    case hsz =>
      have q1 := flat_bound x 6 (ordersOf (ns.take i)) fun l hl => by rw [orders_len _ l hl]; exact hlen2
      have q2 := orders_count hlen2
      have q3 := Nat.mul_le_mul_right 7 q2
      rw [sizeLine_eq]
      omega
    case hol => intro one h1; rw [orders_len _ one h1]; omega
    case helt =>
      intro C D I0 h0 x0 zC zD zI
      intro one a j s₂ m₂ t E'' hj h100 hn hk h1 hws keep hD
      obtain ⟨ws, hlw, hsw⟩ := hws
      have x2 : Ext h2 s₂.heap := fun b o e => by
        have hb : @LT.lt Nat _ b h2.objs.size := Heap.lt_size e
        exact keep b o (Nat.ne_of_lt (Nat.lt_of_lt_of_le hb zC)) (Nat.ne_of_lt (Nat.lt_of_lt_of_le hb zI)) (Nat.ne_of_lt (Nat.lt_of_lt_of_le hb zD)) (x0 b o e)
      have hwl := StrsAre.length hsw
      refine wpAny_BinOp (wpAny_BinOp (Subscript_ (nm_loc hn h1 rfl rfl rfl (wpAny_Slice (evalPart_none_step (evalPart_some_step (nm_loc hn hk rfl rfl rfl (evalPart_none_step ?_))))))))
      refine slice_tail hlw .none (.int _ _) .none (by decide) (by with_unfolding_all rfl) (by intro _; with_unfolding_all rfl) (by rw [sizeLine_eq, List.size_toArray]; omega) ?_
      intro T1 h3 y3 f3 g3
      rw [slicePick_upto'] at g3
      refine List_ (args_cons (nm_cell (c := L' + 1) rfl ((c2.keeps x2).keeps y3) rfl rfl rfl (args_nil ?_)))
      refine newList_pure (by rw [sizeLine_eq]; simp) ?_
      intro T2 h4 y4 f4 g4
      refine add_pure (vs := ws.take j) (ws := [.str x tx]) (g3.isList.at fun o e => y4 _ o e) g4.isList (by rw [sizeLine_eq]; simp only [List.length_take, List.length_cons, List.length_nil]; omega) ?_
      intro T3 h5 y5 f5 g5
      have y25 : Ext s₂.heap h5 := Ext.trans y3 (Ext.trans y4 y5)
      refine Subscript_ (nm_loc (hn.keeps y25) h1 rfl rfl rfl (wpAny_Slice (evalPart_some_step (nm_loc (hn.keeps y25) hk rfl rfl rfl (evalPart_none_step (evalPart_none_step ?_))))))
      refine slice_tail (hlw.at fun o e => y25 _ o e) (.int _ _) .none .none (by decide) (by with_unfolding_all rfl) (by intro _; with_unfolding_all rfl) (by rw [sizeLine_eq, List.size_toArray]; omega) ?_
      intro T6 h6 y6 f6 g6
      rw [slicePick_from'] at g6
      refine add_pure (vs := ws.take j ++ [.str x tx]) (ws := ws.drop j) (g5.isList.at fun o e => y6 _ o e) g6.isList (by rw [sizeLine_eq]; simp only [List.length_append, List.length_take, List.length_drop, List.length_cons, List.length_nil]; omega) ?_
      intro T7 h7 y7 f7 g7
      have y27 : Ext s₂.heap h7 := Ext.trans y25 (Ext.trans y6 y7)
      refine ⟨⟨T7, _, rfl, ?_, g7.isList, ?_⟩, _, _, rfl, y27⟩
      · rintro rfl
        obtain ⟨o, ho⟩ := hD
        have := Ext.trans y25 y6 _ _ ho
        rw [f7] at this
        cases this
      · exact StrsAre.append' (StrsAre.append' (StrsAre.take' hsw j) (.cons x tx .nil)) (StrsAre.drop' hsw j)
    case hrng =>
      intro C D I0 h0 x0 zC zD zI
      intro a ws s₂ m₂ E'' hn h1 hlw h100 keep
      have x2 : Ext h2 s₂.heap := fun b o e => by
        have hb : @LT.lt Nat _ b h2.objs.size := Heap.lt_size e
        exact keep b o (Nat.ne_of_lt (Nat.lt_of_lt_of_le hb zC)) (Nat.ne_of_lt (Nat.lt_of_lt_of_le hb zI)) (Nat.ne_of_lt (Nat.lt_of_lt_of_le hb zD)) (x0 b o e)
      have G2 := hB _ _ (⟨e1'.keeps x2, Ext.trans e7' x2, hLab⟩ : Fr s.heap L' s₂.heap m)
      have X2 := G2.X
      have T2 := G2.T
      refine Call_ ?_
      k_dflt (refine' nm_blt ?a1 ?a2 ?a3 ?a4 ?a5 ?a6 ?a7 ?a8 ?a9 ?a10 ?_; (case a1 => exact X2); (case a2 => exact T2); (case a3 => k_is); (case a4 => exact boot_range); (case a5 => decide); (case a6 => exact rfl); (case a7 => exact rfl); (case a8 => exact rfl); (case a9 => exact rfl); (case a10 => exact rfl))
      refine PyProof.Rows.callWith_type1 (args_cons ?_)
      refine wpAny_BinOp (Call_ ?_)
      k_dflt (refine' nm_blt ?a1 ?a2 ?a3 ?a4 ?a5 ?a6 ?a7 ?a8 ?a9 ?a10 ?_; (case a1 => exact X2); (case a2 => exact T2); (case a3 => k_is); (case a4 => exact boot_len); (case a5 => decide); (case a6 => exact rfl); (case a7 => exact rfl); (case a8 => exact rfl); (case a9 => exact rfl); (case a10 => exact rfl))
      refine callWith_builtin1 (args_cons (nm_loc hn h1 rfl rfl rfl (args_nil (call_len_list hlw ?_ ?_))))
      · simp only [List.size_toArray]; omega
      · refine wpAny_Constant_int ?_
        refine PyProof.Rows.add_int ?_
        refine args_nil ?_
        have q : ((ws.toArray.size : Nat) : Int) + 1 = ((ws.length + 1 : Nat) : Int) := by simp
        rw [q]
        refine call_range_1 ?_
        exact ⟨⟨_, _, _, _, rfl, Heap.get?_push_size _ rfl⟩, _, _, rfl, fun b o e => Heap.get?_push_of_some _ e⟩
    case hQ =>
      intro D h' tk' ys' f1 f2 f3 f4 f5
      refine wpAny_execs_nil ?_
      refine ⟨h', tk', rfl, ⟨_, D, ys', some (.str x tx), f3, ?_, ?_, f1.isList, ?_, ?_, ?_⟩, ?_⟩
      · rw [if_neg (by decide)]; exact e2
      · rw [if_pos rfl]
      · rw [orders_take hx]; exact f2
      · obtain ⟨o, ho, hd⟩ := c2
        exact ⟨o, f4 _ o (Nat.ne_of_gt (Nat.lt_succ_self _)) ho, hd⟩
      · exact fun b o e => f4 b o (Nat.ne_of_lt (Nat.lt_of_lt_of_le (Heap.lt_size e) hLab)) (e7' b o e)
      · obtain ⟨o, ho, hc, hd⟩ := hit2
        refine ⟨o, f4 _ o ?_ ho, hc, hd⟩
        rintro rfl
        obtain ⟨o', es, ep, ho', hd', _⟩ := e1'
        rw [ho] at ho'; cases ho'; rw [hd] at hd'; cases hd'
end Mine

namespace Mine
set_option maxRecDepth 100000
set_option maxHeartbeats 4000000

/-- an exception's record -/
def ExAt (h : Heap) (e : Addr) (X : String) (a0 tb cx cz sp nt : Value) : Prop := ∃ o, h.get? e = some o ∧ o.cls = .type X ∧ o.data = .fields #[a0, tb, cx, cz, sp, nt]
/-- a traceback's entry, and the frame in which it flies -/
def TbAt (h : Heap) (T : Addr) (fl : Value) : Prop := ∃ o ts, h.get? T = some o ∧ o.data = .fields ts ∧ ts[3]? = some fl
/-- all but S stand; the frames' own records up to their slots -/
def Chg (S fr : List Addr) (h h' : Heap) : Prop :=
  (∀ b o, b ∉ S → b ∉ fr → h.get? b = some o → h'.get? b = some o) ∧ (∀ b o, b ∉ S → h.get? b = some o → ∃ sl, h'.get? b = some { o with slots := sl })

theorem Chg.refl (S fr : List Addr) (h : Heap) : Chg S fr h h := ⟨fun _ _ _ _ e => e, fun _ o _ e => ⟨o.slots, e⟩⟩
theorem Chg.mono {S S' fr : List Addr} {h h' : Heap} (x : Chg S fr h h') (hs : ∀ b ∈ S, b ∈ S') : Chg S' fr h h' :=
  ⟨fun b o h1 h2 e => x.1 b o (fun q => h1 (hs b q)) h2 e, fun b o h1 e => x.2 b o (fun q => h1 (hs b q)) e⟩
theorem Chg.trans {S fr : List Addr} {h h' h'' : Heap} (x : Chg S fr h h') (y : Chg S fr h' h'') : Chg S fr h h'' :=
  ⟨fun b o h1 h2 e => y.1 b o h1 h2 (x.1 b o h1 h2 e), fun b o h1 e => by
    obtain ⟨sl, e'⟩ := x.2 b o h1 e
    obtain ⟨sl', e''⟩ := y.2 b _ h1 e'
    exact ⟨sl', e''⟩⟩
theorem Chg.of_ext {fr : List Addr} {h h' : Heap} (S : List Addr) (x : Ext h h') : Chg S fr h h' := ⟨fun b o _ _ e => x b o e, fun b o _ e => ⟨o.slots, x b o e⟩⟩
theorem Chg.of_update {T : Addr} {fr : List Addr} {h : Heap} (f : Obj → Obj) : Chg [T] fr h (h.update T f) :=
  ⟨fun b o h1 _ e => (Heap.get?_update_other _ _ (fun q => h1 (List.mem_singleton.mpr q.symm))).trans e, fun b o h1 e => ⟨o.slots, (Heap.get?_update_other _ _ (fun q => h1 (List.mem_singleton.mpr q.symm))).trans e⟩⟩

theorem ExAt.chg {S fr : List Addr} {h h' : Heap} {e : Addr} {X : String} {a0 tb cx cz sp nt : Value} (x : ExAt h e X a0 tb cx cz sp nt) (c : Chg S fr h h') (he : e ∉ S) : ExAt h' e X a0 tb cx cz sp nt := by
  obtain ⟨o, h1, h2, h3⟩ := x
  obtain ⟨sl, e'⟩ := c.2 e o he h1
  exact ⟨_, e', h2, h3⟩
theorem TbAt.chg {S fr : List Addr} {h h' : Heap} {T : Addr} {fl : Value} (x : TbAt h T fl) (c : Chg S fr h h') (he : T ∉ S) : TbAt h' T fl := by
  obtain ⟨o, ts, h1, h2, h3⟩ := x
  obtain ⟨sl, e'⟩ := c.2 T o he h1
  exact ⟨_, ts, e', h2, h3⟩
theorem funFrames_chg {S fr : List Addr} {base h h' : Heap} {l : List Env} (x : h.FunFrames base l) (c : Chg S fr h h') (hS : ∀ b ∈ S, ∀ o, h.get? b = some o → ∃ vs, o.data = .fields vs) : h'.FunFrames base l :=
  x.of_keeps fun b o hb hnf => by
    by_cases hbS : b ∈ S
    · obtain ⟨vs, e⟩ := hS b hbS o hb
      exact absurd e (hnf vs)
    · obtain ⟨sl, e⟩ := c.2 b o hbS hb
      exact ⟨_, e, rfl⟩

section
variable {M : Model} {A : Around} {E : Value → Shared → Prop} {s : Shared}

theorem set_ex {e : Addr} {X : String} {vs : Array Value} {i : Nat} {x : Value} {Q : Unit → Shared → Prop} {o : Obj} (he : s.heap.get? e = some o) (hd : o.data = .fields vs) (hi : i < vs.size)
    (h : ∀ h' o', h'.get? e = some o' → o'.cls = o.cls → o'.data = .fields (vs.setIfInBounds i x) → (∀ fr, Chg [e] fr s.heap h') → h'.objs.size = s.heap.objs.size → Q () { s with heap := h' }) : wpAny M A (setField (.ref e) i x) Q E s := by
  refine wpAny_setField he hd hi (h _ _ (Heap.get?_update_self _ he (Obj.isFreed_of_fields (Obj.data_mapFields hd _))) (Obj.cls_mapFields _ _) (Obj.data_mapFields hd _) (fun fr => Chg.of_update _) (Heap.size_update ..))

/-- the entry that noteFrame lays -/
theorem entry_new {base : Heap} {env : Env} {outer : List Env} {L e : Addr} {X : String} {a0 tb cx cz sp nt head : Value} {hadNext : Bool} {Q : Unit → Shared → Prop}
    (hfr : A.frames = some (env :: outer)) (hl : s.heap.FunFrames base (env :: outer)) (hf : env.frame = some L) (he : ExAt s.heap e X a0 tb cx cz sp nt)
    (h : ∀ h' T, ExAt h' e X a0 (.ref T) cx cz sp nt → TbAt h' T (rawInt L) → s.heap.get? T = none → T ≠ e → Chg [e] ((env :: outer).filterMap (·.frame)) s.heap h' → Q () { s with heap := h' }) :
    wpAny M A (do let a ← frameOf env; let pl ← entryPlaceOf L hadNext; let b ← EntryCells.newEntry head a .none (rawInt L) .none pl; setField (.ref e) 1 b) Q E s := by
  obtain ⟨oe, g1, g2, g3⟩ := he
  have hene : e ∉ (env :: outer).filterMap (·.frame) := fun hm => by
    obtain ⟨_, o, ho, hnf⟩ := hl.mem hm
    rw [g1] at ho; injection ho with ho; subst ho; exact hnf _ g3
  refine wpAny_bind (wpAny_frameOf_fun hfr hl hf fun h₁ hs₁ => ?_)
  refine wpAny_bind (wpAny_entryPlaceOf fun pl hpl => ?_)
  unfold EntryCells.newEntry newFields
  refine wpAny_bind (wpAny_newObj_type ?_ (hpl.sizeOk5 _ _ _ _ _))
  have he₁ : h₁.get? e = some oe := (hs₁.2.1 e hene).trans g1
  have hsz : h₁.objs.size = s.heap.objs.size := hs₁.1
  have hc1 : Chg [e] ((env :: outer).filterMap (·.frame)) s.heap h₁ := ⟨fun b o _ h2 q => (hs₁.2.1 b h2).trans q, fun b o _ q => hs₁.2.2 b o q⟩
  have he₂ := Heap.get?_push_of_some (h := h₁) { cls := .type "traceback", dict := none, data := .fields ([head, .ref L, .none, rawInt L, .none] ++ (if pl.isEmpty then List.replicate 6 Value.none else pl)).toArray } he₁
  have hTe : h₁.objs.size ≠ e := Nat.ne_of_gt (Heap.lt_size he₁)
  have hT₂ := Heap.get?_push_size (h := h₁) (o := { cls := .type "traceback", dict := none, data := .fields ([head, .ref L, .none, rawInt L, .none] ++ (if pl.isEmpty then List.replicate 6 Value.none else pl)).toArray }) rfl
  refine wpAny_setField he₂ g3 (by simp) (h _ h₁.objs.size ⟨_, Heap.get?_update_self _ he₂ (Obj.isFreed_of_fields (Obj.data_mapFields g3 _)), (Obj.cls_mapFields _ _).trans g2, (Obj.data_mapFields g3 _).trans rfl⟩ ⟨_, _, (Heap.get?_update_other _ _ (Ne.symm hTe)).trans hT₂, rfl, ?_⟩ ?_ hTe ?_)
  · first | (simp; done) | (rcases hpl with rfl | ⟨_, _, _, _, _, _, _, rfl⟩ <;> simp)
  · rw [hsz]; exact Heap.get?_none_of_le (Nat.le_refl _)
  · exact (hc1.trans (Chg.of_ext [e] fun b o q => Heap.get?_push_of_some _ q)).trans (Chg.of_update _)

theorem note_first {base : Heap} {env : Env} {outer : List Env} {L e : Addr} {X : String} {a0 cx cz sp nt : Value} {Q : Unit → Shared → Prop}
    (hfr : A.frames = some (env :: outer)) (hl : s.heap.FunFrames base (env :: outer)) (hf : env.frame = some L) (he : ExAt s.heap e X a0 .none cx cz sp nt)
    (h : ∀ h' T, ExAt h' e X a0 (.ref T) cx cz sp nt → TbAt h' T (rawInt L) → s.heap.get? T = none → T ≠ e → Chg [e] ((env :: outer).filterMap (·.frame)) s.heap h' → Q () { s with heap := h' }) :
    wpAny M A (noteFrame (.ref e) env) Q E s := by
  obtain ⟨oe, g1, g2, g3⟩ := id he
  unfold noteFrame
  simp only [hf]
  refine wpAny_bind (wpAny_field g1 g3 (x := .none) rfl ?_)
  rw [if_neg (by decide)]
  exact entry_new hfr hl hf he h

theorem note_next {base : Heap} {env : Env} {outer : List Env} {L e T₀ : Addr} {X : String} {a0 cx cz sp nt : Value} {Q : Unit → Shared → Prop}
    (hfr : A.frames = some (env :: outer)) (hl : s.heap.FunFrames base (env :: outer)) (hf : env.frame = some L) (he : ExAt s.heap e X a0 (.ref T₀) cx cz sp nt) (ht : TbAt s.heap T₀ .none) (hTe : T₀ ≠ e)
    (h : ∀ h' T, ExAt h' e X a0 (.ref T) cx cz sp nt → TbAt h' T (rawInt L) → s.heap.get? T = none → T ≠ e → Chg [e, T₀] ((env :: outer).filterMap (·.frame)) s.heap h' → Q () { s with heap := h' }) :
    wpAny M A (noteFrame (.ref e) env) Q E s := by
  obtain ⟨oe, g1, g2, g3⟩ := id he
  obtain ⟨ot, ts, t1, t2, t3⟩ := ht
  have hS : ∀ b ∈ [T₀], ∀ o, s.heap.get? b = some o → ∃ vs, o.data = .fields vs := fun b hb o ho => by
    rw [List.mem_singleton.mp hb, t1] at ho; cases ho; exact ⟨ts, t2⟩
  unfold noteFrame
  simp only [hf]
  refine wpAny_bind (wpAny_field g1 g3 (x := .ref T₀) rfl ?_)
  rw [if_pos (show (Value.ref T₀ != Value.none) = true from by simp)]
  refine wpAny_bind (wpAny_field t1 t2 t3 ?_)
  rw [if_neg (show ¬ ((Value.none == rawInt L) = true) from by simp [rawInt])]
  refine wpAny_bind (set_ex (X := X) t1 t2 (Array.getElem?_eq_some_iff.mp t3).1 fun h₁ o₁ k1 k2 k3 k4 k5 => ?_)
  refine entry_new hfr (funFrames_chg (hl) (k4 []) hS) hf (he.chg (k4 []) (fun q => hTe (List.mem_singleton.mp q).symm)) fun h' T x1 x2 x3 x4 x5 => ?_
  refine h h' T x1 x2 ?_ x4 (((k4 _).mono (by simp)).trans (x5.mono (by simp)))
  cases q : s.heap.get? T with
  | none => rfl
  | some o =>
    have := Heap.lt_size q
    have hh : h₁.get? T = none := x3
    by_cases hT : T = T₀
    · rw [hT, k1] at hh; cases hh
    · obtain ⟨sl, e'⟩ := (k4 []).2 T o (fun m => hT (List.mem_singleton.mp m)) q
      rw [hh] at e'; cases e'

theorem note_again {env : Env} {L e T : Addr} {X : String} {a0 cx cz sp nt : Value} {Q : Unit → Shared → Prop} (hf : env.frame = some L) (he : ExAt s.heap e X a0 (.ref T) cx cz sp nt) (ht : TbAt s.heap T (rawInt L)) (h : Q () s) :
    wpAny M A (noteFrame (.ref e) env) Q E s := by
  obtain ⟨oe, g1, g2, g3⟩ := he
  obtain ⟨ot, ts, t1, t2, t3⟩ := ht
  unfold noteFrame
  simp only [hf]
  refine wpAny_bind (wpAny_field g1 g3 (x := .ref T) rfl ?_)
  rw [if_pos (show (Value.ref T != Value.none) = true from by simp)]
  refine wpAny_bind (wpAny_field t1 t2 t3 ?_)
  rw [if_pos (show (rawInt L == rawInt L) = true from by simp)]
  exact wpAny_pure h

theorem set_flight {e T : Addr} {X : String} {a0 cx cz sp nt fl : Value} {fo : Option Addr} {Q : Unit → Shared → Prop} (he : ExAt s.heap e X a0 (.ref T) cx cz sp nt) (ht : TbAt s.heap T fl) (hTe : T ≠ e)
    (h : ∀ h', ExAt h' e X a0 (.ref T) cx cz sp nt → TbAt h' T (fo.elim .none fun f => rawInt f) → (∀ fr, Chg [T] fr s.heap h') → Q () { s with heap := h' }) : wpAny M A (setFlight (.ref e) fo) Q E s := by
  obtain ⟨oe, g1, g2, g3⟩ := id he
  obtain ⟨ot, ts, t1, t2, t3⟩ := ht
  have hsz3 : 3 < ts.size := (Array.getElem?_eq_some_iff.mp t3).1
  unfold setFlight
  refine wpAny_bind (wpAny_field g1 g3 (x := .ref T) rfl ?_)
  rw [if_pos (show (Value.ref T != Value.none) = true from by simp)]
  refine set_ex (X := X) t1 t2 hsz3 fun h₁ o₁ k1 k2 k3 k4 k5 => ?_
  exact h h₁ (he.chg (k4 []) (fun q => hTe (List.mem_singleton.mp q).symm)) ⟨o₁, _, k1, k3, by simp [hsz3]⟩ k4
end

end Mine

namespace Mine
set_option maxRecDepth 100000
set_option maxHeartbeats 4000000

section
variable {prog : Program} {w : World} {A : Around} {E : Value → Shared → Prop} {s : Shared} {env : Env}

theorem entry_unchain : entryFor table "proto.unchain" = some Builtin.«proto.unchain» := entryFor_of_fast (by kernel_rfl)

/-- the context's chain is one long -/
theorem unchain_one {e1 e2 : Addr} {X1 : String} {a1 tb1 cz sp nt : Value} {Q : Value → Shared → Prop} (he1 : ExAt s.heap e1 X1 a1 tb1 .none cz sp nt) (h : Q .none s) :
    wpAny (model prog w) A (runValue (.builtin "proto.unchain" ⟨[.ref e2, .ref e1, .ref e1, .bool false], []⟩)) Q E s := by
  obtain ⟨o, g1, g2, g3⟩ := he1
  refine wpAny_runValue (codeAny_builtin entry_unchain ?_)
  show wpAny _ _ (field (.ref e1) 2 >>= _) _ _ s
  refine wpAny_bind (wpAny_field g1 g3 (x := .none) rfl ?_)
  exact wpAny_pure h

theorem raise_none {e1 : Addr} {X1 : String} {a1 tb1 cz sp nt : Value} {msg : Str} {np cp cp0 p2 pos : Pos} {k k2 : Nat} {Q : Flow → Shared → Prop} (hh : A.handled = some (.ref e1)) (he1 : ExAt s.heap e1 X1 a1 tb1 .none cz sp nt)
    (hN : ∀ Q' : Value → Shared → Prop, Q' (.type "TypeError") s → wpAny (model prog w) A (eval (.Name (Str.ofString "TypeError") np) env) Q' E s)
    (h : ∀ h' e2 t2 tk1 tk', ExAt h' e2 "TypeError" (.ref t2) .none (.ref e1) .none (.bool true) .none → h'.get? t2 = some { cls := .type "tuple", data := .seq #[.str msg tk1] } → s.heap.get? e2 = none → s.heap.get? t2 = none → e2 ≠ e1 → Ext s.heap h' →
      E (.ref e2) { s with heap := h', toks := tk' }) :
    wpAny (model prog w) A (exec (.Raise (some (.Call (.Name (Str.ofString "TypeError") np) [.Constant (.str msg) k cp0] [] cp)) (some (.Constant .none k2 p2)) pos) env) Q E s := by
  show wpAny _ A (do standAt pos; raiseStmt env (some (do let v ← eval (.Call (.Name (Str.ofString "TypeError") np) [.Constant (.str msg) k cp0] [] cp) env; standAt pos; pure v)) (some (do let v ← eval (.Constant .none k2 p2) env; standAt pos; pure v))) Q E s
  refine wpAny_bind (wpAny_standAt ?_)
  unfold raiseStmt
  dsimp only
  refine wpAny_bind (wpAny_bind (Call_ (hN _ (PyProof.Rows.callWith_type1 (args_cons (Constant_str (args_nil ?_)))))))
  refine wpAny_call_exc PySem.F.excCall_TypeError (hrest := by rw [sizeLine_eq]; simp) fun h1 e2 hm => ?_
  obtain ⟨t2, m1, m2, m3⟩ := hm.there
  have hne : e2 ≠ e1 := by
    rintro rfl
    obtain ⟨o, g1, _⟩ := he1
    have := hm.new
    rw [g1] at this; cases this
  refine wpAny_bind (wpAny_standAt (wpAny_pure ?_))
  refine wpAny_bind (wpAny_holding (wpAny_bind (wpAny_Constant_none (wpAny_bind (wpAny_standAt (wpAny_pure (wpAny_bind (wpAny_pure ?_))))))))
  dsimp only
  have hT : ({ s with heap := h1, toks := s.toks + 1 } : Shared).TypeIs (.ref e2) "TypeError" := ⟨_, m1, rfl⟩
  have hnt : ∀ {Q' : Bool → Shared → Prop} {s1 : Shared} {o : Obj} {vs : Array Value} {E' : Value → Shared → Prop}, s1.heap.get? e2 = some o → o.data = .fields vs → Q' false s1 → wpAny (model prog w) A (isType (.ref e2)) Q' E' s1 := by
    intro Q' s1 o vs E' ho hd hq
    simp only [isType, loadHead]
    refine wpAny_bind (wpAny_loadPart ho ?_)
    rw [hd]; exact wpAny_pure hq
  refine wpAny_bind (wpAny_holding ?_)
  unfold excFromValue isExcClass
  refine wpAny_bind (wpAny_bind (hnt m1 rfl ?_))
  simp only [Bool.false_eq_true, if_false]
  refine wpAny_pure ?_
  simp only [Bool.false_eq_true, if_false]
  refine wpAny_bind (wpAny_isInstance hT excClass_TypeError.base ?_)
  simp only [if_true]
  refine wpAny_pure ?_
  refine wpAny_bind (wpAny_pure ?_)
  refine wpAny_bind (wpAny_setField m1 rfl (by simp) ?_)
  have u1 := Heap.get?_update_self (h := h1) (Obj.mapFields (·.setIfInBounds 3 Value.none)) m1 rfl
  refine wpAny_bind (wpAny_setField u1 rfl (by simp) ?_)
  have u2 := Heap.get?_update_self (Obj.mapFields (·.setIfInBounds 4 (Value.bool true))) u1 rfl
  generalize hh1 : ((h1.update e2 (Obj.mapFields (·.setIfInBounds 3 Value.none))).update e2 (Obj.mapFields (·.setIfInBounds 4 (Value.bool true)))) = h2 at u2 ⊢
  have oth : ∀ b, b ≠ e2 → h2.get? b = h1.get? b := fun b hb => by
    rw [← hh1, Heap.get?_update_other _ _ (Ne.symm hb), Heap.get?_update_other _ _ (Ne.symm hb)]
  have hT2 : ({ s with heap := h2, toks := s.toks + 1 } : Shared).TypeIs (.ref e2) "TypeError" := ⟨_, u2, rfl⟩
  refine wpAny_bind (hnt u2 rfl ?_)
  simp only [Bool.false_eq_true, if_false]
  unfold raisedInstance
  refine wpAny_bind (wpAny_bind (wpAny_typeOf hT2 (wpAny_bind (m := typeOf (.type "TypeError")) (wpAny_pure ?_))))
  rw [if_pos excClass_TypeError.metaType]
  refine wpAny_pure ?_
  unfold setFlight raiseNew
  refine wpAny_bind (wpAny_bind (wpAny_field u2 rfl (x := .none) rfl ?_))
  rw [if_neg (by decide)]
  refine wpAny_pure (wpAny_bind (wpAny_handled ?_))
  rw [hh]
  dsimp only
  rw [if_pos (by simp; exact Ne.symm hne)]
  have he1' : ExAt h2 e1 X1 a1 tb1 .none cz sp nt := by
    obtain ⟨o, g1, g2, g3⟩ := he1
    exact ⟨o, (oth e1 (Ne.symm hne)).trans (hm.keeps _ _ g1), g2, g3⟩
  refine wpAny_bind (wpAny_holding (unchain_one he1' ?_))
  refine wpAny_bind (m := setField (.ref e2) 2 (.ref e1)) (wpAny_setField u2 rfl (by simp) (wpAny_throw ?_))
  have u3 := Heap.get?_update_self (Obj.mapFields (·.setIfInBounds 2 (Value.ref e1))) u2 rfl
  have ht2 : t2 ≠ e2 := by
    rintro rfl
    have q := congrArg Obj.data (Option.some.inj (m1.symm.trans m3))
    simp at q
  refine h _ e2 t2 s.toks _ ⟨_, u3, rfl, rfl⟩ ?_ hm.new m2 hne ?_
  · rw [Heap.get?_update_other _ _ (Ne.symm ht2), oth t2 ht2]; exact m3
  · intro b o e
    have hb : b ≠ e2 := by rintro rfl; rw [hm.new] at e; cases e
    rw [Heap.get?_update_other _ _ (Ne.symm hb), oth b hb]
    exact hm.keeps b o e
end

end Mine

namespace Mine
set_option maxRecDepth 100000
set_option maxHeartbeats 4000000

def wordsS : Str := Str.ofString "Locale must be None, a string, or an iterable of two strings -- language code, encoding."

theorem ExAt.ext {h h' : Heap} {e : Addr} {X : String} {a0 tb cx cz sp nt : Value} (x : ExAt h e X a0 tb cx cz sp nt) (c : Ext h h') : ExAt h' e X a0 tb cx cz sp nt := by
  obtain ⟨o, h1, h2, h3⟩ := x
  exact ⟨o, c _ _ h1, h2, h3⟩
theorem TbAt.ext {h h' : Heap} {T : Addr} {fl : Value} (x : TbAt h T fl) (c : Ext h h') : TbAt h' T fl := by
  obtain ⟨o, ts, h1, h2, h3⟩ := x
  exact ⟨o, ts, c _ _ h1, h2, h3⟩
theorem ExAt.fields {h : Heap} {e : Addr} {X : String} {a0 tb cx cz sp nt : Value} (x : ExAt h e X a0 tb cx cz sp nt) : ∀ o, h.get? e = some o → ∃ vs, o.data = .fields vs := fun o ho => by
  obtain ⟨o', h1, _, h3⟩ := x
  rw [h1] at ho; cases ho; exact ⟨_, h3⟩
theorem TbAt.fields {h : Heap} {T : Addr} {fl : Value} (x : TbAt h T fl) : ∀ o, h.get? T = some o → ∃ vs, o.data = .fields vs := fun o ho => by
  obtain ⟨o', ts, h1, h2, _⟩ := x
  rw [h1] at ho; cases ho; exact ⟨_, h2⟩
theorem ExAt.some {h : Heap} {e : Addr} {X : String} {a0 tb cx cz sp nt : Value} (x : ExAt h e X a0 tb cx cz sp nt) : ∃ o, h.get? e = some o := let ⟨o, h1, _⟩ := x; ⟨o, h1⟩
theorem TbAt.some {h : Heap} {T : Addr} {fl : Value} (x : TbAt h T fl) : ∃ o, h.get? T = some o := let ⟨o, _, h1, _⟩ := x; ⟨o, h1⟩

section
variable {w : World} {mean : ExcName → Option Value} {mg mb : Str → Option Value} {dp un : Nat} {gd : Option (List Code)} {outer : List Env} {base : Heap} {s : Shared} {E : Value → Shared → Prop} {env : Env} {L : Addr}

/-- what the clause of _build_localename does with what flies -/
theorem handler_part {e1 : Addr} {X1 : String} {a1 cz sp nt : Value} {p1 p2 tpos np cp cp0 q2 rpos hpos : Pos} {kk k k2 : Nat} {Q : Flow → Shared → Prop} (hX1 : X1 = "TypeError" ∨ X1 = "ValueError")
    (hf : env.frame = some L) (hl : s.heap.FunFrames base (env :: outer)) (he1 : ExAt s.heap e1 X1 a1 .none .none cz sp nt)
    (heb : base.get? e1 = none) (hX0 : (hd.heap_39 w.params).In base) (hbs : base.StaysIn s.heap)
    (hT0 : Top hd.view_39 (looseW hd.view_39 []) mean mg mb base)
    (hK1 : nsIn (hd.heap_39 w.params) mainGlobals (Str.ofString "TypeError") = some none) (hK2 : nsIn (hd.heap_39 w.params) mainGlobals (Str.ofString "ValueError") = some none)
    (hg : env.globals = mainGlobals) (hbn : env.builtins = builtinsNs) (hk : env.scope.kind = .function) (hx1 : env.kindOf (Str.ofString "TypeError") = some .globalImplicit) (hx2 : env.kindOf (Str.ofString "ValueError") = some .globalImplicit)
    (hE : ∀ h' e2 t2 T2 tk1 tk', ExAt h' e2 "TypeError" (.ref t2) (.ref T2) (.ref e1) .none (.bool true) .none → TbAt h' T2 (rawInt L) → h'.get? t2 = some { cls := .type "tuple", data := .seq #[.str wordsS tk1] } → T2 ≠ e2 →
      s.heap.get? e2 = none → s.heap.get? T2 = none → s.heap.get? t2 = none → Chg [e1] ((env :: outer).filterMap (·.frame)) s.heap h' → E (.ref e2) { s with heap := h', toks := tk' }) :
    wpAny (model (PySem.Challenge.rw_pk0132_01.row.toRowW.prog) w) (AT dp un gd (env :: outer)) (noteFrame (.ref e1) env) (fun _ s₂ => wpAny (model (PySem.Challenge.rw_pk0132_01.row.toRowW.prog) w) (AT dp un gd (env :: outer)) (setFlight (.ref e1) none)
      (fun _ s₃ => wpAny (model (PySem.Challenge.rw_pk0132_01.row.toRowW.prog) w) (AT dp un gd (env :: outer)) (handleBy (.ref e1) env [.ExceptHandler (some (.Tuple [.Name (Str.ofString "TypeError") p1, .Name (Str.ofString "ValueError") p2] kk tpos)) none
        [.Raise (some (.Call (.Name (Str.ofString "TypeError") np) [.Constant (.str wordsS) k cp0] [] cp)) (some (.Constant .none k2 q2)) rpos] hpos]) Q E s₃) E s₂) E s := by
  refine note_first rfl hl hf he1 fun h1 T1 y1 y2 y3 y4 y5 => ?_
  refine set_flight y1 y2 y4 fun h2 z1 z2 z3 => ?_
  have hS1 : ∀ b ∈ [e1], ∀ o, s.heap.get? b = some o → ∃ vs, o.data = .fields vs := fun b hb o ho => he1.fields o (by rw [← List.mem_singleton.mp hb]; exact ho)
  have hS2 : ∀ b ∈ [T1], ∀ o, h1.get? b = some o → ∃ vs, o.data = .fields vs := fun b hb o ho => y2.fields o (by rw [← List.mem_singleton.mp hb]; exact ho)
  have hl1 := funFrames_chg hl y5 hS1
  have hl2 := funFrames_chg hl1 (z3 []) hS2
  have hbs1 : base.StaysIn h1 := fun b o hb => y5.1 b o (fun m => by rw [List.mem_singleton.mp m, heb] at hb; cases hb) (fun m => by rw [(hl.mem m).1] at hb; cases hb) (hbs b o hb)
  have hT1b : base.get? T1 = none := by
    cases q : base.get? T1 with
    | none => rfl
    | some o => rw [hbs _ _ q] at y3; cases y3
  have hbs2 : base.StaysIn h2 := fun b o hb => (z3 []).1 b o (fun m => by rw [List.mem_singleton.mp m, hT1b] at hb; cases hb) (by simp) (hbs1 b o hb)
  have X2 := hX0.keeps hbs2
  have T2 := hT0.keeps hbs2
  have hTE : Str.ofString "TypeError" ≠ Str.ofString "__name__" := by decide
  have hVE : Str.ofString "ValueError" ≠ Str.ofString "__name__" := by decide
  have bT : bootBuiltins (Str.ofString "TypeError") = some (.type "TypeError") := by decide +kernel
  have bV : bootBuiltins (Str.ofString "ValueError") = some (.type "ValueError") := by decide +kernel
  have sub : ∃ b1 b2, isSubtype (.type X1) (.type "TypeError") = pure b1 ∧ isSubtype (.type X1) (.type "ValueError") = pure b2 ∧ (b1 || b2) = true := by
    rcases hX1 with rfl | rfl
    · exact ⟨true, false, isSubtype_of_subB (by decide +kernel), isSubtype_of_subB (by decide +kernel), rfl⟩
    · exact ⟨false, true, isSubtype_of_subB (by decide +kernel), isSubtype_of_subB (by decide +kernel), rfl⟩
  obtain ⟨b1, b2, hs1, hs2, hb12⟩ := sub
  refine wpAny_handleBy_tup2 (T1 := "TypeError") (T2 := "ValueError") (X := X1) (b1 := b1) (b2 := b2) (isSubtype_of_subB (by decide +kernel)) (isSubtype_of_subB (by decide +kernel)) (isSubtype_of_subB (by decide +kernel)) (isSubtype_of_subB (by decide +kernel)) hs1 hs2 ?_
  refine Tuple_ (args_cons (nm_blt X2 T2 hK1 bT hTE hg hbn hk hx1 (by decide) (args_cons (nm_blt X2 T2 hK2 bV hVE hg hbn hk hx2 (by decide) (args_nil ?_)))))
  refine wpAny_newObj_type ?_ (by show _ ≤ sizeLine; rw [sizeLine_eq]; simp)
  have x3 : Ext h2 (h2.push { cls := .type "tuple", dict := none, data := .seq [Value.type "TypeError", .type "ValueError"].toArray }) := fun b o e => Heap.get?_push_of_some _ e
  refine ⟨_, rfl, IsTup.new _ _, ?_, ?_⟩
  · obtain ⟨o, g1, g2, _⟩ := z1
    exact ⟨o, x3 _ _ g1, g2⟩
  · rw [if_pos hb12]
    generalize h2.push { cls := .type "tuple", dict := none, data := .seq [Value.type "TypeError", .type "ValueError"].toArray } = h3 at x3
    refine set_flight (z1.ext x3) (z2.ext x3) y4 fun h4 v1 v2 v3 => ?_
    have hl3 : h3.FunFrames base (env :: outer) := hl2.of_keeps fun b o hb _ => ⟨o, x3 b o hb, rfl⟩
    have hl4 := funFrames_chg hl3 (v3 []) (fun b hb o ho => (z2.ext x3).fields o (by rw [← List.mem_singleton.mp hb]; exact ho))
    have hbs4 : base.StaysIn h4 := fun b o hb => (v3 []).1 b o (fun m => by rw [List.mem_singleton.mp m, hT1b] at hb; cases hb) (by simp) (x3 b o (hbs2 b o hb))
    have X4 := hX0.keeps hbs4
    have T4 := hT0.keeps hbs4
    refine wpAny_execs_cons (raise_none (A := (AT dp un gd (env :: outer)).mark (some (.ref e1))) rfl v1 (fun Q' q => nm_blt X4 T4 hK1 bT hTE hg hbn hk hx1 (by decide) q) ?_)
    intro h5 e2 t2 tk1 tk5 a1' a2 a3 a4 a5 a6
    have hl5 : h5.FunFrames base (env :: outer) := hl4.of_keeps fun b o hb _ => ⟨o, a6 b o hb, rfl⟩
    show wpAny _ _ (noteFrame (.ref e2) env) _ _ _
    refine note_first rfl hl5 hf a1' fun h6 T2' b1' b2' b3 b4 b5 => ?_
    show wpAny _ _ (do
      if (← field (.ref e2) 1) == .none then unsupported "frame.own-activation:exception-without-traceback"
      setFlight (.ref e2) env.frame) _ _ _
    obtain ⟨o6, c1, c2, c3⟩ := id b1'
    refine wpAny_bind (wpAny_field c1 c3 (x := .ref T2') rfl ?_)
    rw [if_neg (by simp)]
    rw [hf]
    refine set_flight b1' b2' b4 fun h7 d1 d2 d3 => ?_
    have old : ∀ b o, s.heap.get? b = some o → b ≠ T1 := fun b o e q => by rw [q, y3] at e; cases e
    have all : Chg [e1, T1, e2, T2'] ((env :: outer).filterMap (·.frame)) s.heap h7 :=
      ((((((y5.mono (by simp)).trans ((z3 _).mono (by simp))).trans (Chg.of_ext _ x3)).trans ((v3 _).mono (by simp))).trans (Chg.of_ext _ a6)).trans (b5.mono (by simp))).trans ((d3 _).mono (by simp))
    have up4 : ∀ b o, s.heap.get? b = some o → ∃ o', h4.get? b = some o' := fun b o e => by
      by_cases hbe : b = e1
      · obtain ⟨o', q⟩ := v1.some
        exact ⟨o', hbe ▸ q⟩
      · have c : Chg [e1, T1] ((env :: outer).filterMap (·.frame)) s.heap h4 := (((y5.mono (by simp)).trans ((z3 _).mono (by simp))).trans (Chg.of_ext _ x3)).trans ((v3 _).mono (by simp))
        obtain ⟨sl, q⟩ := c.2 b o (by simp; exact ⟨hbe, old b o e⟩) e
        exact ⟨_, q⟩
    have n2 : s.heap.get? e2 = none := by
      cases q : s.heap.get? e2 with
      | none => rfl
      | some o => obtain ⟨o', q'⟩ := up4 _ _ q; rw [a3] at q'; cases q'
    have n3 : s.heap.get? t2 = none := by
      cases q : s.heap.get? t2 with
      | none => rfl
      | some o => obtain ⟨o', q'⟩ := up4 _ _ q; rw [a4] at q'; cases q'
    have n4 : s.heap.get? T2' = none := by
      cases q : s.heap.get? T2' with
      | none => rfl
      | some o =>
        obtain ⟨o', q'⟩ := up4 _ _ q
        have := a6 _ _ q'
        rw [b3] at this; cases this
    have ht2 : t2 ≠ e2 := by
      rintro rfl
      obtain ⟨o, g1, _, g3⟩ := a1'
      have q := congrArg Obj.data (Option.some.inj (g1.symm.trans a2))
      rw [g3] at q; cases q
    have ht2T : t2 ≠ T2' := by rintro rfl; rw [b3] at a2; cases a2
    refine hE h7 e2 t2 T2' tk1 _ d1 d2 ?_ b4 n2 n4 n3 ⟨fun b o h1' h2' e => ?_, fun b o h1' e => ?_⟩
    · have q1 := b5.1 t2 _ (fun m => ht2 (List.mem_singleton.mp m)) (fun m => ?_) a2
      · exact (d3 []).1 t2 _ (fun m => ht2T (List.mem_singleton.mp m)) (by simp) q1
      · obtain ⟨_, o, ho, hnf⟩ := hl5.mem m
        have hl4m := (hl4.mem m).2
        obtain ⟨o', ho', _⟩ := hl4m
        rw [a4] at ho'; cases ho'
    · refine all.1 b o ?_ h2' e
      simp only [List.mem_cons, List.not_mem_nil, or_false, not_or]
      exact ⟨fun q => h1' (by simp [q]), old b o e, (fun q => by rw [q, n2] at e; cases e), (fun q => by rw [q, n4] at e; cases e)⟩
    · refine all.2 b o ?_ e
      simp only [List.mem_cons, List.not_mem_nil, or_false, not_or]
      exact ⟨fun q => h1' (by simp [q]), old b o e, (fun q => by rw [q, n2] at e; cases e), (fun q => by rw [q, n4] at e; cases e)⟩
end

end Mine

namespace Mine
set_option maxRecDepth 100000
set_option maxHeartbeats 4000000

section
variable {prog : Program} {w : World} {A : Around} {E : Value → Shared → Prop} {s : Shared} {env : Env}

theorem special_none_iter : specialOf .none "__iter__" = pure none := by
  show typeLookup (.type "NoneType") _ = _
  rw [typeLookup_type, builtinLookup_eq_fast]
  kernel_rfl
theorem special_none_getitem : specialOf .none "__getitem__" = pure none := by
  show typeLookup (.type "NoneType") _ = _
  rw [typeLookup_type, builtinLookup_eq_fast]
  kernel_rfl

theorem unpack_none {n : Nat} {Q : List Value → Shared → Prop} (hh : A.handled = none)
    (h : ∀ h' tk e, Heap.NewExc s.heap h' e "TypeError" → E (.ref e) { s with heap := h', toks := tk }) : wpAny (model prog w) A (unpackItems .none n none) Q E s := by
  unfold unpackItems notIterableAtAll
  refine wpAny_bind (wpAny_bind (wpAny_of_eq special_none_iter ?_))
  refine wpAny_bind (wpAny_of_eq special_none_getitem (wpAny_pure ?_))
  rw [if_pos rfl]
  refine wpAny_bind (wpAny_rule ?_)
  refine wpAny_bind (wpAny_typeNameOf' (T := "NoneType") (v := .none) rfl (h := ?_))
  refine wpAny_bind (raiseError_exc excClass_TypeError hh (fun h' tk e hx => h h' tk e hx) (by decide +kernel))

theorem unpack_three {l : Addr} {a b c : Value} {Q : List Value → Shared → Prop} (hh : A.handled = none) (hl : s.heap.IsList l #[a, b, c])
    (h : ∀ h0 h' tk e, Ext s.heap h0 → Heap.NewExc h0 h' e "ValueError" → E (.ref e) { s with heap := h', toks := tk }) : wpAny (model prog w) A (unpackItems (.ref l) 2 none) Q E s := by
  have hlt : l ≠ s.heap.objs.size := by obtain ⟨o, ho, _⟩ := hl; exact Nat.ne_of_lt (Heap.lt_size ho)
  unfold unpackItems
  refine wpAny_bind ?_
  unfold notIterableAtAll
  refine wpAny_bind (wpAny_specialOf hl.typeIs slot_list_iter.lookup ?_)
  refine wpAny_pure ?_
  simp only [Bool.false_eq_true, if_false]
  refine wpAny_bind (wpAny_holding (wpAny_pyIter_list hl ?_))
  refine wpAny_bind (wpAny_holding (kun_draw hlt 2 0 _ _ ⟨_, Heap.get?_push_size _ rfl, rfl, rfl⟩ (hl.push _) (by simp) fun h₁ hit₁ hs₁ => ?_))
  rw [if_neg (by simp)]
  have hl₁ : h₁.IsList l #[a, b, c] := (hl.push _).extBut hs₁.extBut hlt
  refine wpAny_bind (wpAny_holding (wpAny_pyNext_list_item hit₁ hl₁ (x := c) rfl fun h₂ _ hs₂ => ?_))
  simp only [Option.isSome_some, if_true]
  refine wpAny_bind (wpAny_rule ?_)
  refine wpAny_bind (raiseError_exc (s := { s with heap := h₂ }) excClass_ValueError hh (fun h' tk e hx => h h₂ h' tk e ?_ hx) (by decide +kernel))
  intro b' o e'
  have hb : b' ≠ s.heap.objs.size := Nat.ne_of_lt (Heap.lt_size e')
  exact hs₂.extBut _ _ hb (hs₁.extBut _ _ hb (Heap.get?_push_of_some _ e'))

theorem unpack_one {t : Addr} {a : Value} {Q : List Value → Shared → Prop} (hh : A.handled = none) (ht : IsTup s.heap t #[a])
    (h : ∀ h0 h' tk e, Ext s.heap h0 → Heap.NewExc h0 h' e "ValueError" → E (.ref e) { s with heap := h', toks := tk }) : wpAny (model prog w) A (unpackItems (.ref t) 2 none) Q E s := by
  have hlt : t ≠ s.heap.objs.size := by obtain ⟨o, ho, _⟩ := ht; exact Nat.ne_of_lt (Heap.lt_size ho)
  unfold unpackItems
  refine wpAny_bind ?_
  unfold notIterableAtAll
  refine wpAny_bind (wpAny_specialOf ht.typeIs slot_tuple_iter.lookup ?_)
  refine wpAny_pure ?_
  simp only [Bool.false_eq_true, if_false]
  refine wpAny_bind (wpAny_holding (iter_tuple ht ?_))
  refine wpAny_bind (wpAny_holding ?_)
  show wpAny _ _ (pyNext (.ref s.heap.objs.size) >>= _) _ _ _
  refine wpAny_bind (next_tuple_item (i := 0) (x := a) ⟨_, Heap.get?_push_size _ rfl, rfl, rfl⟩ (ht.push _) rfl fun h₁ hit₁ hs₁ => ?_)
  refine wpAny_bind (wpAny_holding ?_)
  show wpAny _ _ (pyNext (.ref s.heap.objs.size) >>= _) _ _ _
  refine wpAny_bind (next_tuple_end hh hit₁ ((ht.push _).extBut hs₁.extBut hlt) rfl fun h₂ he₂ => ?_)
  refine wpAny_pure (wpAny_pure ?_)
  rw [if_pos (by simp)]
  refine wpAny_bind (wpAny_rule ?_)
  refine wpAny_bind (raiseError_exc (s := { s with heap := h₂ }) excClass_ValueError hh (fun h' tk e hx => h h₂ h' tk e ?_ hx) (by rw [List.length_singleton]; decide +kernel))
  intro b' o e'
  have hb : b' ≠ s.heap.objs.size := Nat.ne_of_lt (Heap.lt_size e')
  exact he₂ _ _ hb (hs₁.extBut _ _ hb (Heap.get?_push_of_some _ e'))
end

end Mine

namespace Mine
set_option maxRecDepth 100000
set_option maxHeartbeats 4000000

section
variable {prog : Program} {w : World} {A : Around} {E : Value → Shared → Prop} {s : Shared}

theorem op1_ff {M : Model} {a b : Value} {T U nm : String} {Q : Option Value → Shared → Prop} (hTU : T ≠ U) (ha : s.TypeIs a T) (hb : s.TypeIs b U)
    (hfT : fillsNumberSlot (.type T) nm = pure false) (hfU : fillsNumberSlot (.type U) nm = pure false) (h : Q none s) : wpAny M A (binaryOp1 nm a b) Q E s := by
  simp only [binaryOp1]
  refine wpAny_bind (wpAny_typeOf ha (wpAny_bind (wpAny_typeOf hb (wpAny_bind (wpAny_of_eq hfT ?_)))))
  have hne : (Value.type T == Value.type U) = false := by simpa using hTU
  simp only [hne, Bool.false_eq_true, if_false]
  refine wpAny_bind (wpAny_of_eq hfU ?_)
  simp only [Bool.false_and, Bool.and_false, Bool.false_eq_true, if_false, pure_bind, Bool.not_false]
  exact wpAny_pure h
theorem op1_ft {M : Model} {a b : Value} {T U nm idr : String} {Q : Option Value → Shared → Prop} (hTU : T ≠ U) (ha : s.TypeIs a T) (hb : s.TypeIs b U)
    (hfT : fillsNumberSlot (.type T) nm = pure false) (hfU : fillsNumberSlot (.type U) nm = pure true) (hr : Slot U (dunderR nm) idr)
    (hc : wpAny M A (call (.builtin idr) [b, a]) (fun v s' => v = .notImplemented ∧ Q none s') E s) : wpAny M A (binaryOp1 nm a b) Q E s := by
  simp only [binaryOp1]
  refine wpAny_bind (wpAny_typeOf ha (wpAny_bind (wpAny_typeOf hb (wpAny_bind (wpAny_of_eq hfT ?_)))))
  have hne : (Value.type T == Value.type U) = false := by simpa using hTU
  simp only [hne, Bool.false_eq_true, if_false]
  refine wpAny_bind (wpAny_of_eq hfU ?_)
  simp only [Bool.false_and, Bool.and_false, Bool.false_eq_true, if_false, pure_bind, Bool.not_false, Bool.and_self, if_true]
  refine wpAny_bind (wpAny_tryMethod_declines hb hr (wpAny_mono hc (fun v s' q => ⟨q.1, wpAny_pure q.2⟩) fun _ _ x => x))
theorem op1_tf {M : Model} {a b : Value} {T U nm idl : String} {Q : Option Value → Shared → Prop} (hTU : T ≠ U) (ha : s.TypeIs a T) (hb : s.TypeIs b U)
    (hfT : fillsNumberSlot (.type T) nm = pure true) (hfU : fillsNumberSlot (.type U) nm = pure false) (hl : Slot T (dunder nm) idl)
    (hc : wpAny M A (call (.builtin idl) [a, b]) (fun v s' => v = .notImplemented ∧ Q none s') E s) : wpAny M A (binaryOp1 nm a b) Q E s := by
  simp only [binaryOp1]
  refine wpAny_bind (wpAny_typeOf ha (wpAny_bind (wpAny_typeOf hb (wpAny_bind (wpAny_of_eq hfT ?_)))))
  have hne : (Value.type T == Value.type U) = false := by simpa using hTU
  simp only [hne, Bool.false_eq_true, if_false]
  refine wpAny_bind (wpAny_of_eq hfU ?_)
  simp only [Bool.false_and, Bool.and_false, Bool.false_eq_true, if_false, pure_bind, Bool.not_false, Bool.and_self, if_true]
  refine wpAny_bind (wpAny_tryMethod_declines ha hl (wpAny_mono hc (fun v s' q => ⟨q.1, wpAny_pure q.2⟩) fun _ _ x => x))

/-- a text and an int -/
theorem add_str_int {x : Str} {t u : Tok} {k : Int} {Q : Value → Shared → Prop} (hh : A.handled = none)
    (h : ∀ h' tk e, Heap.NewExc s.heap h' e "TypeError" → E (.ref e) { s with heap := h', toks := tk }) : wpAny (model prog w) A (binaryOp .Add (.str x t) (.int k u)) Q E s := by
  unfold binaryOp
  refine wpAny_holding ?_
  refine wpAny_bind (op1_ft (T := "str") (U := "int") (nm := "add") (by decide) rfl rfl PySem.noFill_str_add PySem.F.fills_int_add PySem.F.slot_int_radd
    (call_gives PySem.F.slot_int_radd rfl PySem.F.entry_int_radd (PySem.F.args_int_radd_2 _ _) (AutoIntG4.int___radd___int_str_0 k u x t) ⟨rfl, ?_⟩))
  refine wpAny_bind (wpAny_typeOf (T := "str") rfl ?_)
  refine wpAny_bind (wpAny_of_eq PySem.seq_str_add ?_)
  refine wpAny_bind (wpAny_rule ?_)
  refine wpAny_call_entry PySem.F.slot_str_add (T := "str") rfl PySem.F.entry_str_add ?_ (PySem.F.args_str_add_2 _ _)
  obtain ⟨hp, g, d, tk, os⟩ := s
  wp_walk
  exact raiseError_exc (s := ⟨hp, g, d, tk, os⟩) excClass_TypeError hh (fun h' tk e hx => h h' tk e hx) (by decide +kernel)

/-- an int and a text -/
theorem add_int_str {x : Str} {t u : Tok} {k : Int} {Q : Value → Shared → Prop} (hh : A.handled = none)
    (h : ∀ h' tk e, Heap.NewExc s.heap h' e "TypeError" → E (.ref e) { s with heap := h', toks := tk }) : wpAny (model prog w) A (binaryOp .Add (.int k u) (.str x t)) Q E s := by
  unfold binaryOp
  refine wpAny_holding ?_
  refine wpAny_bind (op1_tf (T := "int") (U := "str") (nm := "add") (by decide) rfl rfl PySem.F.fills_int_add PySem.noFill_str_add PySem.F.slot_int_add
    (call_gives PySem.F.slot_int_add rfl PySem.F.entry_int_add (PySem.F.args_int_add_2 _ _) (AutoIntG6.int___add___int_str_0 k u x t) ⟨rfl, ?_⟩))
  refine wpAny_bind (wpAny_typeOf (T := "int") rfl ?_)
  have hs : seqSlot? (.type "int") "__add__" = pure none := by
    unfold seqSlot?
    rw [show typeLookup (.type "int") "__add__" = pure (some (.builtin "int.__add__")) from PySem.F.slot_int_add.lookup]
    rfl
  refine wpAny_bind (wpAny_of_eq hs ?_)
  unfold binopTypeError
  refine wpAny_bind (wpAny_rule (wpAny_bind (wpAny_typeNameOf' (T := "int") (v := .int k u) rfl (h := ?_))))
  refine wpAny_bind (wpAny_typeNameOf' (T := "str") (v := .str x t) rfl (h := ?_))
  exact raiseError_exc excClass_TypeError hh (fun h' tk e hx => h h' tk e hx) (by decide +kernel)

/-- a tuple and a text -/
theorem add_tup_str {q : Addr} {items : Array Value} {x : Str} {t : Tok} {Q : Value → Shared → Prop} (hh : A.handled = none) (hq : IsTup s.heap q items)
    (h : ∀ h' tk e, Heap.NewExc s.heap h' e "TypeError" → E (.ref e) { s with heap := h', toks := tk }) : wpAny (model prog w) A (binaryOp .Add (.ref q) (.str x t)) Q E s := by
  unfold binaryOp
  refine wpAny_holding ?_
  refine wpAny_bind (op1_ff (T := "tuple") (U := "str") (nm := "add") (by decide) hq.typeIs rfl PySem.noFill_tuple_add PySem.noFill_str_add ?_)
  refine wpAny_bind (wpAny_typeOf hq.typeIs ?_)
  refine wpAny_bind (wpAny_of_eq PySem.seq_tuple_add ?_)
  refine wpAny_bind (wpAny_rule ?_)
  refine wpAny_call_entry PySem.F.slot_tuple_add hq.typeIs PySem.F.entry_tuple_add ?_ (PySem.F.args_tuple_add_2 _ _)
  obtain ⟨hp, g, d, tk, os⟩ := s
  wp_walk
  refine wpAny_of_eq (isSubtype_of_subB (by decide +kernel) : isSubtype (.type "str") (.type "tuple") = pure false) ?_
  wp_walk
  exact raiseError_exc (s := ⟨hp, g, d, tk, os⟩) excClass_TypeError hh (fun h' tk e hx => h h' tk e hx) (by decide +kernel)
end

end Mine

namespace Mine
theorem quiet_C9 : True := by w_top off; exact trivial
set_option maxRecDepth 100000
set_option maxHeartbeats 8000000
local macro_rules | `(tactic| walk_at "mine enteredB") => `(tactic| ((case k0 => assumption); (case k1 => assumption); (case k2 => assumption); (case k3 => k_is); (case k4 => k_is); (case k5 => omega); (case k6 => exact BindsTo.of_eq rfl); (case k7 => exact locs rfl); (case k8 => exact rfl); (case k9 => exact rfl); (case k10 => exact rfl); (case k11 => decide); k_whole))

section
variable {w : World} {mean : ExcName → Option Value} {mg mb : Str → Option Value} {dp un : Nat} {gd : Option (List Code)} {outer : List Env} {base : Heap} {s : Shared} {E : Value → Shared → Prop}
/-- as enter, and the frames below with it -/
theorem enterB {R : Value → Shared → Prop} {name qual : Str} {params : Arguments} {body : List Stmt} {scope : Scope} {dV kV doc pm cdv ct oc : Value} {an od : Option Addr} {osl : Array (Option Value)} {f : Addr} {args : List Value} {binds : List (Str × Value)}
    (B : Below (AT dp un gd outer) base outer s.heap) (X : (hd.heap_39 w.params).In s.heap) (T : Top hd.view_39 (looseW hd.view_39 []) mean mg mb s.heap)
    (ho : (hd.heap_39 w.params).lookup f = some ⟨oc, od, .func (fnOf name qual params body scope dV kV doc pm an cdv ct), osl⟩) (hcd : codeIn (hd.heap_39 w.params) cdv qual = true) (hroom : dp < recursionLimit)
    (hbind : BindsTo s (fnOf name qual params body scope dV kV doc pm an cdv ct) ⟨args, []⟩ binds) (hloc : ∀ y ∈ binds, scope.names.lookup y.1 = some .local)
    (hco : scope.isCoroutine = false) (hgen : scope.isGenerator = false) (hk : scope.kind = .function) (hcell : ∀ x ∈ scope.names, x.2 ≠ .cell)
    (h : ∀ L' h₁, (∀ h m, Fr s.heap L' h m → Below (AT (dp + 1) (un + 3) gd (envOf qual scope L' f cdv :: outer)) base (envOf qual scope L' f cdv :: outer) h) → Fr s.heap L' h₁ (fun y => binds.reverse.lookup y) → News s.heap L' h₁ [] →
      wpAny (model (PySem.Challenge.rw_pk0132_01.row.toRowW.prog) w) ((AT dp un gd outer).deeper (envOf qual scope L' f cdv)) (execs body (envOf qual scope L' f cdv))
        (fun fl s' => R (match fl with | .ret v => v | _ => .none) s')
        (fun e s' => wpAny (model (PySem.Challenge.rw_pk0132_01.row.toRowW.prog) w) ((AT dp un gd outer).deeper (envOf qual scope L' f cdv)) (leaving (envOf qual scope L' f cdv) e) (fun _ s'' => E e s'') (fun e' s'' => E e' s'') s')
        { s with heap := h₁, toks := s.toks + binds.length }) : wpAny (model (PySem.Challenge.rw_pk0132_01.row.toRowW.prog) w) (AT dp un gd outer) (call (.ref f) args) R E s :=
  enter X T ho hcd hroom hbind hloc hco hgen hk hcell fun L' h₁ F N => h L' h₁ (fun h m F' => Below.push B F' hk) F N
end

/-- the body of the try has raised -/
def RaisedOk (s0 : Shared) (L : Addr) (e : Value) (s' : Shared) : Prop :=
  ∃ e1 X1 m a1 h' tk, e = .ref e1 ∧ (X1 = "TypeError" ∨ X1 = "ValueError") ∧ ExAt h' e1 X1 a1 .none .none .none (.bool false) .none ∧ s0.heap.get? e1 = none ∧ Fr s0.heap L h' m ∧ s' = { s0 with heap := h', toks := tk }

theorem RaisedOk.of_new {s0 : Shared} {L : Addr} {h h' : Heap} {tk : Nat} {e1 : Addr} {X1 : String} {m : Str → Option Value} (F : Fr s0.heap L h m) (x : Heap.NewExc h h' e1 X1) (hX : X1 = "TypeError" ∨ X1 = "ValueError") :
    RaisedOk s0 L (.ref e1) { s0 with heap := h', toks := tk } := by
  obtain ⟨ob, t, g1, g2, g3⟩ := x.there
  refine ⟨e1, X1, m, t, h', tk, rfl, hX, ⟨ob, g1, g2, g3⟩, ?_, F.keeps x.keeps, rfl⟩
  cases q : s0.heap.get? e1 with
  | none => rfl
  | some o => have := F.keep _ _ q; rw [x.new] at this; cases this

theorem RaisedOk.of_new' {s0 : Shared} {L : Addr} {h h0 h' : Heap} {tk : Nat} {e1 : Addr} {X1 : String} {m : Str → Option Value} (F : Fr s0.heap L h m) (x0 : Ext h h0) (x : Heap.NewExc h0 h' e1 X1) (hX : X1 = "TypeError" ∨ X1 = "ValueError") :
    RaisedOk s0 L (.ref e1) { s0 with heap := h', toks := tk } := RaisedOk.of_new (F.keeps x0) x hX

theorem assign_tuple_raise {prog : Program} {w : World} {A : Around} {E : Value → Shared → Prop} {s : Shared} {env : Env} {elts : List Expr} {k : Nat} {pos : Pos} {v : Value} {Q : Unit → Shared → Prop} (hn : (assignEach elts env).length = 2)
    (hstar : (assignEach elts env).findIdx? (·.1) = none) (h : ∀ Q' : List Value → Shared → Prop, wpAny (model prog w) A (unpackItems v 2 none) Q' E s) : wpAny (model prog w) A (assign (.Tuple elts k pos) env v) Q E s := by
  rw [assign_Tuple]
  refine wpAny_bind (wpAny_standAt ?_)
  unfold unpack
  rw [hn, hstar]
  exact wpAny_bind (wpAny_holding (h _))

/-- what _build_localename refuses -/
def Bad (h : Heap) (v : Value) : Prop := v = .none ∨ (∃ p a b c, v = .ref p ∧ h.IsList p #[a, b, c]) ∨ (∃ p a, v = .ref p ∧ IsTup h p #[a]) ∨ (∃ p x tx k tk, v = .ref p ∧ IsTup h p #[.str x tx, .int k tk] ∧ x.length ≤ 1000) ∨
  (∃ p k tk y ty, v = .ref p ∧ h.IsList p #[.int k tk, .str y ty]) ∨ (∃ p q a y ty, v = .ref p ∧ IsTup h p #[.ref q, .str y ty] ∧ IsTup h q #[a])

/-- what a call that is refused does -/
def CtrR (w : World) (mean : ExcName → Option Value) (mg mb : Str → Option Value) (v : Value) (Pre : Heap → Prop) : Prop :=
  ∀ (dp un : Nat) (gd : Option (List Code)) (outer : List Env) (base : Heap) (s : Shared) (Q E : Value → Shared → Prop),
    Below (AT dp un gd outer) base outer s.heap → (hd.heap_39 w.params).In base → Top hd.view_39 (looseW hd.view_39 []) mean mg mb base → dp + 2 < recursionLimit → un + 100 < cLine → Pre s.heap →
    (∀ h' e t T cx tk1 tk', ExAt h' e "TypeError" (.ref t) (.ref T) cx .none (.bool true) .none → TbAt h' T .none → h'.get? t = some { cls := .type "tuple", data := .seq #[.str wordsS tk1] } → T ≠ e →
      s.heap.get? e = none → s.heap.get? T = none → s.heap.get? t = none → Chg [] (outer.filterMap (·.frame)) s.heap h' → E (.ref e) { s with heap := h', toks := tk' }) →
    wpAny (model (PySem.Challenge.rw_pk0132_01.row.toRowW.prog) w) (AT dp un gd outer) (call (.ref 28) [v]) Q E s

theorem buildR (w : World) (mean : ExcName → Option Value) (mg mb : Str → Option Value) (v : Value) : CtrR w mean mg mb v (fun h => Bad h v) := by
  unfold CtrR
  k_fill
  intro dp un gd outer base s Q E B X0 T0 hd hu hbad hE
  have X := X0.keeps B.stays
  have T := T0.keeps B.stays
  k_dflt (refine' enterB (binds := [(Str.ofString "localetuple", v)]) ?k0 ?k1 ?k2 ?k3 ?k4 ?k5 ?k6 ?k7 ?k8 ?k9 ?k10 ?k11 ?_; walk_at "mine enteredB")
  intro L' h₁ hB F N
  refine wpAny_execs_cons (wpAny_Try_except (wpAny_mono (Q := fun _ _ => False) (E := RaisedOk s L') ?body (fun _ _ q => q.elim) ?handle))
  case handle =>
    rintro _ _ ⟨e1, X1, m, a1, h2, tk2, rfl, hX1, x1, x2, F2, rfl⟩
    have B2 := hB _ _ F2
    have heb : base.get? e1 = none := by
      cases q : base.get? e1 with
      | none => rfl
      | some o => have := B.stays _ _ q; rw [x2] at this; cases this
    k_dflt (refine' handler_part (dp := dp + 1) (un := un + 3) (base := base) (s := { s with heap := h2, toks := tk2 }) hX1 ?g1 B2.frames x1 heb X0 B2.stays T0 ?g6 ?g7 ?g8 ?g9 ?g10 ?g11 ?g12 ?_; (case g1 => exact rfl); (case g6 => k_is); (case g7 => k_is); (case g8 => exact rfl); (case g9 => exact rfl); (case g10 => exact rfl); (case g11 => exact rfl); (case g12 => exact rfl))
    intro h3 e2 t2 T2 tk1 tk3 y1 y2 y3 y4 y5 y6 y7 y8
    show wpAny _ _ (leaving _ (.ref e2)) _ _ _
    unfold leaving
    refine wpAny_bind (note_again rfl y1 y2 (set_flight y1 y2 y4 fun h4 z1 z2 z3 => ?_))
    have lt0 : ∀ b o, s.heap.get? b = some o → h2.get? b = some o := fun b o e => F2.keep b o e
    have nw : ∀ b, h2.get? b = none → s.heap.get? b = none := fun b hb => by
      cases q : s.heap.get? b with
      | none => rfl
      | some o => rw [lt0 _ _ q] at hb; cases hb
    have ne1 : ∀ b o, s.heap.get? b = some o → b ∉ [e1] := fun b o e m => by rw [List.mem_singleton.mp m, x2] at e; cases e
    have neT : ∀ b o, s.heap.get? b = some o → b ∉ [T2] := fun b o e m => by rw [List.mem_singleton.mp m, nw _ y6] at e; cases e
    have neL : ∀ b o, s.heap.get? b = some o → b ≠ L' := fun b o e => Nat.ne_of_lt (Nat.lt_of_lt_of_le (Heap.lt_size e) F2.above)
    have ht2T : t2 ∉ [T2] := fun m => by
      rw [List.mem_singleton.mp m] at y3
      obtain ⟨o, ts, g1, g2, _⟩ := y2
      rw [g1] at y3
      have q := congrArg Obj.data (Option.some.inj y3)
      rw [g2] at q; cases q
    refine hE h4 e2 t2 T2 _ tk1 _ z1 z2 ((z3 []).1 _ _ ht2T (by simp) y3) y4 (nw _ y5) (nw _ y6) (nw _ y7) ⟨fun b o _ h2' e => ?_, fun b o _ e => ?_⟩
    · have q1 := y8.1 b o (ne1 b o e) (fun m => by
        rcases List.mem_cons.mp m with rfl | m
        · exact neL _ _ e rfl
        · exact h2' m) (lt0 b o e)
      exact (z3 []).1 b o (neT b o e) (by simp) q1
    · obtain ⟨sl, q1⟩ := y8.2 b o (ne1 b o e) (lt0 b o e)
      obtain ⟨sl', q2⟩ := (z3 []).2 b _ (neT b o e) q1
      exact ⟨sl', q2⟩
  case body =>
    rcases hbad with rfl | ⟨p, a, b, c, rfl, hp⟩ | ⟨p, a, rfl, hp⟩ | ⟨p, x, tx, k, tk, rfl, hp, hxl⟩ | ⟨p, k, tk, y, ty, rfl, hp⟩ | ⟨p, q, a, y, ty, rfl, hp, hq⟩
    · k_steps
      refine assign_tuple_raise rfl rfl fun Q' => unpack_none rfl fun h' tk e hx => RaisedOk.of_new F hx (.inl rfl)
    · k_steps
      refine assign_tuple_raise rfl rfl fun Q' => unpack_three rfl (hp.at fun o e => F.keep _ o e) fun h0 h' tk e x0 hx => RaisedOk.of_new' F x0 hx (.inr rfl)
    · k_steps
      refine assign_tuple_raise rfl rfl fun Q' => unpack_one rfl (hp.keeps F.keep) fun h0 h' tk e x0 hx => RaisedOk.of_new' F x0 hx (.inr rfl)
    · have hT : IsTup h₁ p #[.str x tx, .int k tk] := hp.keeps F.keep
      k_steps
      exact add_str_int rfl fun h' tk e hx => RaisedOk.of_new (by assumption) hx (.inl rfl)
    · have hT : h₁.IsList p #[.int k tk, .str y ty] := hp.at fun o e => F.keep _ o e
      k_steps
      exact add_int_str rfl fun h' tk e hx => RaisedOk.of_new (by assumption) hx (.inl rfl)
    · have hT : IsTup h₁ p #[.ref q, .str y ty] := hp.keeps F.keep
      k_steps
      exact add_tup_str rfl (hq.keeps (Fr.keep (by assumption))) fun h' tk e hx => RaisedOk.of_new (by assumption) hx (.inl rfl)
end Mine

namespace Mine
theorem quiet_C10 : True := by w_top off; exact trivial
set_option maxRecDepth 100000
set_option maxHeartbeats 8000000
local macro_rules | `(tactic| walk_at "mine enteredB") => `(tactic| ((case k0 => assumption); (case k1 => assumption); (case k2 => assumption); (case k3 => k_is); (case k4 => k_is); (case k5 => omega); (case k6 => exact BindsTo.of_eq rfl); (case k7 => exact locs rfl); (case k8 => exact rfl); (case k9 => exact rfl); (case k10 => exact rfl); (case k11 => decide); k_whole))

theorem ns_chg {S fr : List Addr} {h h' : Heap} {L : Addr} {m : Str → Option Value} (x : h.Ns L m) (c : Chg S fr h h') (hL : L ∉ S) : h'.Ns L m := by
  obtain ⟨o, es, ep, ho, hd, hk, hm⟩ := x
  obtain ⟨sl, e⟩ := c.2 L o hL ho
  exact ⟨_, es, ep, e, hd, hk, hm⟩
theorem Chg.of_same {L : Addr} {fr : List Addr} {h h' : Heap} (x : Heap.SameBut L h h') : Chg [L] fr h h' :=
  ⟨fun b o h1 _ e => (x.2 b (fun q => h1 (List.mem_singleton.mpr q))).trans e, fun b o h1 e => ⟨o.slots, (x.2 b (fun q => h1 (List.mem_singleton.mpr q))).trans e⟩⟩

section
variable {w : World} {mean : ExcName → Option Value} {mg mb : Str → Option Value} {dp un : Nat} {gd : Option (List Code)} {outer : List Env} {base : Heap} {s : Shared} {E : Value → Shared → Prop} {env : Env} {L : Addr}

/-- what the clause of _law_refusal does with what flies -/
theorem refuse_part {e T t : Addr} {cx : Value} {tk1 : Tok} {m : Str → Option Value} {p1 np ep cp rpos hpos : Pos} {Q : Flow → Shared → Prop}
    (hf : env.frame = some L) (hlo : env.locals = L) (hn : s.heap.Ns L m) (hl : s.heap.FunFrames base (env :: outer)) (he : ExAt s.heap e "TypeError" (.ref t) (.ref T) cx .none (.bool true) .none) (ht : TbAt s.heap T .none)
    (htt : s.heap.get? t = some { cls := .type "tuple", data := .seq #[.str wordsS tk1] }) (hTe : T ≠ e)
    (hLe : L ≠ e) (hLT : L ≠ T) (hLt : L ≠ t) (htf : t ∉ outer.filterMap (·.frame))
    (heb : base.get? e = none) (hTb : base.get? T = none) (hLb : base.get? L = none) (hX0 : (hd.heap_39 w.params).In base) (hbs : base.StaysIn s.heap)
    (hT0 : Top hd.view_39 (looseW hd.view_39 []) mean mg mb base)
    (hK1 : nsIn (hd.heap_39 w.params) mainGlobals (Str.ofString "TypeError") = some none) (hK2 : nsIn (hd.heap_39 w.params) mainGlobals (Str.ofString "str") = some none)
    (hg : env.globals = mainGlobals) (hbn : env.builtins = builtinsNs) (hk : env.scope.kind = .function) (hx1 : env.kindOf (Str.ofString "TypeError") = some .globalImplicit) (hx2 : env.kindOf (Str.ofString "str") = some .globalImplicit) (hx3 : env.kindOf (Str.ofString "error") = some .local)
    (hu : un + 2 < cLine)
    (hQ : ∀ h' tk', Chg [e, T, L] (outer.filterMap (·.frame)) s.heap h' → Q (.ret (.str wordsS tk1)) { s with heap := h', toks := tk' }) :
    wpAny (model (PySem.Challenge.rw_pk0132_01.row.toRowW.prog) w) (AT dp un gd (env :: outer)) (noteFrame (.ref e) env) (fun _ s₂ => wpAny (model (PySem.Challenge.rw_pk0132_01.row.toRowW.prog) w) (AT dp un gd (env :: outer)) (setFlight (.ref e) none)
      (fun _ s₃ => wpAny (model (PySem.Challenge.rw_pk0132_01.row.toRowW.prog) w) (AT dp un gd (env :: outer)) (handleBy (.ref e) env [.ExceptHandler (some (.Name (Str.ofString "TypeError") p1)) (some (Str.ofString "error"))
        [.Return (some (.Call (.Name (Str.ofString "str") np) [.Name (Str.ofString "error") ep] [] cp)) rpos] hpos]) Q E s₃) E s₂) E s := by
  have hfm : (env :: outer).filterMap (·.frame) = L :: outer.filterMap (·.frame) := by simp [hf]
  refine note_next rfl hl hf he ht hTe fun h1 T1 y1 y2 y3 y4 y5 => ?_
  refine set_flight y1 y2 y4 fun h2 z1 z2 z3 => ?_
  rw [hfm] at y5
  have hT1b : base.get? T1 = none := by
    cases q : base.get? T1 with
    | none => rfl
    | some o => rw [hbs _ _ q] at y3; cases y3
  have fb : ∀ b o, base.get? b = some o → b ∉ L :: outer.filterMap (·.frame) := fun b o hb mm => by
    rw [← hfm] at mm
    rw [(hl.mem mm).1] at hb; cases hb
  have hbs1 : base.StaysIn h1 := fun b o hb => y5.1 b o (fun mm => by
    rcases List.mem_cons.mp mm with q | q
    · rw [q, heb] at hb; cases hb
    · rw [List.mem_singleton.mp q, hTb] at hb; cases hb) (fb b o hb) (hbs b o hb)
  have hbs2 : base.StaysIn h2 := fun b o hb => (z3 []).1 b o (fun mm => by rw [List.mem_singleton.mp mm, hT1b] at hb; cases hb) (by simp) (hbs1 b o hb)
  have X2 := hX0.keeps hbs2
  have T2 := hT0.keeps hbs2
  have hTE : Str.ofString "TypeError" ≠ Str.ofString "__name__" := by decide
  have hSE : Str.ofString "str" ≠ Str.ofString "__name__" := by decide
  have bT : bootBuiltins (Str.ofString "TypeError") = some (.type "TypeError") := by decide +kernel
  have bS : bootBuiltins (Str.ofString "str") = some (.type "str") := by decide +kernel
  refine wpAny_handleBy_builtin_as (T := "TypeError") (X := "TypeError") (b := true) (isSubtype_of_subB (by decide +kernel)) (isSubtype_of_subB (by decide +kernel)) (isSubtype_of_subB (by decide +kernel)) ?_
  refine nm_blt X2 T2 hK1 bT hTE hg hbn hk hx1 (by decide) ⟨rfl, ?_, ?_⟩
  · obtain ⟨o, g1, g2, _⟩ := z1
    exact ⟨o, g1, g2⟩
  rw [if_pos rfl]
  refine set_flight z1 z2 y4 fun h3 v1 v2 v3 => ?_
  have hT1L : L ≠ T1 := by
    rintro rfl
    obtain ⟨o, es, ep, ho, _⟩ := hn
    rw [y3] at ho; cases ho
  have cA : Chg [e, T, T1] (L :: outer.filterMap (·.frame)) s.heap h3 := ((y5.mono (by simp)).trans ((z3 _).mono (by simp))).trans ((v3 _).mono (by simp))
  have hn3 : h3.Ns env.locals m := by
    rw [hlo]
    exact ns_chg hn cA (by simp; exact ⟨hLe, hLT, hT1L⟩)
  have hp : (env.scope.kind == .class || (env.scope.kind == .module && env.locals != env.globals)) = false := by rw [hk]; rfl
  refine wpAny_storeName_local hx3 hn3 (fun h4 hn4 hs4 => ?_) hp
  have cB : Chg [e, T, T1, L] (L :: outer.filterMap (·.frame)) s.heap h4 := (cA.mono (by simp)).trans ((Chg.of_same (hlo ▸ hs4)).mono (by simp))
  have hbs4 : base.StaysIn h4 := fun b o hb => cB.1 b o (fun mm => by
    simp only [List.mem_cons, List.not_mem_nil, or_false] at mm
    rcases mm with rfl | rfl | rfl | rfl
    · rw [heb] at hb; cases hb
    · rw [hTb] at hb; cases hb
    · rw [hT1b] at hb; cases hb
    · rw [hLb] at hb; cases hb) (fb b o hb) (hbs b o hb)
  have X4 := hX0.keeps hbs4
  have T4 := hT0.keeps hbs4
  have v1' : ExAt h4 e "TypeError" (.ref t) (.ref T1) cx .none (.bool true) .none := v1.chg (Chg.of_same (fr := []) (hlo ▸ hs4)) (by simp; exact fun q => hLe q.symm)
  have htT1 : t ≠ T1 := by rintro rfl; rw [y3] at htt; cases htt
  have hte : t ≠ e := by
    rintro rfl
    obtain ⟨o, g1, _, g3⟩ := he
    rw [htt] at g1; cases g1; cases g3
  have htT : t ≠ T := by
    rintro rfl
    obtain ⟨o, ts, g1, g3, _⟩ := ht
    rw [htt] at g1; cases g1; cases g3
  have htt4 : h4.get? t = some { cls := .type "tuple", data := .seq #[.str wordsS tk1] } := cB.1 t _ (by simp; exact ⟨hte, htT, htT1, fun q => hLt q.symm⟩) (by simp; exact ⟨fun q => hLt q.symm, fun a ha q => htf (List.mem_filterMap.mpr ⟨a, ha, q⟩)⟩) htt
  refine wpAny_execs_cons (wpAny_Return_some (Call_ (nm_blt X4 T4 hK2 bS hSE hg hbn hk hx2 (by decide) (PyProof.Rows.callWith_type1 (args_cons (nm_loc hn4 (v := .ref e) (by simp) hk hx3 (by decide) (args_nil ?_)))))))
  refine PySem.P.str_of_exc_one PySem.F.excStr_TypeError (show un + 2 < cLine from hu) (t0 := t) (m := wordsS) (tk := tk1) ?_ ?_ ?_
  · obtain ⟨o, g1, g2, g3⟩ := v1'
    exact ⟨o, _, g1, g2, g3, rfl⟩
  · exact ⟨_, 0, htt4, rfl, rfl⟩
  show wpAny _ _ (do bindName env _ .none; unbindBehindTheSuite env _ _) _ _ _
  refine wpAny_nameGoes hx3 hn4 hp fun h5 m5 hn5 hs5 => ?_
  have cC : Chg [e, T, T1, L] (L :: outer.filterMap (·.frame)) s.heap h5 := cB.trans ((Chg.of_same (hlo ▸ hs5)).mono (by simp))
  refine hQ h5 _ ⟨fun b o q1 q2 q3 => cC.1 b o ?_ ?_ q3, fun b o q1 q3 => cC.2 b o ?_ q3⟩
  · simp only [List.mem_cons, List.not_mem_nil, or_false, not_or] at q1 ⊢
    exact ⟨q1.1, q1.2.1, (fun q => by rw [q, y3] at q3; cases q3), q1.2.2⟩
  · simp only [List.mem_cons, List.not_mem_nil, or_false, not_or] at q1
    exact fun q => by
      rcases List.mem_cons.mp q with q | q
      · exact q1.2.2 q
      · exact q2 q
  · simp only [List.mem_cons, List.not_mem_nil, or_false, not_or] at q1 ⊢
    exact ⟨q1.1, q1.2.1, (fun q => by rw [q, y3] at q3; cases q3), q1.2.2⟩
end

/-- what a call of _law_refusal with a refused thing does -/
def CtrW (w : World) (mean : ExcName → Option Value) (mg mb : Str → Option Value) (v : Value) : Prop :=
  ∀ (dp un : Nat) (gd : Option (List Code)) (outer : List Env) (base : Heap) (s : Shared) (Q E : Value → Shared → Prop),
    Below (AT dp un gd outer) base outer s.heap → (hd.heap_39 w.params).In base → Top hd.view_39 (looseW hd.view_39 []) mean mg mb base → dp + 4 < recursionLimit → un + 200 < cLine → Bad s.heap v →
    (∀ h' tk1 tk', Chg [] (outer.filterMap (·.frame)) s.heap h' → Q (.str wordsS tk1) { s with heap := h', toks := tk' }) →
    wpAny (model (PySem.Challenge.rw_pk0132_01.row.toRowW.prog) w) (AT dp un gd outer) (call (.ref 73) [v]) Q E s

theorem Bad.keeps {h h' : Heap} {v : Value} (b : Bad h v) (x : Ext h h') : Bad h' v := by
  rcases b with rfl | ⟨p, a, b, c, rfl, hp⟩ | ⟨p, a, rfl, hp⟩ | ⟨p, y, tx, k, tk, rfl, hp, hxl⟩ | ⟨p, k, tk, y, ty, rfl, hp⟩ | ⟨p, q, a, y, ty, rfl, hp, hq⟩
  · exact .inl rfl
  · exact .inr (.inl ⟨p, a, b, c, rfl, hp.at fun o e => x _ o e⟩)
  · exact .inr (.inr (.inl ⟨p, a, rfl, hp.keeps x⟩))
  · exact .inr (.inr (.inr (.inl ⟨p, y, tx, k, tk, rfl, hp.keeps x, hxl⟩)))
  · exact .inr (.inr (.inr (.inr (.inl ⟨p, k, tk, y, ty, rfl, hp.at fun o e => x _ o e⟩))))
  · exact .inr (.inr (.inr (.inr (.inr ⟨p, q, a, y, ty, rfl, hp.keeps x, hq.keeps x⟩))))

theorem refusal_c (w : World) (mean : ExcName → Option Value) (mg mb : Str → Option Value) (v : Value) : CtrW w mean mg mb v := by
  unfold CtrW
  k_fill
  intro dp un gd outer base s Q E B X0 T0 hd hu hbad hQ
  have X := X0.keeps B.stays
  have T := T0.keeps B.stays
  k_dflt (refine' enterB (binds := [(Str.ofString "things", v)]) ?k0 ?k1 ?k2 ?k3 ?k4 ?k5 ?k6 ?k7 ?k8 ?k9 ?k10 ?k11 ?_; walk_at "mine enteredB")
  intro L' h₁ hB F N
  refine wpAny_execs_cons (wpAny_Try_except ?_)
  refine wpAny_execs_cons (wpAny_Expr_any ?_)
  have X1 := X.keeps F.keep
  have T1 := T.keeps F.keep
  have B1 := hB _ _ F
  k_dflt (refine' call_def X1 T1 ?k1 ?k2 ?k3 ?k4 ?k5 ?k6 ?k7 ?k8 ?_; (case k1 => k_is); (case k2 => k_is); (case k3 => exact rfl); (case k4 => exact rfl); (case k5 => exact rfl); (case k6 => decide); (case k7 => exact rfl); (case k8 => exact rfl))
  refine args_cons (nm_loc F.ns (v := v) (by simp) rfl rfl (by decide) (args_nil ⟨Ext.refl _, ?_⟩))
  refine buildR w mean mg mb v (dp + 1) (un + 3) gd _ base _ _ _ B1 X0 T0 (by omega) (by omega) (hbad.keeps F.keep) ?_
  intro h2 e t T2 cx tk1 tk2 y1 y2 y3 y4 y5 y6 y7 y8
  have hLs : ∃ o, h₁.get? L' = some o := let ⟨o, _, _, ho, _⟩ := F.ns; ⟨o, ho⟩
  have ne : ∀ b, h₁.get? b = none → L' ≠ b := fun b hb q => by
    obtain ⟨o, ho⟩ := hLs
    rw [q, hb] at ho; cases ho
  have bn : ∀ b, h₁.get? b = none → base.get? b = none := fun b hb => by
    cases q : base.get? b with
    | none => rfl
    | some o => rw [B1.stays _ _ q] at hb; cases hb
  have fb : ∀ b o, base.get? b = some o → b ∉ (envOf _ _ L' _ _ :: outer).filterMap (·.frame) := fun b o hb mm => by
    rw [(B1.frames.mem mm).1] at hb; cases hb
  have hbs2 : base.StaysIn h2 := fun b o hb => y8.1 b o (by simp) (fb b o hb) (B1.stays b o hb)
  have hl2 := funFrames_chg B1.frames y8 (by simp)
  have hLb : base.get? L' = none := by
    cases q : base.get? L' with
    | none => rfl
    | some o => exact absurd rfl (Nat.ne_of_lt (Nat.lt_of_lt_of_le (Heap.lt_size (B.stays _ _ q)) F.above))
  have htf : t ∉ outer.filterMap (·.frame) := fun mm => by
    obtain ⟨_, o, ho, _⟩ := B1.frames.mem (b := t) (by rw [List.filterMap_cons]; exact List.mem_cons_of_mem _ mm)
    rw [y7] at ho; cases ho
  k_dflt (refine' refuse_part (dp := dp + 1) (un := un + 3) (base := base) (s := { s with heap := h2, toks := tk2 }) (L := L') ?g1 ?g2 (ns_chg F.ns y8 (by simp)) hl2 y1 y2 y3 y4 (ne _ y5) (ne _ y6) (ne _ y7) htf (bn _ y5) (bn _ y6) hLb X0 hbs2 T0 ?g6 ?g7 ?g8 ?g9 ?g10 ?g11 ?g12 ?g13 ?g14 ?_; (case g1 => exact rfl); (case g2 => exact rfl); (case g6 => k_is); (case g7 => k_is); (case g8 => exact rfl); (case g9 => exact rfl); (case g10 => exact rfl); (case g11 => exact rfl); (case g12 => exact rfl); (case g13 => exact rfl); (case g14 => omega))
  intro h3 tk3 c3
  have nw : ∀ b, h₁.get? b = none → s.heap.get? b = none := fun b hb => by
    cases q : s.heap.get? b with
    | none => rfl
    | some o => rw [F.keep _ _ q] at hb; cases hb
  have neL : ∀ b o, s.heap.get? b = some o → b ≠ L' := fun b o e => Nat.ne_of_lt (Nat.lt_of_lt_of_le (Heap.lt_size e) F.above)
  have nin : ∀ b o, s.heap.get? b = some o → b ∉ [e, T2, L'] := fun b o q mm => by
    simp only [List.mem_cons, List.not_mem_nil, or_false] at mm
    rcases mm with rfl | rfl | rfl
    · rw [nw _ y5] at q; cases q
    · rw [nw _ y6] at q; cases q
    · exact neL _ _ q rfl
  refine hQ h3 tk1 tk3 ⟨fun b o _ q2 q3 => c3.1 b o (nin b o q3) q2 (y8.1 b o (by simp) (fun mm => ?_) (F.keep b o q3)), fun b o _ q3 => ?_⟩
  · rcases List.mem_cons.mp mm with q | q
    · exact neL _ _ q3 q
    · exact q2 q
  · obtain ⟨sl, q4⟩ := y8.2 b o (by simp) (F.keep b o q3)
    obtain ⟨sl', q5⟩ := c3.2 b _ (nin b o q3) q4
    exact ⟨sl', q5⟩
end Mine

open PySem
namespace Mine

/-- a word as a number -/
def val (K : Nat) : List Nat → Nat
  | [] => 0
  | c :: r => c * K ^ r.length + val K r
theorem val_append (K : Nat) : ∀ u v : List Nat, val K (u ++ v) = val K u * K ^ v.length + val K v
  | [], v => by simp [val]
  | c :: r, v => by
    show c * K ^ (r ++ v).length + val K (r ++ v) = _
    rw [val_append K r v, List.length_append, Nat.pow_add]
    show _ = (c * K ^ r.length + val K r) * K ^ v.length + val K v
    rw [Nat.add_mul, Nat.mul_assoc]; omega
theorem val_lt {K : Nat} : ∀ u : List Nat, (∀ c ∈ u, c < K) → val K u < K ^ u.length
  | [], _ => by simp [val]
  | c :: r, h => by
    have h1 := val_lt r fun d hd => h d (.tail _ hd)
    have h2 := h c (.head _)
    show c * K ^ r.length + val K r < K ^ (r.length + 1)
    have h3 : (c + 1) * K ^ r.length ≤ K * K ^ r.length := Nat.mul_le_mul_right _ h2
    rw [Nat.add_mul, Nat.one_mul] at h3
    rw [Nat.pow_succ, Nat.mul_comm (K ^ r.length) K]
    omega
theorem val_less {K : Nat} : ∀ u v : List Nat, (∀ c ∈ u, c < K) → (∀ c ∈ v, c < K) → u.length = v.length → (u < v ↔ val K u < val K v)
  | [], [], _, _, _ => by simp [val]
  | [], _ :: _, _, _, h => by simp at h
  | _ :: _, [], _, _, h => by simp at h
  | a :: r, b :: t, hu, hv, h => by
    have hl : r.length = t.length := by simpa using h
    have ih := val_less r t (fun d hd => hu d (.tail _ hd)) (fun d hd => hv d (.tail _ hd)) hl
    have h1 := val_lt r fun d hd => hu d (.tail _ hd)
    have h2 := val_lt t fun d hd => hv d (.tail _ hd)
    rw [List.cons_lt_cons_iff, ih]
    show _ ↔ a * K ^ r.length + val K r < b * K ^ t.length + val K t
    rw [← hl] at h2 ⊢
    rcases Nat.lt_trichotomy a b with q | q | q
    · have h3 : (a + 1) * K ^ r.length ≤ b * K ^ r.length := Nat.mul_le_mul_right _ q
      rw [Nat.add_mul, Nat.one_mul] at h3
      constructor
      · intro _; omega
      · intro _; exact .inl q
    · subst q
      constructor
      · rintro (q | ⟨_, q⟩)
        · omega
        · omega
      · intro q; exact .inr ⟨rfl, by omega⟩
    · have h3 : (b + 1) * K ^ r.length ≤ a * K ^ r.length := Nat.mul_le_mul_right _ q
      rw [Nat.add_mul, Nat.one_mul] at h3
      constructor
      · rintro (q | ⟨q, _⟩) <;> omega
      · intro _; omega

/-- the first may stand ahead of the second -/
def ahead (A B : List Nat) : Prop := ¬ B ++ A < A ++ B
theorem ahead_iff {K : Nat} {A B : List Nat} (hA : ∀ c ∈ A, c < K) (hB : ∀ c ∈ B, c < K) : ahead A B ↔ val K A * (K ^ B.length - 1) ≤ val K B * (K ^ A.length - 1) := by
  unfold ahead
  have hm : ∀ c ∈ B ++ A, c < K := fun c hc => (List.mem_append.mp hc).elim (hB c) (hA c)
  have hm' : ∀ c ∈ A ++ B, c < K := fun c hc => (List.mem_append.mp hc).elim (hA c) (hB c)
  rw [val_less _ _ hm hm' (by simp [Nat.add_comm]), val_append, val_append]
  have h1 := val_lt A hA
  have h2 := val_lt B hB
  rw [Nat.mul_sub, Nat.mul_sub, Nat.mul_one, Nat.mul_one]
  have h3 : val K A * 1 ≤ val K A * K ^ B.length := Nat.mul_le_mul_left _ (by omega)
  have h4 : val K B * 1 ≤ val K B * K ^ A.length := Nat.mul_le_mul_left _ (by omega)
  omega
theorem ahead_trans {K : Nat} {A B C : List Nat} (hK : 2 ≤ K) (hA : ∀ c ∈ A, c < K) (hB : ∀ c ∈ B, c < K) (hC : ∀ c ∈ C, c < K) (nB : B ≠ []) (x : ahead A B) (y : ahead B C) : ahead A C := by
  rw [ahead_iff hA hB] at x
  rw [ahead_iff hB hC] at y
  rw [ahead_iff hA hC]
  have hb : 1 < K ^ B.length := Nat.one_lt_pow (fun q => nB (List.length_eq_zero_iff.mp q)) hK
  generalize val K A = a at *
  generalize val K B = b at *
  generalize val K C = c at *
  generalize K ^ A.length - 1 = p at *
  generalize hq : K ^ B.length - 1 = q at *
  generalize K ^ C.length - 1 = r at *
  have hq0 : 0 < q := by omega
  refine Nat.le_of_mul_le_mul_left ?_ hq0
  calc q * (a * r) = (a * q) * r := by rw [← Nat.mul_assoc, Nat.mul_comm q a]
    _ ≤ (b * p) * r := Nat.mul_le_mul_right _ x
    _ = (b * r) * p := by rw [Nat.mul_assoc, Nat.mul_comm p r, ← Nat.mul_assoc]
    _ ≤ (c * q) * p := Nat.mul_le_mul_right _ y
    _ = q * (c * p) := by rw [Nat.mul_comm c q, Nat.mul_assoc]

/-- of equal lengths: what stands behind and ahead is no matter -/
theorem lt_pre : ∀ (p u v : List Nat), p ++ u < p ++ v ↔ u < v
  | [], u, v => by simp
  | c :: r, u, v => by
    rw [List.cons_append, List.cons_append, List.cons_lt_cons_iff, lt_pre r u v]
    constructor
    · rintro (q | ⟨_, q⟩)
      · omega
      · exact q
    · exact fun q => .inr ⟨rfl, q⟩
theorem lt_suf : ∀ (u v t : List Nat), u.length = v.length → (u ++ t < v ++ t ↔ u < v)
  | [], [], t, _ => by simp [List.lt_irrefl]
  | [], _ :: _, _, h => by simp at h
  | _ :: _, [], _, h => by simp at h
  | a :: r, b :: s, t, h => by
    rw [List.cons_append, List.cons_append, List.cons_lt_cons_iff, List.cons_lt_cons_iff, lt_suf r s t (by simpa using h)]
theorem lt_mid (p u v t : List Nat) (h : u.length = v.length) : p ++ u ++ t < p ++ v ++ t ↔ u < v := by
  rw [lt_suf _ _ _ (by simp [h]), lt_pre]
end Mine

open PySem
namespace Mine

section
variable {α β : Type}
/-- a row in order is best among its orders -/
theorem shift_best {R : α → α → Prop} {le : β → β → Prop} {f : List α → β} (hr : ∀ b, le b b) (ht : ∀ a b c, le a b → le b c → le a c)
    (hsw : ∀ P S x y, R x y → le (f (P ++ x :: y :: S)) (f (P ++ y :: x :: S))) (x : α) : ∀ (l P S : List α), (∀ y ∈ l, R x y) → le (f (P ++ x :: (l ++ S))) (f (P ++ (l ++ x :: S)))
  | [], P, S, _ => hr _
  | y :: r, P, S, h => by
    have h1 := hsw P (r ++ S) x y (h y (.head _))
    have h2 := shift_best hr ht hsw x r (P ++ [y]) S fun z hz => h z (.tail _ hz)
    simp only [List.append_assoc, List.singleton_append] at h2
    exact ht _ _ _ h1 h2
theorem best {R : α → α → Prop} {le : β → β → Prop} {f : List α → β} (hr : ∀ b, le b b) (ht : ∀ a b c, le a b → le b c → le a c)
    (hsw : ∀ P S x y, R x y → le (f (P ++ x :: y :: S)) (f (P ++ y :: x :: S))) : ∀ (row l P : List α), row.Pairwise R → l.Perm row → le (f (P ++ row)) (f (P ++ l))
  | [], l, P, _, h => by rw [h.eq_nil]; exact hr _
  | x :: rest, l, P, hp, h => by
    obtain ⟨l1, l2, rfl⟩ := List.append_of_mem (h.mem_iff.mpr (.head _))
    have h1 : (l1 ++ l2).Perm rest := by
      have := (List.perm_middle (a := x) (l₁ := l1) (l₂ := l2)).symm.trans h
      exact List.Perm.cons_inv this
    have hx : ∀ {y}, y ∈ rest → R x y := fun {y} hy => List.rel_of_pairwise_cons hp hy
    have h2 := best hr ht hsw rest (l1 ++ l2) (P ++ [x]) hp.of_cons h1
    simp only [List.append_assoc, List.singleton_append] at h2
    exact ht _ _ _ h2 (shift_best hr ht hsw x l1 P l2 fun y hy => hx (h1.mem_iff.mp (List.mem_append_left _ hy)))
end

/-- in a rising row the ones stand last -/
theorem ones_last : ∀ (l : List Int), l.Pairwise (· ≤ ·) → (∀ z ∈ l, z ≤ 1) → (∀ z ∈ l.take (l.length - l.count 1), z ≤ 0) ∧ ∀ z ∈ l.drop (l.length - l.count 1), z = 1
  | [], _, _ => by simp
  | a :: r, hp, h => by
    have ih := ones_last r hp.of_cons fun z hz => h z (.tail _ hz)
    have hc : r.count 1 ≤ r.length := List.count_le_length
    by_cases ha : a = 1
    · have hall : ∀ z ∈ a :: r, z = 1 := fun z hz => by
        rcases List.mem_cons.mp hz with rfl | hz
        · exact ha
        · have h1 := List.rel_of_pairwise_cons hp hz
          have h2 := h z (.tail _ hz)
          omega
      have hcc : (a :: r).count 1 = (a :: r).length := List.count_eq_length.mpr fun b hb => (hall b hb).symm
      rw [hcc, Nat.sub_self]
      exact ⟨by simp, by simpa using hall⟩
    · have hcc : (a :: r).count 1 = r.count 1 := by rw [List.count_cons, if_neg (by simpa using ha)]; rfl
      have hk : (a :: r).length - (a :: r).count 1 = (r.length - r.count 1) + 1 := by rw [hcc, List.length_cons]; omega
      rw [hk, List.take_succ_cons, List.drop_succ_cons]
      refine ⟨fun z hz => ?_, ih.2⟩
      rcases List.mem_cons.mp hz with rfl | hz
      · have := h z (.head _); omega
      · exact ih.1 z hz

section
variable {p : Bool} {R : Str → Str → Prop} {ok : Str → Prop}
/-- what cmpS must be like -/
structure Order (p : Bool) (ok : Str → Prop) : Prop where
  swap : ∀ a b, cmpS p b a = - cmpS p a b
  le1 : ∀ a b, cmpS p a b ≤ 1
  three : ∀ a b, cmpS p a b = -1 ∨ cmpS p a b = 0 ∨ cmpS p a b = 1
  trans : ∀ a b c, ok a → ok b → ok c → cmpS p a b ≤ 0 → cmpS p b c ≤ 0 → cmpS p a c ≤ 0

theorem up_of_sorted (O : Order p ok) {row : List Str} {x : Str} (hr : ∀ a ∈ row, ok a) (hx : ok x) (hs : row.Pairwise fun a b => cmpS p a b ≤ 0) : (row.map (cmpS p · x)).Pairwise (· ≤ ·) := by
  rw [List.pairwise_map]
  refine List.Pairwise.imp_of_mem (fun {a b} ha hb hab => ?_) hs
  have o1 := hr a ha
  have o2 := hr b hb
  rcases O.three a x with q | q | q
  · rcases O.three b x with q' | q' | q' <;> omega
  · have h1 : cmpS p x a ≤ 0 := by rw [O.swap a x]; omega
    have h2 := O.trans x a b hx o1 o2 h1 hab
    rw [O.swap b x] at h2
    omega
  · rcases O.three b x with q' | q' | q'
    · have := O.trans a b x o1 o2 hx hab (by omega); omega
    · have := O.trans a b x o1 o2 hx hab (by omega); omega
    · omega
theorem step_sorted (O : Order p ok) {row : List Str} {x : Str} (hr : ∀ a ∈ row, ok a) (hx : ok x) (hs : row.Pairwise fun a b => cmpS p a b ≤ 0) : (laidStep p row x).Pairwise fun a b => cmpS p a b ≤ 0 := by
  have hu := up_of_sorted O hr hx hs
  have hl := ones_last _ hu (by intro z hz; obtain ⟨a, _, rfl⟩ := List.mem_map.mp hz; exact O.le1 a x)
  rw [List.length_map] at hl
  unfold laidStep
  generalize row.length - (row.map (cmpS p · x)).count 1 = k at hl ⊢
  rw [← List.map_take, ← List.map_drop] at hl
  have ht : ∀ a ∈ row.take k, cmpS p a x ≤ 0 := fun a ha => hl.1 _ (List.mem_map_of_mem ha)
  have hd : ∀ a ∈ row.drop k, cmpS p x a ≤ 0 := fun a ha => by
    have := hl.2 _ (List.mem_map_of_mem (f := (cmpS p · x)) ha)
    rw [O.swap a x]; omega
  have hb : (row.take k ++ row.drop k).Pairwise fun a b => cmpS p a b ≤ 0 := by rw [List.take_append_drop]; exact hs
  rw [List.pairwise_append] at hb
  rw [List.append_assoc, List.pairwise_append]
  refine ⟨hb.1, ?_, ?_⟩
  · rw [List.singleton_append, List.pairwise_cons]
    exact ⟨hd, hb.2.1⟩
  · intro a ha b hb'
    rw [List.singleton_append] at hb'
    rcases List.mem_cons.mp hb' with rfl | hb'
    · exact ht a ha
    · exact hb.2.2 a ha b hb'
theorem laid_sorted (O : Order p ok) : ∀ (ns row : List Str), (∀ a ∈ ns, ok a) → (∀ a ∈ row, ok a) → row.Pairwise (fun a b => cmpS p a b ≤ 0) → (ns.foldl (laidStep p) row).Pairwise fun a b => cmpS p a b ≤ 0
  | [], row, _, _, h => h
  | x :: r, row, hn, hr, h => by
    refine laid_sorted O r _ (fun a ha => hn a (.tail _ ha)) (fun a ha => ?_) (step_sorted O hr (hn x (.head _)) h)
    rcases List.mem_cons.mp ((laidStep_perm p row x).mem_iff.mp ha) with rfl | ha
    · exact hn _ (.head _)
    · exact hr a ha
theorem laidOf_sorted (O : Order p ok) {ns : List Str} (hn : ∀ a ∈ ns, ok a) : (laidOf p ns).Pairwise fun a b => cmpS p a b ≤ 0 := laid_sorted O ns [] hn (by simp) .nil
theorem laid_up (O : Order p ok) {ns : List Str} (hn : ∀ a ∈ ns, ok a) : ∀ i x, ns[i]? = some x → ((laidOf p (ns.take i)).map (cmpS p · x)).Pairwise (· ≤ ·) := fun i x hi => by
  have ht : ∀ a ∈ ns.take i, ok a := fun a ha => hn a (List.mem_of_mem_take ha)
  exact up_of_sorted O (fun a ha => ht a ((laidOf_perm p _).mem_iff.mp ha)) (hn x (List.mem_of_getElem? hi)) (laidOf_sorted O ht)
end

/-- all orders are there, and nothing else -/
theorem lays_perm (x : Str) (one : List Str) (k : Nat) : (lays x one k).Perm (x :: one) := by
  unfold lays
  rw [List.append_assoc]
  refine (List.perm_append_comm_assoc _ _ _).trans ?_
  rw [List.take_append_drop]
  exact List.Perm.refl _
theorem orders_snoc (ns : List Str) (x : Str) : ordersOf (ns ++ [x]) = (ordersOf ns).flatMap (laysAll x) := by unfold ordersOf; rw [List.foldl_append]; rfl
theorem orders_iff_rev : ∀ (rs l : List Str), l ∈ ordersOf rs.reverse ↔ l.Perm rs
  | [], l => by
    show l ∈ [[]] ↔ _
    rw [List.mem_singleton]
    exact List.perm_nil.symm
  | x :: r, l => by
    rw [List.reverse_cons, orders_snoc, List.mem_flatMap]
    constructor
    · rintro ⟨one, h1, h2⟩
      unfold laysAll at h2
      obtain ⟨k, _, rfl⟩ := List.mem_map.mp h2
      exact (lays_perm x one k).trans (((orders_iff_rev r one).mp h1).cons x)
    · intro h
      obtain ⟨l1, l2, rfl⟩ := List.append_of_mem (h.mem_iff.mpr (.head _))
      have h1 : (l1 ++ l2).Perm r := List.Perm.cons_inv ((List.perm_middle (a := x) (l₁ := l1) (l₂ := l2)).symm.trans h)
      refine ⟨l1 ++ l2, (orders_iff_rev r _).mpr h1, ?_⟩
      unfold laysAll
      refine List.mem_map.mpr ⟨l1.length, ?_, ?_⟩
      · rw [List.mem_range]; simp; omega
      · unfold lays; simp
theorem orders_iff (ns l : List Str) : l ∈ ordersOf ns ↔ l.Perm ns := by
  have := orders_iff_rev ns.reverse l
  rw [List.reverse_reverse] at this
  exact this.trans ⟨fun h => h.trans (List.reverse_perm ns), fun h => h.trans (List.reverse_perm ns).symm⟩
end Mine

namespace Mine

abbrev cp (x : Str) : List Nat := x.cps.toList
theorem cp_app (a b : Str) : cp (a ++ b) = cp a ++ cp b := by
  show (a.cps ++ b.cps).toList = _
  rw [Array.toList_append]
theorem cp_dot : cp (Str.ofString ".") = [46] := by decide
theorem cp_inj {a b : Str} (h : cp a = cp b) : a = b := by
  obtain ⟨x⟩ := a
  obtain ⟨y⟩ := b
  have : x = y := Array.toList_inj.mp h
  rw [this]
theorem cp_len (a : Str) : (cp a).length = a.length := by show a.cps.toList.length = a.cps.size; simp
theorem sg_le {a b : Str} : sg a b ≤ 0 ↔ ¬ cp b < cp a := by
  unfold sg
  simp only [b2i_decide]
  constructor
  · intro h q
    have : ¬ cp a < cp b := List.lt_asymm q
    rw [if_pos q, if_neg this] at h
    omega
  · intro h
    rw [if_neg h]
    split <;> omega
theorem pair_cp (a b : Str) : cp (pairS a (some b)) = cp a ++ [46] ++ cp b := by
  show cp (a ++ Str.ofString "." ++ b) = _
  rw [cp_app, cp_app, cp_dot]
theorem cmp_paired {a b : Str} : cmpS true a b ≤ 0 ↔ ahead (cp a ++ [46]) (cp b ++ [46]) := by
  show sg (pairS a (some b)) (pairS b (some a)) ≤ 0 ↔ _
  rw [sg_le, pair_cp, pair_cp]
  unfold ahead
  rw [← List.append_assoc, ← List.append_assoc, lt_suf _ _ _ (by simp; omega)]
def okK (K : Nat) (x : Str) : Prop := ∀ c ∈ cp x, c < K
theorem order_plain : Order false (fun _ => True) where
  swap a b := sg_swap a b
  le1 a b := by have := sg_cases a b; show sg a b ≤ 1; omega
  three a b := sg_cases a b
  trans a b c _ _ _ h1 h2 := by
    have h1 := sg_le.mp h1
    have h2 := sg_le.mp h2
    refine sg_le.mpr ?_
    exact List.le_trans (l₁ := cp a) (l₂ := cp b) (l₃ := cp c) h1 h2
theorem order_paired {K : Nat} (hK : 47 ≤ K) : Order true (okK K) where
  swap a b := sg_swap _ _
  le1 a b := by have := sg_cases (pairS a (some b)) (pairS b (some a)); show sg _ _ ≤ 1; omega
  three a b := sg_cases _ _
  trans a b c oa ob oc h1 h2 := by
    have up : ∀ {x : Str}, okK K x → ∀ d ∈ cp x ++ [46], d < K := fun {x} o d hd => by
      rcases List.mem_append.mp hd with q | q
      · exact o d q
      · have := List.mem_singleton.mp q; omega
    rw [cmp_paired] at h1 h2 ⊢
    exact ahead_trans (by omega) (up oa) (up ob) (up oc) (by simp) h1 h2
theorem bound_list : ∀ l : List Nat, ∃ K, ∀ c ∈ l, c < K
  | [] => ⟨0, by simp⟩
  | c :: r => by
    obtain ⟨K, h⟩ := bound_list r
    refine ⟨K + c + 1, fun d hd => ?_⟩
    rcases List.mem_cons.mp hd with rfl | hd
    · omega
    · have := h d hd; omega
theorem bound_strs (ns : List Str) : ∃ K, 47 ≤ K ∧ ∀ x ∈ ns, okK K x := by
  obtain ⟨K, h⟩ := bound_list (ns.flatMap cp)
  refine ⟨K + 47, by omega, fun x hx c hc => ?_⟩
  have := h c (List.mem_flatMap.mpr ⟨x, hx, hc⟩)
  omega

/-- the names in one line -/
def joinC : List Str → List Nat
  | [] => []
  | [x] => cp x
  | x :: y :: r => cp x ++ [46] ++ joinC (y :: r)
theorem joinC_dot : ∀ (l : List Str), l ≠ [] → joinC l ++ [46] = l.flatMap fun x => cp x ++ [46]
  | [], h => absurd rfl h
  | [x], _ => by simp [joinC]
  | x :: y :: r, _ => by
    show cp x ++ [46] ++ joinC (y :: r) ++ [46] = _
    rw [List.append_assoc, joinC_dot (y :: r) (by simp)]
    rfl
theorem flat_len_perm {l l' : List Str} (h : l.Perm l') : (l.flatMap fun x => cp x ++ [46]).length = (l'.flatMap fun x => cp x ++ [46]).length := by
  induction h with
  | nil => rfl
  | cons x _ ih => simp only [List.flatMap_cons, List.length_append, ih]
  | swap x y l => simp only [List.flatMap_cons, List.length_append]; omega
  | trans _ _ i1 i2 => exact i1.trans i2
theorem joinC_lt {l l' : List Str} (h : l.Perm l') (hn : l ≠ []) : joinC l < joinC l' ↔ (l.flatMap fun x => cp x ++ [46]) < (l'.flatMap fun x => cp x ++ [46]) := by
  have hn' : l' ≠ [] := fun q => hn (by rw [q] at h; exact h.eq_nil)
  have hl := flat_len_perm h
  rw [← joinC_dot l hn, ← joinC_dot l' hn'] at hl ⊢
  rw [lt_suf]
  simpa using hl
theorem flat_swap_lt (P S : List Str) (x y : Str) (h : ahead (cp x ++ [46]) (cp y ++ [46])) :
    ¬ ((P ++ y :: x :: S).flatMap fun x => cp x ++ [46]) < ((P ++ x :: y :: S).flatMap fun x => cp x ++ [46]) := by
  have e : ∀ u v : Str, (P ++ u :: v :: S).flatMap (fun x => cp x ++ [46]) = (P.flatMap fun x => cp x ++ [46]) ++ ((cp u ++ [46]) ++ (cp v ++ [46])) ++ S.flatMap fun x => cp x ++ [46] := fun u v => by
    rw [List.flatMap_append, List.flatMap_cons, List.flatMap_cons]
    simp only [List.append_assoc]
  rw [e, e, lt_mid _ _ _ _ (by simp; omega)]
  exact h
/-- the row in order makes the least line -/
theorem line_least {row l : List Str} (hs : row.Pairwise fun a b => cmpS true a b ≤ 0) (hp : l.Perm row) (hn : row ≠ []) : ¬ joinC l < joinC row := by
  rw [joinC_lt hp (fun q => hn (by rw [q] at hp; exact hp.symm.eq_nil))]
  exact best (R := fun a b => cmpS true a b ≤ 0) (le := fun u v : List Nat => ¬ v < u) (f := fun l => l.flatMap fun x => cp x ++ [46]) (fun b => List.lt_irrefl b) (fun a b c h1 h2 => List.le_trans (l₁ := a) (l₂ := b) (l₃ := c) h1 h2)
    (fun P S x y h => flat_swap_lt P S x y (cmp_paired.mp h)) row l [] hs hp
theorem line_most {row l : List Str} (hs : row.Pairwise fun a b => cmpS true b a ≤ 0) (hp : l.Perm row) (hn : row ≠ []) : ¬ joinC row < joinC l := by
  rw [joinC_lt hp.symm hn]
  exact best (R := fun a b => cmpS true b a ≤ 0) (le := fun u v : List Nat => ¬ u < v) (f := fun l => l.flatMap fun x => cp x ++ [46]) (fun b => List.lt_irrefl b) (fun a b c h1 h2 => List.le_trans (l₁ := c) (l₂ := b) (l₃ := a) h2 h1)
    (fun P S x y h => flat_swap_lt P S y x (cmp_paired.mp h)) row l [] hs hp
end Mine

namespace Mine

abbrev dotS : Str := Str.ofString "."
theorem join_cp : ∀ l : List Str, cp (Str.join dotS l) = joinC l
  | [] => by simp [Str.join, joinC, Str.empty]
  | [x] => rfl
  | x :: y :: r => by
    show cp (x ++ dotS ++ Str.join dotS (y :: r)) = _
    rw [cp_app, cp_app, cp_dot, join_cp (y :: r)]; rfl
theorem lineF_join : ∀ (xs : List Str) (x : Str), lineF x xs = Str.join dotS (x :: xs)
  | [], x => rfl
  | y :: r, x => by
    show lineF (pairS x (some y)) r = x ++ dotS ++ Str.join dotS (y :: r)
    rw [lineF_join r]
    cases r with
    | nil => rfl
    | cons z t =>
      show (x ++ dotS ++ y) ++ dotS ++ Str.join dotS (z :: t) = x ++ dotS ++ (y ++ dotS ++ Str.join dotS (z :: t))
      simp only [Str.append_assoc]
theorem endF_join : ∀ (xs : List Str) (x : Str), endF (x :: xs).reverse = some (Str.join dotS (x :: xs))
  | [], x => rfl
  | y :: r, x => by
    rw [List.reverse_cons, endF_snoc, endF_join r y]
    rfl
theorem str_anti {a b : Str} (h1 : ¬ cp a < cp b) (h2 : ¬ cp b < cp a) : a = b := cp_inj (List.le_antisymm (as := cp a) (bs := cp b) h2 h1)
/-- the two lines -/
theorem least_join {ns : List Str} {K : Nat} (hK : 47 ≤ K) (ho : ∀ x ∈ ns, okK K x) (hn : ns ≠ []) {l : List Str} (hl : l ∈ ordersOf ns) : ¬ cp (Str.join dotS l) < cp (Str.join dotS (laidOf true ns)) := by
  rw [join_cp, join_cp]
  have hp := laidOf_perm true ns
  exact line_least (laidOf_sorted (order_paired hK) ho) (((orders_iff ns l).mp hl).trans hp.symm) (fun q => hn (by rw [q] at hp; exact hp.symm.eq_nil))
theorem most_join {ns : List Str} {K : Nat} (hK : 47 ≤ K) (ho : ∀ x ∈ ns, okK K x) (hn : ns ≠ []) {l : List Str} (hl : l ∈ ordersOf ns) : ¬ cp (Str.join dotS (laidOf true ns).reverse) < cp (Str.join dotS l) := by
  rw [join_cp, join_cp]
  have hp := laidOf_perm true ns
  refine line_most (List.pairwise_reverse.mpr ?_) ((((orders_iff ns l).mp hl).trans hp.symm).trans (List.reverse_perm _).symm) (fun q => hn (by rw [List.reverse_eq_nil_iff] at q; rw [q] at hp; exact hp.symm.eq_nil))
  exact laidOf_sorted (order_paired hK) ho
theorem laid_in (ns : List Str) : laidOf true ns ∈ ordersOf ns := (orders_iff _ _).mpr (laidOf_perm true ns)
theorem rev_in (ns : List Str) : (laidOf true ns).reverse ∈ ordersOf ns := (orders_iff _ _).mpr ((List.reverse_perm _).trans (laidOf_perm true ns))
/-- two rows in order of the same names are one -/
theorem sorted_one : ∀ (l l' : List Str), l.Pairwise (fun a b => ¬ cp b < cp a) → l'.Pairwise (fun a b => ¬ cp b < cp a) → l.Perm l' → l = l'
  | [], l', _, _, h => h.symm.eq_nil.symm
  | x :: r, [], _, _, h => h.eq_nil
  | x :: r, y :: t, h1, h2, h => by
    have e : x = y := by
      have m1 : x ∈ y :: t := h.mem_iff.mp (.head _)
      have m2 : y ∈ x :: r := h.mem_iff.mpr (.head _)
      rcases List.mem_cons.mp m1 with q | q
      · exact q
      rcases List.mem_cons.mp m2 with q' | q'
      · exact q'.symm
      exact str_anti (List.rel_of_pairwise_cons h2 q) (List.rel_of_pairwise_cons h1 q')
    subst e
    rw [sorted_one r t h1.of_cons h2.of_cons (List.Perm.cons_inv h)]
theorem laid_plain_sorted (ns : List Str) : (laidOf false ns).Pairwise fun a b => ¬ cp b < cp a := (laidOf_sorted order_plain (ns := ns) fun _ _ => trivial).imp fun h => sg_le.mp h
theorem laid_plain_eq {ns l : List Str} (hp : l.Perm ns) (hs : l.Pairwise fun a b => ¬ cp b < cp a) : laidOf false ns = l := sorted_one _ _ (laid_plain_sorted ns) hs ((laidOf_perm false ns).trans hp.symm)
theorem paired_up (ns : List Str) : ∀ i x, ns[i]? = some x → ((laidOf true (ns.take i)).map (cmpS true · x)).Pairwise (· ≤ ·) := by
  obtain ⟨K, h1, h2⟩ := bound_strs ns
  exact laid_up (order_paired h1) h2
theorem plain_up (ns : List Str) : ∀ i x, ns[i]? = some x → ((laidOf false (ns.take i)).map (cmpS false · x)).Pairwise (· ≤ ·) := laid_up order_plain fun _ _ => trivial
/-- least and greatest of the lines -/
theorem min_is {ns : List Str} (hn : ns ≠ []) {m : Str} (hm : m ∈ (ordersOf ns).map (Str.join dotS)) (hl : ∀ l ∈ (ordersOf ns).map (Str.join dotS), ¬ cp l < cp m) : m = Str.join dotS (laidOf true ns) := by
  obtain ⟨K, h1, h2⟩ := bound_strs ns
  obtain ⟨l, hl', rfl⟩ := List.mem_map.mp hm
  exact str_anti (least_join h1 h2 hn hl') (hl _ (List.mem_map_of_mem (laid_in ns)))
theorem max_is {ns : List Str} (hn : ns ≠ []) {m : Str} (hm : m ∈ (ordersOf ns).map (Str.join dotS)) (hl : ∀ l ∈ (ordersOf ns).map (Str.join dotS), ¬ cp m < cp l) : m = Str.join dotS (laidOf true ns).reverse := by
  obtain ⟨K, h1, h2⟩ := bound_strs ns
  obtain ⟨l, hl', rfl⟩ := List.mem_map.mp hm
  exact str_anti (hl _ (List.mem_map_of_mem (rev_in ns))) (most_join h1 h2 hn hl')
end Mine

namespace Mine
set_option maxRecDepth 100000
set_option maxHeartbeats 4000000

/-- every object but the frame's, as a ledger over nothing -/
def allNews (h : Heap) (L : Addr) : List (Addr × Obj) := (List.range h.objs.size).filterMap fun b => if b = L then none else (h.get? b).map fun o => (b, o)
theorem all_fr {h : Heap} {L : Addr} {m : Str → Option Value} (hn : h.Ns L m) : Fr {} L h m := ⟨hn, fun b o e => by simp [Heap.get?] at e, Nat.zero_le _⟩
theorem all_news (h : Heap) (L : Addr) : News {} L h (allNews h L) := by
  intro p hp
  unfold allNews at hp
  obtain ⟨b, _, hb⟩ := List.mem_filterMap.mp hp
  split at hb
  · cases hb
  · rename_i hne
    cases e : h.get? b with
    | none => rw [e] at hb; cases hb
    | some o => rw [e] at hb; cases hb; exact ⟨e, hne, by simp [Heap.get?]⟩
theorem all_back {h h' : Heap} {L : Addr} {more : List (Addr × Obj)} (N : News {} L h' (more ++ allNews h L)) : ∀ b o, b ≠ L → h.get? b = some o → h'.get? b = some o := fun b o hb e => by
  refine (N (b, o) (List.mem_append_right _ ?_)).1
  unfold allNews
  refine List.mem_filterMap.mpr ⟨b, List.mem_range.mpr (Heap.lt_size e), ?_⟩
  rw [if_neg hb, e]; rfl

theorem strs_beq {vs us : List Value} {ss : List Str} (h1 : StrsAre vs ss) (h2 : StrsAre us ss) : ∀ j (a : j < vs.toArray.size) (b : j < us.toArray.size) (A : Around) (s : Shared), SeqAt.EqAt A s vs.toArray[j] us.toArray[j] true := by
  intro j a b A s
  obtain ⟨x, t, e, hx⟩ := StrsAre.item h1 j (vs.toArray[j]) (by simp)
  obtain ⟨y, u, e', hy⟩ := StrsAre.item h2 j (us.toArray[j]) (by simp)
  rw [hx] at hy
  cases hy
  rw [e, e']
  have := SeqAt.EqAt.str_str (A := A) (s := s) x t x u
  rw [beq_self_eq_true] at this
  exact this
theorem range_all_true (n : Nat) : (List.range n).all (fun _ => true) = true := by simp

section
variable {prog : Program} {w : World} {A : Around} {E : Value → Shared → Prop} {s : Shared} {Q : Value → Shared → Prop}

theorem eq_same {a b : Addr} {vs us : List Value} {ss : List Str} (ha : s.heap.IsList a vs.toArray) (hb : s.heap.IsList b us.toArray) (h1 : StrsAre vs ss) (h2 : StrsAre us ss) (hu : A.units < cLine)
    (h : Q (.bool true) s) : wpAny (model prog w) A (compareOp .Eq (.ref a) (.ref b)) Q E s := by
  have hsz : vs.toArray.size = us.toArray.size := by rw [List.size_toArray, List.size_toArray, StrsAre.length h1, StrsAre.length h2]
  refine SeqAt.RcAt.lists (e := fun _ => true) ha hb hsz hu (fun j p q => strs_beq h1 h2 j p q _ _) prog w E Q ?_
  rw [range_all_true]; exact h
theorem ne_same {a b : Addr} {vs us : List Value} {ss : List Str} (ha : s.heap.IsList a vs.toArray) (hb : s.heap.IsList b us.toArray) (h1 : StrsAre vs ss) (h2 : StrsAre us ss) (hu : A.units < cLine)
    (h : Q (.bool false) s) : wpAny (model prog w) A (compareOp .NotEq (.ref a) (.ref b)) Q E s := by
  have hsz : vs.toArray.size = us.toArray.size := by rw [List.size_toArray, List.size_toArray, StrsAre.length h1, StrsAre.length h2]
  refine SeqAt.RcNeAt.lists (e := fun _ => true) ha hb hsz hu (fun j p q => strs_beq h1 h2 j p q _ _) prog w E Q ?_
  rw [range_all_true]; exact h

theorem sum_pure {l : Addr} {vs : List Value} {ns : List Int} (hh : A.handled = none) (hl : s.heap.IsList l vs.toArray) (hi : IntsAre vs ns)
    (h : ∀ h' tk z t', Ext s.heap h' → Q (.int z t') { s with heap := h', toks := tk }) : wpAny (model prog w) A (call (.builtin "sum") [.ref l]) Q E s := by
  obtain ⟨xs, hx⟩ := hi.allInts.items
  rw [hx] at hl
  exact sum_intListG hh hl fun h' tk t' hk => h h' tk _ t' hk

theorem sorted_pure {l : Addr} {vs : List Value} {ss : List Str} (hl : s.heap.IsList l vs.toArray) (hS : StrsAre vs ss) (h64 : vs.length < 64)
    (h : ∀ (h' : Heap) (T : Addr) (vs' : List Value) (ss' : List Str), Ext s.heap h' → h'.IsList T vs'.toArray → StrsAre vs' ss' → ss'.Perm ss → sortedS ss' = true → Q (.ref T) { s with heap := h' }) :
    wpAny (model prog w) A (call (.builtin "sorted") [.ref l]) Q E s := by
  refine sorted_strs hl hS h64 fun out ss' a1 a2 a3 => ?_
  obtain ⟨e, he⟩ := sortedAll_at s.heap vs out
  exact h _ _ out.toList ss' (fun _ _ => sortedAll_old) ⟨_, he, rfl, e, rfl⟩ a1 a2 a3

theorem mul_pure {l L : Addr} {items : Array Value} {n : Nat} {u : Tok} {m : Str → Option Value} (hn : s.heap.Ns L m) (hl : s.heap.PlainList l items) (h1 : n ≤ 1000) (h2 : items.size ≤ 1000)
    (h : ∀ T h', h'.Ns L m → (∀ b o, b ≠ L → s.heap.get? b = some o → h'.get? b = some o) → s.heap.get? T = none → h'.PlainList T (List.foldl (fun x1 x2 => x1 ++ x2) #[] (List.replicate (if items.isEmpty = true then 0 else n) items)) → Q (.ref T) { s with heap := h' }) :
    wpAny (model prog w) A (binaryOp .Mult (.ref l) (.int (n : Nat) u)) Q E s := by
  obtain ⟨k, hl⟩ := hl
  refine mul_list (all_fr hn) (all_news s.heap L) hl (by omega) (by omega) ?_ fun h' F' N' => ?_
  · rw [Int.toNat_natCast]
    have := Nat.mul_le_mul h2 h1
    omega
  · refine h _ h' F'.ns (all_back (more := [_]) N') (Heap.get?_none_of_le (Nat.le_refl _)) ⟨0, ?_⟩
    exact (N' _ (.head _)).1
end

theorem rising_pairwise : ∀ (r : List Str) (p : Str), risingS p r = true → (∀ a ∈ r, ¬ cp a < cp p) ∧ r.Pairwise (fun a b => ¬ cp b < cp a)
  | [], _, _ => ⟨by simp, .nil⟩
  | x :: r, p, h => by
    have h' : (!PySem.Spec.ltCps x.cps.toList p.cps.toList && risingS x r) = true := h
    obtain ⟨h1, h2⟩ := Bool.and_eq_true_iff.mp h'
    rw [ltCps_eq] at h1
    have h1 : ¬ cp x < cp p := by simpa using h1
    obtain ⟨i1, i2⟩ := rising_pairwise r x h2
    refine ⟨fun a ha => ?_, List.pairwise_cons.mpr ⟨fun a ha => i1 a ha, i2⟩⟩
    rcases List.mem_cons.mp ha with rfl | ha
    · exact h1
    · exact List.le_trans (l₁ := cp p) (l₂ := cp x) (l₃ := cp a) h1 (i1 a ha)
theorem sortedS_pairwise : ∀ {l : List Str}, sortedS l = true → l.Pairwise (fun a b => ¬ cp b < cp a)
  | [], _ => .nil
  | x :: r, h => by
    obtain ⟨i1, i2⟩ := rising_pairwise r x h
    exact List.pairwise_cons.mpr ⟨i1, i2⟩

/-- the best place -/
theorem best_lt {n : Nat} (bt : Nat → Nat → Bool) : ∀ k, argBest bt k ≤ k
  | 0 => Nat.le_refl _
  | k + 1 => by
    unfold argBest
    split
    · exact Nat.le_refl _
    · exact Nat.le_succ_of_le (best_lt (n := n) bt k)
theorem best_none (bt : Nat → Nat → Bool) (hirr : ∀ i, bt i i = false) (htr : ∀ i j k, bt i j = false → bt j k = false → bt i k = false) (has : ∀ i j, bt i j = true → bt j i = false) : ∀ k i, i ≤ k → bt i (argBest bt k) = false
  | 0, i, hi => by
    have : i = 0 := by omega
    subst this; exact hirr 0
  | k + 1, i, hi => by
    unfold argBest
    split
    · rename_i hb
      by_cases e : i = k + 1
      · subst e; exact hirr _
      · exact htr i _ _ (best_none bt hirr htr has k i (by omega)) (has _ _ hb)
    · rename_i hb
      by_cases e : i = k + 1
      · subst e; simpa using hb
      · exact best_none bt hirr htr has k i (by omega)

section
variable {prog : Program} {w : World} {A : Around} {E : Value → Shared → Prop} {s : Shared} {Q : Value → Shared → Prop}

def ltAt (ss : List Str) (i j : Nat) : Bool := decide (cp (ss.getD i Str.empty) < cp (ss.getD j Str.empty))
theorem ltAt_irr (ss : List Str) (i : Nat) : ltAt ss i i = false := by unfold ltAt; rw [decide_eq_false_iff_not]; exact List.lt_irrefl _
theorem ltAt_tr (ss : List Str) (i j k : Nat) (h1 : ltAt ss i j = false) (h2 : ltAt ss j k = false) : ltAt ss i k = false := by
  unfold ltAt at *
  rw [decide_eq_false_iff_not] at *
  exact List.le_trans (l₁ := cp (ss.getD k Str.empty)) (l₂ := cp (ss.getD j Str.empty)) (l₃ := cp (ss.getD i Str.empty)) h2 h1
theorem ltAt_as (ss : List Str) (i j : Nat) (h1 : ltAt ss i j = true) : ltAt ss j i = false := by
  unfold ltAt at *
  rw [decide_eq_false_iff_not]
  rw [decide_eq_true_iff] at h1
  exact List.lt_asymm h1

theorem item_getD {vs : List Value} {ss : List Str} (hS : StrsAre vs ss) {i : Nat} {v : Value} (h : vs.toArray[i]? = some v) : ∃ t, v = .str (ss.getD i Str.empty) t := by
  obtain ⟨x, t, e, hx⟩ := StrsAre.item hS i v (by simpa using h)
  refine ⟨t, ?_⟩
  rw [List.getD_eq_getElem?_getD, hx]; exact e

theorem min_pure {l : Addr} {vs : List Value} {ss : List Str} (hh : A.handled = none) (hl : s.heap.IsList l vs.toArray) (hS : StrsAre vs ss) (hne : ss ≠ [])
    (h : ∀ h' tk x t, Ext s.heap h' → x ∈ ss → (∀ y ∈ ss, ¬ cp y < cp x) → Q (.str x t) { s with heap := h', toks := tk }) : wpAny (model prog w) A (call (.builtin "min") [.ref l]) Q E s := by
  have hlen := StrsAre.length hS
  have hpos : 0 < ss.length := List.length_pos_iff.mpr hne
  have hlI : l ≠ s.heap.objs.size := by obtain ⟨o, ho, _⟩ := hl; exact Nat.ne_of_lt (Heap.lt_size ho)
  refine call_min_walk (wpAny_pyIter_list hl ?_)
  refine ⟨s.heap.objs.size, _, _, vs.toArray.size, _, _, ltAt ss, rfl, Walks.list (A := A.in1) hh s.heap.objs.size l hlI vs.toArray, ⟨⟨_, Heap.get?_push_size _ rfl, rfl, rfl⟩, hl.push _⟩, ?_, ?_, ?_, ?_⟩
  · intro b hb
    rw [Heap.size_push]
    rcases List.mem_cons.mp hb with rfl | hb
    · exact Nat.lt_succ_self _
    · obtain ⟨o, ho, _⟩ := hl
      rw [List.mem_singleton.mp hb]
      exact Nat.lt_succ_of_lt (Heap.lt_size ho)
  · rw [List.size_toArray]; omega
  · intro i j vi vj s' Q' E' hi hj hQ
    obtain ⟨t, rfl⟩ := item_getD hS hi
    obtain ⟨u, rfl⟩ := item_getD hS hj
    exact PyProof.Rows.lt_str (Q := Q') hQ
  · intro v h' tk hv hk
    obtain ⟨t, rfl⟩ := item_getD hS hv
    have hlt : argBest (ltAt ss) (vs.toArray.size - 1) < ss.length := by
      have := best_lt (n := 0) (ltAt ss) (vs.toArray.size - 1)
      rw [List.size_toArray] at this ⊢; omega
    refine h h' tk _ t (fun b o e => hk b o (fun mm => absurd (Heap.lt_size e) (by rw [List.mem_singleton.mp mm]; exact Nat.lt_irrefl _)) (Heap.get?_push_of_some _ e)) ?_ ?_
    · rw [List.getD_eq_getElem?_getD, List.getElem?_eq_getElem hlt]; exact List.getElem_mem hlt
    · intro y hy
      obtain ⟨i, hi, rfl⟩ := List.getElem_of_mem hy
      have := best_none (ltAt ss) (ltAt_irr ss) (ltAt_tr ss) (ltAt_as ss) (vs.toArray.size - 1) i (by rw [List.size_toArray]; omega)
      unfold ltAt at this
      rw [decide_eq_false_iff_not] at this
      have e : ss.getD i Str.empty = ss[i] := by rw [List.getD_eq_getElem?_getD, List.getElem?_eq_getElem hi]; rfl
      rw [e] at this
      exact this

theorem max_pure {l : Addr} {vs : List Value} {ss : List Str} (hh : A.handled = none) (hl : s.heap.IsList l vs.toArray) (hS : StrsAre vs ss) (hne : ss ≠ [])
    (h : ∀ h' tk x t, Ext s.heap h' → x ∈ ss → (∀ y ∈ ss, ¬ cp x < cp y) → Q (.str x t) { s with heap := h', toks := tk }) : wpAny (model prog w) A (call (.builtin "max") [.ref l]) Q E s := by
  have hlen := StrsAre.length hS
  have hpos : 0 < ss.length := List.length_pos_iff.mpr hne
  have hlI : l ≠ s.heap.objs.size := by obtain ⟨o, ho, _⟩ := hl; exact Nat.ne_of_lt (Heap.lt_size ho)
  refine call_max_walk (wpAny_pyIter_list hl ?_)
  refine ⟨s.heap.objs.size, _, _, vs.toArray.size, _, _, fun i j => ltAt ss j i, rfl, Walks.list (A := A.in1) hh s.heap.objs.size l hlI vs.toArray, ⟨⟨_, Heap.get?_push_size _ rfl, rfl, rfl⟩, hl.push _⟩, ?_, ?_, ?_, ?_⟩
  · intro b hb
    rw [Heap.size_push]
    rcases List.mem_cons.mp hb with rfl | hb
    · exact Nat.lt_succ_self _
    · obtain ⟨o, ho, _⟩ := hl
      rw [List.mem_singleton.mp hb]
      exact Nat.lt_succ_of_lt (Heap.lt_size ho)
  · rw [List.size_toArray]; omega
  · intro i j vi vj s' Q' E' hi hj hQ
    obtain ⟨t, rfl⟩ := item_getD hS hi
    obtain ⟨u, rfl⟩ := item_getD hS hj
    exact P.gt_str (Q := Q') hQ
  · intro v h' tk hv hk
    obtain ⟨t, rfl⟩ := item_getD hS hv
    have hlt : argBest (fun i j => ltAt ss j i) (vs.toArray.size - 1) < ss.length := by
      have := best_lt (n := 0) (fun i j => ltAt ss j i) (vs.toArray.size - 1)
      rw [List.size_toArray] at this ⊢; omega
    refine h h' tk _ t (fun b o e => hk b o (fun mm => absurd (Heap.lt_size e) (by rw [List.mem_singleton.mp mm]; exact Nat.lt_irrefl _)) (Heap.get?_push_of_some _ e)) ?_ ?_
    · rw [List.getD_eq_getElem?_getD, List.getElem?_eq_getElem hlt]; exact List.getElem_mem hlt
    · intro y hy
      obtain ⟨i, hi, rfl⟩ := List.getElem_of_mem hy
      have := best_none (fun i j => ltAt ss j i) (ltAt_irr ss) (fun i j k a b => ltAt_tr ss k j i b a) (fun i j a => ltAt_as ss j i a) (vs.toArray.size - 1) i (by rw [List.size_toArray]; omega)
      unfold ltAt at this
      rw [decide_eq_false_iff_not] at this
      have e : ss.getD i Str.empty = ss[i] := by rw [List.getD_eq_getElem?_getD, List.getElem?_eq_getElem hi]; rfl
      rw [e] at this
      exact this
end
end Mine

namespace Mine
set_option maxRecDepth 100000
set_option maxHeartbeats 4000000

section
variable {prog : Program} {w : World} {A : Around} {E : Value → Shared → Prop} {env : Env}

/-- a comprehension's block, up to its loop -/
theorem block_gen {elt target iter : Expr} {scope : Scope} {cl : List (Str × Addr)} {pos : Pos} {s₂ : Shared} {it : Value} {RR : Value → Addr → Result → Shared → Prop}
    (hcell : ∀ y ∈ scope.names, y.2 ≠ .cell) (hkind : scope.kind = .function)
    (self : ∀ h tk (Q : Value → Shared → Prop) (E' : Value → Shared → Prop), Ext s₂.heap h → Q it { s₂ with heap := h, toks := tk } → wpAny (model prog w) A (pyIter it) Q E' { s₂ with heap := h, toks := tk })
    (loop : ∀ C D h₁ tk, h₁.Ns C (fun _ => none) → h₁.PlainList D #[] → Ext s₂.heap h₁ → s₂.heap.objs.size ≤ C → s₂.heap.objs.size ≤ D → C ≠ D →
      codeAny (model prog w) A (.compLoop (.ListComp elt [⟨target, iter, [], 0⟩] scope pos) 0 it (.ref D) (compEnvC scope cl C env)) (RR (.ref D) C) { s₂ with heap := h₁, toks := tk }) :
    wpAny (model prog w) A (newList []) (fun acc s₃ => wpAny (model prog w) A (newFunctionEnv scope env.globals cl [] env.qual none .none (some env)) (fun cenv s₄ =>
      codeAny (model prog w) A (.compStart (.ListComp elt [⟨target, iter, [], 0⟩] scope pos) 0 it acc { cenv with scope := relabel scope env }) (RR acc cenv.locals) s₄) E s₃) E s₂ := by
  refine wpAny_newObj_type (wpAny_newFunctionEnv hcell (by intro y hy; simp at hy) (fun h₁ hns₁ hsb₁ => ?_) hkind)
  dsimp only at hns₁ hsb₁ ⊢
  generalize hH2 : s₂.heap.push { cls := .type "list", dict := none, data := .seq ([] : List Value).toArray } = H2 at hns₁ hsb₁ ⊢
  have hC : H2.objs.size = s₂.heap.objs.size + 1 := by rw [← hH2, Heap.size_push]
  have old : Ext s₂.heap h₁ := fun b o e => hsb₁.extBut b o (by have : @LT.lt Nat _ b s₂.heap.objs.size := Heap.lt_size e; rw [hC]; exact Nat.ne_of_lt (Nat.lt_succ_of_lt this)) (Heap.get?_push_of_some _ (hH2 ▸ Heap.get?_push_of_some _ e))
  have hDC : s₂.heap.objs.size ≠ H2.objs.size := by rw [hC]; exact Nat.ne_of_lt (Nat.lt_succ_self _)
  have hacc : h₁.PlainList s₂.heap.objs.size #[] := ⟨_, hsb₁.extBut _ _ hDC (Heap.get?_push_of_some _ (hH2 ▸ Heap.get?_push_size _ rfl))⟩
  have fin := fun tk => loop H2.objs.size s₂.heap.objs.size h₁ tk hns₁ hacc old (by rw [hC]; exact Nat.le_succ _) (Nat.le_refl _) (Ne.symm hDC)
  exact codeAny_compStart_list (fin _) (self _ _ _ _ old (fin _))

/-- the same where the comprehension has one cell of its own -/
theorem block_cell {elt target iter : Expr} {scope : Scope} {cl : List (Str × Addr)} {pos : Pos} {s₂ : Shared} {it : Value} {RR : Value → Addr → Result → Shared → Prop} {x : Str}
    (hnew : ∀ (Q : Env → Shared → Prop) (E' : Value → Shared → Prop) (s : Shared), (∀ h', h'.Ns s.heap.objs.size (fun _ => none) → h'.IsCell (s.heap.objs.size + 1) none → Ext s.heap h' →
        Q (newEnv scope s.heap.objs.size env.globals ((x, s.heap.objs.size + 1) :: cl) env.qual none .none (some env) builtinsNs) { s with heap := h' }) →
      wpAny (model prog w) A (newFunctionEnv scope env.globals cl [] env.qual none .none (some env)) Q E' s)
    (self : ∀ h tk (Q : Value → Shared → Prop) (E' : Value → Shared → Prop), Ext s₂.heap h → Q it { s₂ with heap := h, toks := tk } → wpAny (model prog w) A (pyIter it) Q E' { s₂ with heap := h, toks := tk })
    (loop : ∀ C D c h₁ tk, h₁.Ns C (fun _ => none) → h₁.PlainList D #[] → h₁.IsCell c none → Ext s₂.heap h₁ → s₂.heap.objs.size ≤ C → s₂.heap.objs.size ≤ D → s₂.heap.objs.size ≤ c → C ≠ D → C ≠ c → D ≠ c →
      codeAny (model prog w) A (.compLoop (.ListComp elt [⟨target, iter, [], 0⟩] scope pos) 0 it (.ref D) (compEnvC scope ((x, c) :: cl) C env)) (RR (.ref D) C) { s₂ with heap := h₁, toks := tk }) :
    wpAny (model prog w) A (newList []) (fun acc s₃ => wpAny (model prog w) A (newFunctionEnv scope env.globals cl [] env.qual none .none (some env)) (fun cenv s₄ =>
      codeAny (model prog w) A (.compStart (.ListComp elt [⟨target, iter, [], 0⟩] scope pos) 0 it acc { cenv with scope := relabel scope env }) (RR acc cenv.locals) s₄) E s₃) E s₂ := by
  refine wpAny_newObj_type (hnew _ _ _ fun h₁ hns₁ hc₁ e₁ => ?_)
  dsimp only at hns₁ hc₁ e₁ ⊢
  generalize hH2 : s₂.heap.push { cls := .type "list", dict := none, data := .seq ([] : List Value).toArray } = H2 at hns₁ hc₁ e₁ ⊢
  have hC : H2.objs.size = s₂.heap.objs.size + 1 := by rw [← hH2, Heap.size_push]
  have old : Ext s₂.heap h₁ := fun b o e => e₁ b o (hH2 ▸ Heap.get?_push_of_some _ e)
  have hacc : h₁.PlainList s₂.heap.objs.size #[] := ⟨_, e₁ _ _ (hH2 ▸ Heap.get?_push_size _ rfl)⟩
  have fin := fun tk => loop H2.objs.size s₂.heap.objs.size (H2.objs.size + 1) h₁ tk hns₁ hacc hc₁ old (by rw [hC]; exact Nat.le_succ _) (Nat.le_refl _) (by rw [hC]; exact Nat.le_succ_of_le (Nat.le_succ _))
    (by rw [hC]; exact Nat.ne_of_gt (Nat.lt_succ_self _)) (Nat.ne_of_lt (Nat.lt_succ_self _)) (by rw [hC]; exact Nat.ne_of_lt (Nat.lt_succ_of_lt (Nat.lt_succ_self _)))
  exact codeAny_compStart_list (fin _) (self _ _ _ _ old (fin _))
end

section
variable {prog : Program} {w : World} {A : Around} {E : Value → Shared → Prop} {R : Result → Shared → Prop} {s : Shared}

theorem keeps_of {s s' : Shared} (k : Keeps s s') : ∃ h' tk, s' = { s with heap := h', toks := tk } ∧ Ext s.heap h' := k

/-- the loop over pairs -/
theorem pair_run {elt iter : Expr} {j b : Str} {pj pb tp : Pos} {kk : Nat} {scope : Scope} {pos : Pos} {I D : Addr} {fp wr : List Addr} {n : Nat} {Pt : Nat → Array Value → Prop} {St : Nat → Heap → Prop} {Mid : Nat → Addr → Heap → Prop}
    {cenv : Env} {m : Str → Option Value} {F : Value → Prop} {G : Nat → Value → Value → Prop}
    (W : WalksT prog w A I fp wr n Pt St Mid) (hh : A.handled = none) (hj : cenv.kindOf j = some .local) (hb : cenv.kindOf b = some .local) (hjb : j ≠ b)
    (hp : (cenv.scope.kind == .class || (cenv.scope.kind == .module && cenv.locals != cenv.globals)) = false)
    (hst : St 0 s.heap) (hacc : s.heap.PlainList D #[]) (hn : s.heap.Ns cenv.locals m) (hD : D ∉ fp) (hC : cenv.locals ∉ fp) (hDC : D ≠ cenv.locals) (hsz : n ≤ sizeLine)
    (hPt : ∀ i vals, Pt i vals → ∃ v₁ v₂, vals = #[v₁, v₂] ∧ G i v₁ v₂)
    (helt : ∀ i v₁ v₂ (s₃ : Shared) m₃ E', G i v₁ v₂ → s₃.heap.Ns cenv.locals m₃ → m₃ j = some v₁ → m₃ b = some v₂ → (∀ b o, b ≠ cenv.locals → b ≠ D → b ∉ wr → s.heap.get? b = some o → s₃.heap.get? b = some o) →
      wpAny (model prog w) A (eval elt cenv) (fun y s₄ => F y ∧ Keeps s₃ s₄) E' s₃)
    (hR : ∀ h' tk m' ys, h'.Ns cenv.locals m' → h'.PlainList D ys → ys.size = n → (∀ y ∈ ys.toList, F y) → (∀ b o, b ≠ cenv.locals → b ≠ D → b ∉ wr → s.heap.get? b = some o → h'.get? b = some o) → R (.ok .next) { s with heap := h', toks := tk }) :
    codeAny (model prog w) A (.compLoop (.ListComp elt [⟨.Tuple [.Name j pj, .Name b pb] kk tp, iter, [], 0⟩] scope pos) 0 (.ref I) (.ref D) cenv) R s := by
  have hDw : D ∉ wr := fun h => hD (W.sub _ h)
  have hCw : cenv.locals ∉ wr := fun h => hC (W.sub _ h)
  refine LCp.codeAny_compLoop_pair (fun k s' => ∃ h' tk m' ys i, s' = { s with heap := h', toks := tk } ∧ St i h' ∧ h'.PlainList D ys ∧ h'.Ns cenv.locals m' ∧ ys.size = i ∧ (∀ y ∈ ys.toList, F y) ∧ i ≤ n ∧ k = n + 1 - i ∧
    (∀ b o, b ≠ cenv.locals → b ≠ D → b ∉ wr → s.heap.get? b = some o → h'.get? b = some o)) ?_ (n + 1) ⟨s.heap, s.toks, m, #[], 0, rfl, hst, hacc, hn, rfl, by simp, Nat.zero_le _, rfl, fun _ _ _ _ _ e => e⟩
  rintro k s' ⟨H, tk, m', ys, i, rfl, hst', hacc', hn', hyz, hF, hi, rfl, hk'⟩
  by_cases hlt : i < n
  · refine W.item i _ _ _ hlt hst' fun T vals h₁ tk₁ hv hT hTt hM hk₁ => ?_
    obtain ⟨v₁, v₂, rfl, hG⟩ := hPt i vals hv
    refine W.go _ _ _ i T _ _ _ hM fun h₂ hst₂ hk₂ => ?_
    have hTw := W.apart _ _ _ hM
    have hTt2 : IsTup h₂ T #[v₁, v₂] := by
      obtain ⟨o, ho, r⟩ := hTt
      exact ⟨o, hk₂ _ _ hTw ho, r⟩
    refine assign_Tuple_tuple hh hTt2 rfl rfl fun h₅ he => ?_
    have he' : Ext h₂ h₅ := fun b o e => he b o (Nat.ne_of_lt (Heap.lt_size e)) e
    have hn5 : h₅.Ns cenv.locals m' := ((hn'.at' fun o e => hk₁ _ o hCw e).at' fun o e => hk₂ _ o hCw e).at' fun o e => he' _ o e
    refine assignInOrder_cons (wpAny_assign_Name (wpAny_storeName_local hj hn5 (fun h₆ hn₆ hs₆ => ?_) hp))
    refine assignInOrder_cons (wpAny_assign_Name (wpAny_storeName_local hb hn₆ (fun h₃ hn₃ hs₃ => ?_) hp))
    refine assignInOrder_nil ?_
    have up : ∀ b o, b ≠ cenv.locals → b ∉ wr → H.get? b = some o → h₃.get? b = some o := fun b o hb hbw e => hs₃.extBut b o hb (hs₆.extBut b o hb (he' b o (hk₂ b o hbw (hk₁ b o hbw e))))
    refine wpAny_mono (helt i v₁ v₂ _ _ _ hG hn₃ ?_ ?_ fun b o h1 h2 h3 e => up b o h1 h3 (hk' b o h1 h2 h3 e)) (fun y s₄ h₄ => ?_) fun _ _ e => e
    · show (if j = b then _ else if j = j then some v₁ else _) = some v₁
      rw [if_neg hjb, if_pos rfl]
    · show (if b = b then some v₂ else _) = some v₂
      rw [if_pos rfl]
    obtain ⟨hy, h4, tk4, rfl, hk4⟩ := h₄
    have hacc4 : h4.PlainList D ys := hacc'.at fun o e => hk4 _ o (up _ o hDC hDw e)
    have hst3 : St (i + 1) h4 := W.frame _ _ _ (W.frame _ _ _ hst₂ fun b hbf o e => hs₃.extBut b o (fun q => hC (q ▸ hbf)) (hs₆.extBut b o (fun q => hC (q ▸ hbf)) (he' b o e))) fun b _ o e => hk4 b o e
    refine wpAny_list_append_plain hacc4 (fun h5 hl5 hs5 => ?_) (by omega)
    refine ⟨n + 1 - (i + 1), by omega, h5, tk4, _, ys.push y, i + 1, rfl, W.frame _ _ _ hst3 fun b hbf o e => hs5.extBut b o (fun q => hD (q ▸ hbf)) e, hl5, (hn₃.keeps hk4).at' fun o e => hs5.extBut _ o (Ne.symm hDC) e, by rw [Array.size_push, hyz], ?_, hlt, rfl,
      fun b o h1 h2 h3 e => hs5.extBut b o h2 (hk4 b o (up b o h1 h3 (hk' b o h1 h2 h3 e)))⟩
    intro z hz
    rw [Array.toList_push] at hz
    rcases List.mem_append.mp hz with q | q
    · exact hF z q
    · rw [List.mem_singleton.mp q]; exact hy
  · have hjn : i = n := by omega
    subst hjn
    refine W.done _ _ _ hst' fun h₁ tk₁ hk₁ => ?_
    exact hR h₁ tk₁ m' ys (hn'.at' fun o e => hk₁ _ o hCw e) (hacc'.at fun o e => hk₁ _ o hDw e) hyz hF fun b o h1 h2 h3 e => hk₁ b o h3 (hk' b o h1 h2 h3 e)

theorem not_list_cell {h : Heap} {a : Addr} {v : Option Value} (hn : h.IsCell a v) (ws : Array Value) : ¬ h.IsList a ws := by
  rintro ⟨o, ho, _, n, hd⟩
  obtain ⟨o', ho', hd'⟩ := hn
  rw [ho] at ho'; cases ho'; rw [hd] at hd'; cases hd'

/-- the loop whose name is a cell -/
theorem cell_run {elt iter : Expr} {x : Str} {px : Pos} {scope : Scope} {pos : Pos} {I D ax c : Addr} {cenv : Env} {items : Array Value} {m : Str → Option Value} {F : Value → Prop} {v0 : Option Value}
    (hh : A.handled = none) (hkx : cenv.kindOf x = some .cell) (hkf : cenv.scope.kind = .function) (hcx : cenv.cells.lookup x = some c)
    (hit : s.heap.IsListIter I ax 0) (hax : s.heap.IsList ax items) (hacc : s.heap.PlainList D #[]) (hn : s.heap.Ns cenv.locals m) (hc : s.heap.IsCell c v0)
    (haD : ax ≠ D) (hCc : cenv.locals ≠ c) (hCI : cenv.locals ≠ I) (hcI : c ≠ I) (hsz : items.size ≤ sizeLine)
    (helt : ∀ v (s₃ : Shared) E', v ∈ items.toList → s₃.heap.IsCell c (some v) → (∀ b o, b ≠ cenv.locals → b ≠ D → b ≠ I → b ≠ c → s.heap.get? b = some o → s₃.heap.get? b = some o) →
      wpAny (model prog w) A (eval elt cenv) (fun y s₄ => F y ∧ Keeps s₃ s₄) E' s₃)
    (hR : ∀ h' tk m' ys, h'.Ns cenv.locals m' → h'.PlainList D ys → ys.size = items.size → (∀ y ∈ ys.toList, F y) → (∀ b o, b ≠ cenv.locals → b ≠ D → b ≠ I → b ≠ c → s.heap.get? b = some o → h'.get? b = some o) → R (.ok .next) { s with heap := h', toks := tk }) :
    codeAny (model prog w) A (.compLoop (.ListComp elt [⟨.Name x px, iter, [], 0⟩] scope pos) 0 (.ref I) (.ref D) cenv) R s := by
  have hDI : D ≠ I := by rintro rfl; exact not_list_iter hit _ hacc.isList
  have hDC : D ≠ cenv.locals := by rintro rfl; exact not_list_ns hn _ hacc.isList
  have hDc : D ≠ c := by rintro rfl; exact not_list_cell hc _ hacc.isList
  have haI : ax ≠ I := by rintro rfl; exact not_list_iter hit _ hax
  have haC : ax ≠ cenv.locals := by rintro rfl; exact not_list_ns hn _ hax
  have hac : ax ≠ c := by rintro rfl; exact not_list_cell hc _ hax
  refine codeAny_compLoop_list (fun k s' => ∃ h' tk m' ys i v, s' = { s with heap := h', toks := tk } ∧ h'.IsListIter I ax i ∧ h'.IsList ax items ∧ h'.PlainList D ys ∧ h'.Ns cenv.locals m' ∧ h'.IsCell c v ∧ ys.size = i ∧ (∀ y ∈ ys.toList, F y) ∧ i ≤ items.size ∧ k = items.size + 1 - i ∧
    (∀ b o, b ≠ cenv.locals → b ≠ D → b ≠ I → b ≠ c → s.heap.get? b = some o → h'.get? b = some o)) ?_ (items.size + 1) ⟨s.heap, s.toks, m, #[], 0, v0, rfl, hit, hax, hacc, hn, hc, rfl, by simp, Nat.zero_le _, rfl, fun _ _ _ _ _ _ e => e⟩
  rintro k s' ⟨H, tk, m', ys, i, v', rfl, hit', hax', hacc', hn', hc', hyz, hF, hi, rfl, hk'⟩
  cases hv : items[i]? with
  | none =>
    have hin : i = items.size := Nat.le_antisymm hi (by simpa using hv)
    refine wpAny_pyNext_list_end hh hit' hax' hv fun h₁ e₁ => ?_
    exact hR h₁ tk m' ys (hn'.at' fun o e => e₁ _ o hCI e) (hacc'.extBut e₁ hDI) (hyz.trans hin) hF fun b o h1 h2 h3 h4 e => e₁ b o h3 (hk' b o h1 h2 h3 h4 e)
  | some v =>
    have hlt : i < items.size := (Array.getElem?_eq_some_iff.mp hv).1
    refine wpAny_pyNext_list_item hit' hax' hv fun h₁ hit₁ hs₁ => ?_
    have hc₁ : h₁.IsCell c v' := by obtain ⟨o, ho, hd⟩ := hc'; exact ⟨o, hs₁.extBut _ _ hcI ho, hd⟩
    refine wpAny_assign_Name (wpAny_storeName_cell hkf hkx hcx hc₁ fun h₂ hc₂ hs₂ => ?_)
    have up : ∀ b o, b ≠ I → b ≠ c → H.get? b = some o → h₂.get? b = some o := fun b o hb hb' e => hs₂.extBut b o hb' (hs₁.extBut b o hb e)
    refine wpAny_mono (helt v _ _ (by rw [← Array.getElem?_toList] at hv; exact List.mem_of_getElem? hv) hc₂ fun b o h1 h2 h3 h4 e => up b o h3 h4 (hk' b o h1 h2 h3 h4 e)) (fun y s₄ h₄ => ?_) fun _ _ e => e
    obtain ⟨hy, h4, tk4, rfl, hk4⟩ := h₄
    have hacc4 : h4.PlainList D ys := hacc'.at fun o e => hk4 _ o (up _ o hDI hDc e)
    refine wpAny_list_append_plain hacc4 (fun h5 hl5 hs5 => ?_) (by omega)
    refine ⟨items.size + 1 - (i + 1), by omega, h5, tk4, _, ys.push y, i + 1, some v, rfl, ?_, ?_, hl5, ((hn'.at' fun o e => up _ o hCI hCc e).keeps hk4).at' fun o e => hs5.extBut _ o (Ne.symm hDC) e, ?_, by rw [Array.size_push, hyz], ?_, hlt, rfl,
      fun b o h1 h2 h3 h4 e => hs5.extBut b o h2 (hk4 b o (up b o h3 h4 (hk' b o h1 h2 h3 h4 e)))⟩
    · obtain ⟨o, e1, e2⟩ := hit₁; exact ⟨o, hs5.extBut _ _ (Ne.symm hDI) (hk4 _ _ (hs₂.extBut _ _ (Ne.symm hcI) e1)), e2⟩
    · exact hax'.at fun o e => hs5.extBut _ o haD (hk4 _ o (up _ o haI hac e))
    · obtain ⟨o, ho, hd⟩ := hc₂; exact ⟨o, hs5.extBut _ _ (Ne.symm hDc) (hk4 _ _ ho), hd⟩
    intro z hz
    rw [Array.toList_push] at hz
    rcases List.mem_append.mp hz with q | q
    · exact hF z q
    · rw [List.mem_singleton.mp q]; exact hy
end
end Mine

namespace Mine
set_option maxRecDepth 100000
set_option maxHeartbeats 4000000

theorem ints_of_all (P : Int → Prop) : ∀ (ys : List Value), (∀ y ∈ ys, ∃ k t, y = Value.int k t ∧ P k) → ∃ ks, IntsAre ys ks ∧ ks.length = ys.length ∧ ∀ k ∈ ks, P k
  | [], _ => ⟨[], .nil, rfl, by simp⟩
  | y :: r, h => by
    obtain ⟨ks, h1, h2, h3⟩ := ints_of_all P r fun z hz => h z (.tail _ hz)
    obtain ⟨k, t, rfl, hk⟩ := h y (.head _)
    refine ⟨k :: ks, .cons k t h1, by simp [h2], fun x hx => ?_⟩
    rcases List.mem_cons.mp hx with rfl | hx
    · exact hk
    · exact h3 x hx
theorem strs_of_all (c : Nat) : ∀ (ys : List Value), (∀ y ∈ ys, ∃ x t, y = Value.str x t ∧ x.length ≤ c) → ∃ ss, StrsAre ys ss ∧ ss.length = ys.length ∧ ∀ x ∈ ss, x.length ≤ c
  | [], _ => ⟨[], .nil, rfl, by simp⟩
  | y :: r, h => by
    obtain ⟨ks, h1, h2, h3⟩ := strs_of_all c r fun z hz => h z (.tail _ hz)
    obtain ⟨k, t, rfl, hk⟩ := h y (.head _)
    refine ⟨k :: ks, .cons k t h1, by simp [h2], fun x hx => ?_⟩
    rcases List.mem_cons.mp hx with rfl | hx
    · exact hk
    · exact h3 x hx

section
variable {prog : Program} {w : World} {A : Around} {E : Value → Shared → Prop} {env : Env} {s : Shared}

/-- name = [ints for j, b in enumerate(..)] -/
theorem assign_enum {elt iter : Expr} {y j b : Str} {py pj pb tp : Pos} {kk : Nat} {scope : Scope} {cl : List (Str × Addr)} {pos spos : Pos} {Q : Flow → Shared → Prop} {m : Str → Option Value}
    (hh : A.handled = none)
    (hsw : swapsWith (.ListComp elt [⟨.Tuple [.Name j pj, .Name b pb] kk tp, iter, [], 0⟩] scope pos) (some (.Name y py)) spos.line env = pure true)
    (hclos : closureFor scope env = pure cl) (hcell : ∀ z ∈ scope.names, z.2 ≠ .cell) (hkind : scope.kind = .function)
    (hnames : ∀ z ∈ scope.names, z.2 = .local → scope.names.lookup z.1 = some .local) (hj : scope.names.lookup j = some .local) (hb : scope.names.lookup b = some .local) (hjb : j ≠ b)
    (hy : env.kindOf y = some .local) (hp : (env.scope.kind == .class || (env.scope.kind == .module && env.locals != env.globals)) = false)
    (hn : s.heap.Ns env.locals m) (c : Nat) (hc : c ≤ sizeLine) (P : Int → Prop)
    (hi0 : wpAny (model prog w) A (eval iter env) (fun v s₁ => ∃ e it l items, v = .ref e ∧ IsEnum s₁.heap e it 0 .none ∧ s₁.heap.IsListIter it l 0 ∧ s₁.heap.IsList l items ∧ items.size = c ∧ (∀ v ∈ items.toList, ∃ n t, v = .int n t) ∧
      e ≠ it ∧ l ≠ e ∧ l ≠ it ∧ s.heap.get? e = none ∧ s.heap.get? it = none ∧ Keeps s s₁) E s)
    (helt : ∀ C (i : Nat) n t t' (s₃ : Shared) m₃ E', s₃.heap.Ns C m₃ → m₃ j = some (.int (i : Nat) t) → m₃ b = some (.int n t') → Ext s.heap s₃.heap →
      wpAny (model prog w) A (eval elt (compEnvC scope cl C env)) (fun v s₄ => (∃ k t, v = .int k t ∧ P k) ∧ Keeps s₃ s₄) E' s₃)
    (hQ : ∀ D h' tk vs ks, h'.PlainList D (vs : List Value).toArray → IntsAre vs ks → ks.length = c → (∀ k ∈ ks, P k) → s.heap.get? D = none → h'.Ns env.locals (fun z => if z = y then some (.ref D) else m z) →
      (∀ b o, b ≠ env.locals → s.heap.get? b = some o → h'.get? b = some o) → Q .next { s with heap := h', toks := tk })
    (hs : ∀ x, foldedSetIterable iter env x = pure x) :
    wpAny (model prog w) A (exec (.Assign [.Name y py] (.ListComp elt [⟨.Tuple [.Name j pj, .Name b pb] kk tp, iter, [], 0⟩] scope pos) spos) env) Q E s := by
  rw [exec_Assign_Name_used _ _ _ _ hsw]
  refine wpAny_bind (wpAny_standAt (wpAny_bind ?_))
  show wpAny _ A (do let _ ← comprehension (.ListComp elt [⟨.Tuple [.Name j pj, .Name b pb] kk tp, iter, [], 0⟩] scope pos) scope env _ (newList []) false (eval iter env) (some (assign (.Name y py) env))) _ _ s
  refine wpAny_bind (wpAny_mono (wpAny_comprehension_free (use := some (assign (.Name y py) env)) (Q := fun _ s' => Q .next s') rfl hs hclos hkind hnames
    (wpAny_mono hi0 (fun v s₁ h₁ => ?_) fun _ _ e => e)) (fun _ s' hq => wpAny_pure (wpAny_pure hq)) fun _ _ e => e)
  obtain ⟨e, it, l, items, rfl, g1, g2, g3, g4, g5, d1, d2, d3, n1, n2, h1, tk1, rfl, x1⟩ := h₁
  refine wpAny_pyIter_enum g1 ?_
  have hW := WalksT.enumerate (prog := prog) (w := w) hh e it l d1 d2 d3 items
  have hst : (∃ old, IsEnum h1 e it (0 : Nat) old) ∧ h1.IsListIter it l 0 ∧ h1.IsList l items := ⟨⟨_, g1⟩, g2, g3⟩
  have hLlt : @LT.lt Nat _ env.locals h1.objs.size := by obtain ⟨o, _, _, ho, _⟩ := hn; exact Heap.lt_size (x1 _ _ ho)
  have elt1 : @LT.lt Nat _ e h1.objs.size := Heap.lt_size g1
  have itlt : @LT.lt Nat _ it h1.objs.size := by obtain ⟨o, ho, _⟩ := g2; exact Heap.lt_size ho
  have llt : @LT.lt Nat _ l h1.objs.size := by obtain ⟨o, ho, _⟩ := g3; exact Heap.lt_size ho
  have hLe : env.locals ≠ e := by rintro rfl; obtain ⟨o, _, _, ho, _⟩ := hn; rw [n1] at ho; cases ho
  have hLi : env.locals ≠ it := by rintro rfl; obtain ⟨o, _, _, ho, _⟩ := hn; rw [n2] at ho; cases ho
  refine block_gen (RR := fun acc C => compPost (model prog w) A E (some (assign (.Name y py) env)) (fun _ s' => Q .next s') acc C) hcell hkind ?_ ?_
  · intro h tk Q' E' x q
    exact wpAny_pyIter_enum (s := { s with heap := h, toks := tk }) (x _ _ g1) q
  intro C D h2 tk2 k1 k2 k3 k4 k5 k6
  have k4' : @LE.le Nat _ h1.objs.size C := k4
  have k5' : @LE.le Nat _ h1.objs.size D := k5
  have neC : ∀ b, @LT.lt Nat _ b h1.objs.size → b ≠ C := fun b hb => Nat.ne_of_lt (Nat.lt_of_lt_of_le hb k4')
  have neD : ∀ b, @LT.lt Nat _ b h1.objs.size → b ≠ D := fun b hb => Nat.ne_of_lt (Nat.lt_of_lt_of_le hb k5')
  refine pair_run (s := { s with heap := h2, toks := tk2 }) (cenv := compEnvC scope cl C env) (F := fun v => ∃ k t, v = .int k t ∧ P k) (G := fun (i : Nat) v₁ v₂ => ∃ t n t', v₁ = .int (i : Nat) t ∧ v₂ = .int n t') hW hh (lookup_relabel_local hj) (lookup_relabel_local hb) hjb (by simp [compEnvC, relabel, hkind])
    (hW.frame _ _ _ hst fun b _ o q => k3 b o q) k2 k1 ?_ ?_ (Ne.symm k6) (by omega) ?_ ?_ ?_
  · intro hm
    simp only [List.mem_cons, List.not_mem_nil, or_false] at hm
    rcases hm with q | q | q
    · exact neD e elt1 q.symm
    · exact neD it itlt q.symm
    · exact neD l llt q.symm
  · intro hm
    simp only [List.mem_cons, List.not_mem_nil, or_false] at hm
    rcases hm with q | q | q
    · exact neC e elt1 q.symm
    · exact neC it itlt q.symm
    · exact neC l llt q.symm
  · rintro i vals ⟨t, v, hv, rfl⟩
    obtain ⟨n, t', rfl⟩ := g5 v (by rw [← Array.getElem?_toList] at hv; exact List.mem_of_getElem? hv)
    exact ⟨_, _, rfl, t, n, t', rfl, rfl⟩
  · rintro i v₁ v₂ s₃ m₃ E' ⟨t, n, t', rfl, rfl⟩ f1 f2 f3 f4
    refine helt C i n t t' s₃ m₃ E' f1 f2 f3 fun b o q => ?_
    have hb : @LT.lt Nat _ b h1.objs.size := Heap.lt_size (x1 b o q)
    refine f4 b o (neC b hb) (neD b hb) ?_ (k3 b o (x1 b o q))
    intro hm
    simp only [List.mem_cons, List.not_mem_nil, or_false] at hm
    rcases hm with rfl | rfl
    · rw [n1] at q; cases q
    · rw [n2] at q; cases q
  · intro h3 tk3 m3 ys f1 f2 f3 f4 f5
    have up : ∀ b o, s.heap.get? b = some o → h3.get? b = some o := fun b o q => by
      have hb : @LT.lt Nat _ b h1.objs.size := Heap.lt_size (x1 b o q)
      refine f5 b o (neC b hb) (neD b hb) ?_ (k3 b o (x1 b o q))
      intro hm
      simp only [List.mem_cons, List.not_mem_nil, or_false] at hm
      rcases hm with rfl | rfl
      · rw [n1] at q; cases q
      · rw [n2] at q; cases q
    show wpAny _ A (assign (.Name y py) env (.ref D)) _ _ _
    refine wpAny_assign_Name (wpAny_storeName_local hy (hn.at' fun o e => up _ o e) (fun h₂ hn₂ hs₂ => ?_) hp)
    have hLC := neC _ hLlt
    have hLD := neD _ hLlt
    refine ⟨m3, f1.sameBut hs₂ (Ne.symm hLC), fun h₃ hs₃ => ?_⟩
    obtain ⟨ks, i1, i2, i3⟩ := ints_of_all P ys.toList f4
    refine hQ D h₃ _ ys.toList ks ?_ i1 (by rw [i2, Array.length_toList, f3, g4]) i3 ?_ (hn₂.sameBut hs₃ hLC) ?_
    · exact (f2.extBut hs₂.extBut (Ne.symm hLD)).extBut hs₃.extBut (Ne.symm k6)
    · cases q : s.heap.get? D with
      | none => rfl
      | some o => exact absurd rfl (neD D (Heap.lt_size (x1 _ _ q)))
    · intro b o hb q
      exact hs₃.extBut b o (neC b (Heap.lt_size (x1 b o q))) (hs₂.extBut b o hb (up b o q))

/-- name = [texts for x in a list of the frame's], x in a cell -/
theorem assign_cellcomp {elt iter : Expr} {y x : Str} {py px : Pos} {scope : Scope} {cl : List (Str × Addr)} {pos spos : Pos} {Q : Flow → Shared → Prop} {m : Str → Option Value} {ax : Addr} {items : Array Value}
    (hh : A.handled = none)
    (hsw : swapsWith (.ListComp elt [⟨.Name x px, iter, [], 0⟩] scope pos) (some (.Name y py)) spos.line env = pure true)
    (hclos : closureFor scope env = pure cl) (hkind : scope.kind = .function)
    (hnames : ∀ z ∈ scope.names, z.2 = .local → scope.names.lookup z.1 = some .local)
    (hkx : ∀ C c, (compEnvC scope ((x, c) :: cl) C env).kindOf x = some .cell)
    (hnew : ∀ (Q : Env → Shared → Prop) (E' : Value → Shared → Prop) (s : Shared), (∀ h', h'.Ns s.heap.objs.size (fun _ => none) → h'.IsCell (s.heap.objs.size + 1) none → Ext s.heap h' →
        Q (newEnv scope s.heap.objs.size env.globals ((x, s.heap.objs.size + 1) :: cl) env.qual none .none (some env) builtinsNs) { s with heap := h' }) →
      wpAny (model prog w) A (newFunctionEnv scope env.globals cl [] env.qual none .none (some env)) Q E' s)
    (hy : env.kindOf y = some .local) (hp : (env.scope.kind == .class || (env.scope.kind == .module && env.locals != env.globals)) = false)
    (hn : s.heap.Ns env.locals m) (hax : s.heap.IsList ax items) (hsz : items.size ≤ sizeLine) (c : Nat)
    (hi0 : ∀ Q' : Value → Shared → Prop, Q' (.ref ax) s → wpAny (model prog w) A (eval iter env) Q' E s)
    (helt : ∀ C cc v (s₃ : Shared) E', v ∈ items.toList → s₃.heap.IsCell cc (some v) → Ext s.heap s₃.heap →
      wpAny (model prog w) A (eval elt (compEnvC scope ((x, cc) :: cl) C env)) (fun v s₄ => (∃ z t, v = .str z t ∧ z.length ≤ c) ∧ Keeps s₃ s₄) E' s₃)
    (hQ : ∀ D h' tk vs ss, h'.PlainList D (vs : List Value).toArray → StrsAre vs ss → ss.length = items.size → (∀ z ∈ ss, z.length ≤ c) → s.heap.get? D = none → h'.Ns env.locals (fun z => if z = y then some (.ref D) else m z) →
      (∀ b o, b ≠ env.locals → s.heap.get? b = some o → h'.get? b = some o) → Q .next { s with heap := h', toks := tk })
    (hs : ∀ x, foldedSetIterable iter env x = pure x) :
    wpAny (model prog w) A (exec (.Assign [.Name y py] (.ListComp elt [⟨.Name x px, iter, [], 0⟩] scope pos) spos) env) Q E s := by
  rw [exec_Assign_Name_used _ _ _ _ hsw]
  refine wpAny_bind (wpAny_standAt (wpAny_bind ?_))
  show wpAny _ A (do let _ ← comprehension (.ListComp elt [⟨.Name x px, iter, [], 0⟩] scope pos) scope env _ (newList []) false (eval iter env) (some (assign (.Name y py) env))) _ _ s
  refine wpAny_bind (wpAny_mono (wpAny_comprehension_free (use := some (assign (.Name y py) env)) (Q := fun _ s' => Q .next s') rfl hs hclos hkind hnames
    (hi0 _ (wpAny_pyIter_list hax ?_))) (fun _ s' hq => wpAny_pure (wpAny_pure hq)) fun _ _ e => e)
  have hI := (Heap.get?_push_size (h := s.heap) (o := { cls := .type "list_iterator", data := .fields #[.ref ax, .int 0 0] }) rfl)
  have x1 : Ext s.heap (s.heap.push { cls := .type "list_iterator", data := .fields #[.ref ax, .int 0 0] }) := fun b o e => Heap.get?_push_of_some _ e
  generalize s.heap.push { cls := .type "list_iterator", data := .fields #[.ref ax, .int 0 0] } = h1 at hI x1 ⊢
  have hit : h1.IsListIter s.heap.objs.size ax 0 := ⟨_, hI, rfl, rfl⟩
  have n1 : s.heap.get? s.heap.objs.size = none := Heap.get?_none_of_le (Nat.le_refl _)
  generalize s.heap.objs.size = I at hI hit n1 ⊢
  have hLlt : @LT.lt Nat _ env.locals h1.objs.size := by obtain ⟨o, _, _, ho, _⟩ := hn; exact Heap.lt_size (x1 _ _ ho)
  have Ilt : @LT.lt Nat _ I h1.objs.size := Heap.lt_size hI
  have hax1 : h1.IsList ax items := hax.at fun o e => x1 _ o e
  have alt : @LT.lt Nat _ ax h1.objs.size := by obtain ⟨o, ho, _⟩ := hax1; exact Heap.lt_size ho
  refine block_cell (x := x) (RR := fun acc C => compPost (model prog w) A E (some (assign (.Name y py) env)) (fun _ s' => Q .next s') acc C) hnew ?_ ?_
  · intro h tk Q' E' xx q
    exact wpAny_pyIter_listiter (s := { s with heap := h, toks := tk }) (hit.at fun o e => xx _ o e) q
  intro C D cc h2 tk2 k1 k2 kc k3 k4 k5 k7 k6 k8 k9
  have k4' : @LE.le Nat _ h1.objs.size C := k4
  have k5' : @LE.le Nat _ h1.objs.size D := k5
  have k7' : @LE.le Nat _ h1.objs.size cc := k7
  have neC : ∀ b, @LT.lt Nat _ b h1.objs.size → b ≠ C := fun b hb => Nat.ne_of_lt (Nat.lt_of_lt_of_le hb k4')
  have neD : ∀ b, @LT.lt Nat _ b h1.objs.size → b ≠ D := fun b hb => Nat.ne_of_lt (Nat.lt_of_lt_of_le hb k5')
  have nec : ∀ b, @LT.lt Nat _ b h1.objs.size → b ≠ cc := fun b hb => Nat.ne_of_lt (Nat.lt_of_lt_of_le hb k7')
  refine cell_run (s := { s with heap := h2, toks := tk2 }) (cenv := compEnvC scope ((x, cc) :: cl) C env) (F := fun v => ∃ z t, v = .str z t ∧ z.length ≤ c) (c := cc) hh (hkx C cc) hkind (by simp [compEnvC]) (hit.at fun o e => k3 _ o e) (hax1.at fun o e => k3 _ o e) k2 k1 kc
    (neD ax alt) k8 (Ne.symm (neC I Ilt)) (Ne.symm (nec I Ilt)) hsz ?_ ?_
  · intro v s₃ E' hv f1 f2
    refine helt C cc v s₃ E' hv f1 fun b o q => ?_
    have hb : @LT.lt Nat _ b h1.objs.size := Heap.lt_size (x1 b o q)
    exact f2 b o (neC b hb) (neD b hb) (by rintro rfl; rw [n1] at q; cases q) (nec b hb) (k3 b o (x1 b o q))
  · intro h3 tk3 m3 ys f1 f2 f3 f4 f5
    have up : ∀ b o, s.heap.get? b = some o → h3.get? b = some o := fun b o q => by
      have hb : @LT.lt Nat _ b h1.objs.size := Heap.lt_size (x1 b o q)
      exact f5 b o (neC b hb) (neD b hb) (by rintro rfl; rw [n1] at q; cases q) (nec b hb) (k3 b o (x1 b o q))
    show wpAny _ A (assign (.Name y py) env (.ref D)) _ _ _
    refine wpAny_assign_Name (wpAny_storeName_local hy (hn.at' fun o e => up _ o e) (fun h₂ hn₂ hs₂ => ?_) hp)
    have hLC := neC _ hLlt
    have hLD := neD _ hLlt
    refine ⟨m3, f1.sameBut hs₂ (Ne.symm hLC), fun h₃ hs₃ => ?_⟩
    obtain ⟨ss, i1, i2, i3⟩ := strs_of_all c ys.toList f4
    refine hQ D h₃ _ ys.toList ss ?_ i1 (by rw [i2, Array.length_toList, f3]) i3 ?_ (hn₂.sameBut hs₃ hLC) ?_
    · exact (f2.extBut hs₂.extBut (Ne.symm hLD)).extBut hs₃.extBut (Ne.symm k6)
    · cases q : s.heap.get? D with
      | none => rfl
      | some o => exact absurd rfl (neD D (Heap.lt_size (x1 _ _ q)))
    · intro b o hb q
      exact hs₃.extBut b o (neC b (Heap.lt_size (x1 b o q))) (hs₂.extBut b o hb (up b o q))

/-- the loop whose element writes the slots of the frame's record -/
theorem chg_run {R : Result → Shared → Prop} {elt iter : Expr} {x : Str} {px : Pos} {scope : Scope} {pos : Pos} {I D ax L : Addr} {cenv : Env} {items : Array Value} {m : Str → Option Value} {F : Value → Prop}
    (hh : A.handled = none) (hkx : cenv.kindOf x = some .local) (hp : (cenv.scope.kind == .class || (cenv.scope.kind == .module && cenv.locals != cenv.globals)) = false)
    (hit : s.heap.IsListIter I ax 0) (hax : s.heap.IsList ax items) (hacc : s.heap.PlainList D #[]) (hn : s.heap.Ns cenv.locals m)
    (haD : ax ≠ D) (hCI : cenv.locals ≠ I) (hCL : cenv.locals ≠ L) (hDL : D ≠ L) (hIL : I ≠ L) (haL : ax ≠ L) (hsz : items.size ≤ sizeLine)
    (helt : ∀ v (s₃ : Shared) m₃ E', v ∈ items.toList → s₃.heap.Ns cenv.locals m₃ → m₃ x = some v → Chg [cenv.locals, D, I] [L] s.heap s₃.heap →
      wpAny (model prog w) A (eval elt cenv) (fun y s₄ => F y ∧ ∃ h' tk', s₄ = { s₃ with heap := h', toks := tk' } ∧ Chg [] [L] s₃.heap h') E' s₃)
    (hR : ∀ h' tk m' ys, h'.Ns cenv.locals m' → h'.PlainList D ys → ys.size = items.size → (∀ y ∈ ys.toList, F y) → Chg [cenv.locals, D, I] [L] s.heap h' → R (.ok .next) { s with heap := h', toks := tk }) :
    codeAny (model prog w) A (.compLoop (.ListComp elt [⟨.Name x px, iter, [], 0⟩] scope pos) 0 (.ref I) (.ref D) cenv) R s := by
  have hDI : D ≠ I := by rintro rfl; exact not_list_iter hit _ hacc.isList
  have hDC : D ≠ cenv.locals := by rintro rfl; exact not_list_ns hn _ hacc.isList
  have haI : ax ≠ I := by rintro rfl; exact not_list_iter hit _ hax
  have haC : ax ≠ cenv.locals := by rintro rfl; exact not_list_ns hn _ hax
  refine codeAny_compLoop_list (fun k s' => ∃ h' tk m' ys i, s' = { s with heap := h', toks := tk } ∧ h'.IsListIter I ax i ∧ h'.IsList ax items ∧ h'.PlainList D ys ∧ h'.Ns cenv.locals m' ∧ ys.size = i ∧ (∀ y ∈ ys.toList, F y) ∧ i ≤ items.size ∧ k = items.size + 1 - i ∧
    Chg [cenv.locals, D, I] [L] s.heap h') ?_ (items.size + 1) ⟨s.heap, s.toks, m, #[], 0, rfl, hit, hax, hacc, hn, rfl, by simp, Nat.zero_le _, rfl, Chg.refl _ _ _⟩
  rintro k s' ⟨H, tk, m', ys, i, rfl, hit', hax', hacc', hn', hyz, hF, hi, rfl, hk'⟩
  have ofBut : ∀ {a : Addr} {h h' : Heap}, Heap.ExtBut a h h' → a ∈ [cenv.locals, D, I] → Chg [cenv.locals, D, I] [L] h h' := fun {a h h'} e ha =>
    ⟨fun b o h1 _ q => e b o (fun z => h1 (z ▸ ha)) q, fun b o h1 q => ⟨o.slots, e b o (fun z => h1 (z ▸ ha)) q⟩⟩
  cases hv : items[i]? with
  | none =>
    have hin : i = items.size := Nat.le_antisymm hi (by simpa using hv)
    refine wpAny_pyNext_list_end hh hit' hax' hv fun h₁ e₁ => ?_
    exact hR h₁ tk m' ys (hn'.at' fun o e => e₁ _ o hCI e) (hacc'.extBut e₁ hDI) (hyz.trans hin) hF (hk'.trans (ofBut e₁ (by simp)))
  | some v =>
    have hlt : i < items.size := (Array.getElem?_eq_some_iff.mp hv).1
    refine wpAny_pyNext_list_item hit' hax' hv fun h₁ hit₁ hs₁ => ?_
    refine wpAny_assign_Name (wpAny_storeName_local hkx (hn'.at' fun o e => hs₁.extBut _ o hCI e) (fun h₂ hn₂ hs₂ => ?_) hp)
    have up : ∀ b o, b ≠ I → b ≠ cenv.locals → H.get? b = some o → h₂.get? b = some o := fun b o hb hb' e => hs₂.extBut b o hb' (hs₁.extBut b o hb e)
    have c2 : Chg [cenv.locals, D, I] [L] s.heap h₂ := (hk'.trans (ofBut hs₁.extBut (by simp))).trans (ofBut hs₂.extBut (by simp))
    refine wpAny_mono (helt v _ _ _ (by rw [← Array.getElem?_toList] at hv; exact List.mem_of_getElem? hv) hn₂ (by simp) c2) (fun y s₄ h₄ => ?_) fun _ _ e => e
    obtain ⟨hy, h4, tk4, rfl, c4⟩ := h₄
    have up4 : ∀ b o, b ≠ L → h₂.get? b = some o → h4.get? b = some o := fun b o hb e => c4.1 b o (by simp) (fun q => hb (List.mem_singleton.mp q)) e
    have hacc4 : h4.PlainList D ys := hacc'.at fun o e => up4 _ o hDL (up _ o hDI hDC e)
    refine wpAny_list_append_plain hacc4 (fun h5 hl5 hs5 => ?_) (by omega)
    refine ⟨items.size + 1 - (i + 1), by omega, h5, tk4, _, ys.push y, i + 1, rfl, ?_, ?_, hl5, (hn₂.at' fun o e => up4 _ o hCL e).at' fun o e => hs5.extBut _ o (Ne.symm hDC) e, by rw [Array.size_push, hyz], ?_, hlt, rfl,
      (c2.trans (c4.mono (by simp))).trans (ofBut hs5.extBut (by simp))⟩
    · obtain ⟨o, e1, e2⟩ := hit₁; exact ⟨o, hs5.extBut _ _ (Ne.symm hDI) (up4 _ _ hIL (hs₂.extBut _ _ (Ne.symm hCI) e1)), e2⟩
    · exact hax'.at fun o e => hs5.extBut _ o haD (up4 _ o haL (up _ o haI haC e))
    intro z hz
    rw [Array.toList_push] at hz
    rcases List.mem_append.mp hz with q | q
    · exact hF z q
    · rw [List.mem_singleton.mp q]; exact hy

/-- [.. for x in a list], the element writing the slots of the frame's record -/
theorem eval_chg {elt iter : Expr} {x : Str} {px : Pos} {scope : Scope} {cl : List (Str × Addr)} {pos : Pos} {Q : Value → Shared → Prop} {m : Str → Option Value} {ax : Addr} {items : Array Value} {F : Value → Prop}
    (hh : A.handled = none) (hclos : closureFor scope env = pure cl) (hcell : ∀ z ∈ scope.names, z.2 ≠ .cell) (hkind : scope.kind = .function)
    (hnames : ∀ z ∈ scope.names, z.2 = .local → scope.names.lookup z.1 = some .local) (hx : scope.names.lookup x = some .local)
    (hn : s.heap.Ns env.locals m) (hax : s.heap.IsList ax items) (hsz : items.size ≤ sizeLine)
    (hi0 : ∀ Q' : Value → Shared → Prop, Q' (.ref ax) s → wpAny (model prog w) A (eval iter env) Q' E s)
    (helt : ∀ C S v (s₃ : Shared) m₃ E', v ∈ items.toList → s₃.heap.Ns C m₃ → m₃ x = some v → (∀ b ∈ S, s.heap.get? b = none) → Chg S [env.locals] s.heap s₃.heap →
      wpAny (model prog w) A (eval elt (compEnvC scope cl C env)) (fun y s₄ => F y ∧ ∃ h' tk', s₄ = { s₃ with heap := h', toks := tk' } ∧ Chg [] [env.locals] s₃.heap h') E' s₃)
    (hQ : ∀ D h' tk ys, h'.PlainList D ys → ys.size = items.size → (∀ y ∈ ys.toList, F y) → s.heap.get? D = none → Chg [] [env.locals] s.heap h' → Q (.ref D) { s with heap := h', toks := tk })
    (hs : ∀ x, foldedSetIterable iter env x = pure x) :
    wpAny (model prog w) A (eval (.ListComp elt [⟨.Name x px, iter, [], 0⟩] scope pos) env) Q E s := by
  rw [eval_ListComp]
  refine wpAny_comprehension_free (use := none) rfl hs hclos hkind hnames (hi0 _ (wpAny_pyIter_list hax ?_))
  have hI := (Heap.get?_push_size (h := s.heap) (o := { cls := .type "list_iterator", data := .fields #[.ref ax, .int 0 0] }) rfl)
  have x1 : Ext s.heap (s.heap.push { cls := .type "list_iterator", data := .fields #[.ref ax, .int 0 0] }) := fun b o e => Heap.get?_push_of_some _ e
  generalize s.heap.push { cls := .type "list_iterator", data := .fields #[.ref ax, .int 0 0] } = h1 at hI x1 ⊢
  have hit : h1.IsListIter s.heap.objs.size ax 0 := ⟨_, hI, rfl, rfl⟩
  have n1 : s.heap.get? s.heap.objs.size = none := Heap.get?_none_of_le (Nat.le_refl _)
  generalize s.heap.objs.size = I at hI hit n1 ⊢
  have hLlt : @LT.lt Nat _ env.locals h1.objs.size := by obtain ⟨o, _, _, ho, _⟩ := hn; exact Heap.lt_size (x1 _ _ ho)
  have Ilt : @LT.lt Nat _ I h1.objs.size := Heap.lt_size hI
  have hax1 : h1.IsList ax items := hax.at fun o e => x1 _ o e
  have alt : @LT.lt Nat _ ax h1.objs.size := by obtain ⟨o, ho, _⟩ := hax1; exact Heap.lt_size ho
  have hIL : I ≠ env.locals := by rintro rfl; obtain ⟨o, _, _, ho, _⟩ := hn; rw [n1] at ho; cases ho
  have haL : ax ≠ env.locals := by rintro rfl; exact not_list_ns hn _ hax
  refine block_gen (RR := fun acc C => compPost (model prog w) A E none Q acc C) hcell hkind ?_ ?_
  · intro h tk Q' E' xx q
    exact wpAny_pyIter_listiter (s := { s with heap := h, toks := tk }) (hit.at fun o e => xx _ o e) q
  intro C D h2 tk2 k1 k2 k3 k4 k5 k6
  have k4' : @LE.le Nat _ h1.objs.size C := k4
  have k5' : @LE.le Nat _ h1.objs.size D := k5
  have neC : ∀ b, @LT.lt Nat _ b h1.objs.size → b ≠ C := fun b hb => Nat.ne_of_lt (Nat.lt_of_lt_of_le hb k4')
  have neD : ∀ b, @LT.lt Nat _ b h1.objs.size → b ≠ D := fun b hb => Nat.ne_of_lt (Nat.lt_of_lt_of_le hb k5')
  have fresh : ∀ b, h1.objs.size ≤ b → s.heap.get? b = none := fun b hb => by
    cases q : s.heap.get? b with
    | none => rfl
    | some o => exact absurd (Heap.lt_size (x1 _ _ q)) (Nat.not_lt.mpr hb)
  have hS : ∀ b ∈ [C, D, I], s.heap.get? b = none := fun b hb => by
    simp only [List.mem_cons, List.not_mem_nil, or_false] at hb
    rcases hb with rfl | rfl | rfl
    · exact fresh _ k4
    · exact fresh _ k5
    · exact n1
  have c0 : Chg [C, D, I] [env.locals] s.heap h2 := Chg.of_ext _ (Ext.trans x1 k3)
  refine chg_run (s := { s with heap := h2, toks := tk2 }) (cenv := compEnvC scope cl C env) (L := env.locals) (F := F) hh (lookup_relabel_local hx) (by simp [compEnvC, relabel, hkind]) (hit.at fun o e => k3 _ o e) (hax1.at fun o e => k3 _ o e) k2 k1
    (neD ax alt) (Ne.symm (neC I Ilt)) (Ne.symm (neC _ hLlt)) (Ne.symm (neD _ hLlt)) hIL haL hsz ?_ ?_
  · intro v s₃ m₃ E' hv f1 f2 f3
    exact helt C [C, D, I] v s₃ m₃ E' hv f1 f2 hS (c0.trans f3)
  · intro h3 tk3 m3 ys f1 f2 f3 f4 f5
    refine ⟨m3, f1, fun h₃ hs₃ => ?_⟩
    have c3 : Chg [C, D, I] [env.locals] s.heap h₃ := (c0.trans f5).trans ((Chg.of_same hs₃).mono (by simp))
    refine hQ D h₃ tk3 ys (f2.extBut hs₃.extBut (Ne.symm k6)) f3 f4 (fresh _ k5) ⟨fun b o _ h2 q => c3.1 b o (fun mm => by rw [hS b mm] at q; cases q) h2 q, fun b o _ q => c3.2 b o (fun mm => by rw [hS b mm] at q; cases q) q⟩
end
end Mine

namespace Mine
set_option maxRecDepth 100000
set_option maxHeartbeats 4000000

theorem pick_mem {items : Array Value} {lo hi st : Option Int} {v : Value} (h : v ∈ (slicePick items lo hi st).toList) : v ∈ items.toList := by
  unfold slicePick at h
  obtain ⟨i, _, hi⟩ := List.mem_filterMap.mp (by simpa using h)
  rw [← Array.getElem?_toList] at hi
  exact List.mem_of_getElem? hi
theorem pick_ints {vs : List Value} {ns : List Int} (h : IntsAre vs ns) (lo hi st : Option Int) : ∃ ks, IntsAre (slicePick vs.toArray lo hi st).toList ks := by
  obtain ⟨ks, h1, _⟩ := ints_of_all (fun _ => True) (slicePick vs.toArray lo hi st).toList fun y hy => by
    obtain ⟨k, t, e⟩ := IntsAre.all h y (pick_mem hy)
    exact ⟨k, t, e, trivial⟩
  exact ⟨ks, h1⟩

theorem Keeps.of_ext {s : Shared} {h' : Heap} {tk : Nat} (x : Ext s.heap h') : Keeps s { s with heap := h', toks := tk } := ⟨h', tk, rfl, x⟩

theorem boot_enum : bootBuiltins (Str.ofString "enumerate") = some (.type "enumerate") := by decide +kernel
theorem boot_sum : bootBuiltins (Str.ofString "sum") = some (.builtin "sum") := by decide +kernel
theorem boot_sorted : bootBuiltins (Str.ofString "sorted") = some (.builtin "sorted") := by decide +kernel
theorem boot_min : bootBuiltins (Str.ofString "min") = some (.builtin "min") := by decide +kernel
theorem boot_max : bootBuiltins (Str.ofString "max") = some (.builtin "max") := by decide +kernel

section
variable {w : World} {mean : ExcName → Option Value} {mg mb : Str → Option Value} {base h : Heap} {L : Addr}
/-- the ground of the law's own frame -/
theorem gr_law {dp un : Nat} {gd : Option (List Code)} {env : Env} {m : Str → Option Value} (X : (hd.heap_39 w.params).In base) (T : Top hd.view_39 (looseW hd.view_39 []) mean mg mb base)
    (hk : env.scope.kind = .function) (hf : env.frame = some L) (hlo : env.locals = L) (hL : base.objs.size ≤ L) (hn : h.Ns L m) (e : Ext base h) : Gr w mean mg mb dp un gd [env] base h := by
  have hnew : base.get? L = none := Heap.get?_none_of_le hL
  refine ⟨⟨rfl, e, ?_⟩, X.keeps e, T.keeps e⟩
  exact .cons (by rw [hk]; decide) hf hn hnew trivial
end

section
variable {M : Model} {A : Around} {E : Value → Shared → Prop} {s : Shared} {env : Env}
/-- a comprehension's block with one cell -/
theorem new_cell {scope : Scope} {n0 x n2 : Str} {globals : Addr} {qual : Str} {Q : Env → Shared → Prop} (hnm : scope.names = [(n0, .local), (x, .cell), (n2, .globalImplicit)])
    (h : ∀ h', h'.Ns s.heap.objs.size (fun _ => none) → h'.IsCell (s.heap.objs.size + 1) none → Ext s.heap h' → Q (newEnv scope s.heap.objs.size globals [(x, s.heap.objs.size + 1)] qual none .none (some env) builtinsNs) { s with heap := h' }) :
    wpAny M A (newFunctionEnv scope globals [] [] qual none .none (some env)) Q E s := by
  simp only [newFunctionEnv, Option.isSome_some, if_true]
  refine wpAny_bind (wpAny_alloc ?_)
  refine wpAny_bind (wpAny_layCells _ (fun name kind cells => by cases hkc : kind == NameKind.cell <;> simp [hkc]) _ _ _ _ ?_)
  rw [hnm]
  have e1 : cellsFrom (s.heap.push { cls := .type "dict", data := .dict #[] }).objs.size [(n0, NameKind.local), (x, .cell), (n2, .globalImplicit)] [] = [(x, s.heap.objs.size + 1)] := by
    rw [Heap.size_push]; rfl
  have e2 : pushCells (s.heap.push { cls := .type "dict", data := .dict #[] }) [(n0, NameKind.local), (x, .cell), (n2, .globalImplicit)] = (s.heap.push { cls := .type "dict", data := .dict #[] }).push { cls := .type "cell", data := .cell none } := rfl
  show wpAny M A (forIn [] PUnit.unit _ >>= _) Q E { s with heap := pushCells (s.heap.push { cls := .type "dict", data := .dict #[] }) [(n0, NameKind.local), (x, .cell), (n2, .globalImplicit)] }
  rw [e2]
  rw [List.forIn_nil]
  refine wpAny_bind (wpAny_pure (wpAny_pure ?_))
  have e1' : cellsFrom ({ s with heap := s.heap.push { cls := .type "dict", data := .dict #[] } } : Shared).heap.objs.size [(n0, NameKind.local), (x, .cell), (n2, .globalImplicit)] [] = [(x, s.heap.objs.size + 1)] := e1
  rw [e1']
  refine h _ ((Heap.Ns.new s.heap (.type "dict")).push _) ⟨{ cls := .type "cell", data := .cell none }, ?_, rfl⟩ fun b o e => Heap.get?_push_of_some _ (Heap.get?_push_of_some _ e)
  have := Heap.get?_push_size (h := s.heap.push { cls := .type "dict", data := .dict #[] }) (o := { cls := .type "cell", data := .cell none }) rfl
  rw [Heap.size_push] at this
  exact this
end

section
variable {prog : Program} {w : World} {A : Around} {E : Value → Shared → Prop} {s : Shared} {Q : Value → Shared → Prop}
theorem join_pure {D : Addr} {items : Array Value} {ys : List Str} {x : Str} {t : Tok} (hl : s.heap.IsList D items) (hi : StrsAre items.toList ys) (hsep : x.length ≤ 64) (c : Nat) (hc : ∀ y ∈ ys, y.length ≤ c) (hok : ys.length * (c + 64) ≤ 16777216)
    (h : ∀ t' k, Q (.str (Str.join x ys) t') { s with toks := k }) : wpAny (model prog w) A (call (.builtin "str.join") [.str x t, .ref D]) Q E s := by
  refine join_listC hl hi hsep ?_ fun t' k => ?_
  · have := StrLaws.sumLen_le (B := c) ys hc
    rw [Nat.mul_add] at hok
    omega
  · have e : Txt.join x ys = Str.join x ys := StrLaws.glued_eq_join x ys
    rw [e]; exact h t' k
theorem join_len {x : Str} {ys : List Str} {c : Nat} (hc : ∀ y ∈ ys, y.length ≤ c) : (Str.join x ys).length ≤ ys.length * (c + x.length) := by
  have h1 := StrLaws.join_length_le x ys
  have h2 := StrLaws.sumLen_le (B := c) ys hc
  rw [Nat.mul_add]
  omega
end

theorem paired_all {F : Value → Value → Prop} {G : Value → Prop} (h : ∀ v y, F v y → G y) : ∀ {vs ys : List Value}, Paired F vs ys → ∀ y ∈ ys, G y
  | _, _, .nil, _, hy => by cases hy
  | _, _, .cons a r, y, hy => by
    rcases List.mem_cons.mp hy with rfl | hy
    · exact h _ _ a
    · exact paired_all h r y hy

section
variable {prog : Program} {w : World} {A : Around} {E : Value → Shared → Prop} {s : Shared} {Q : Value → Shared → Prop}
theorem range_iter {n : Nat} {t : Tok} (hn : n ≤ 100) (h : ∀ I h' tk, IsRangeIter h' I 0 (n : Nat) 1 → Ext s.heap h' → s.heap.get? I = none → Q (.ref I) { s with heap := h', toks := tk }) :
    wpAny (model prog w) A (call (.type "range") [.int (n : Nat) t]) (fun xv s₁ => wpAny (model prog w) A (pyIter xv) Q E s₁) E s := by
  obtain ⟨sm1, sm2⟩ := range_small n (by omega)
  refine call_range_1 ?_
  refine wpAny_pyIter_range (a := 0) (b := n) (c := 1) (Heap.get?_push_size _ rfl) sm1 ?_
  rw [sm2]
  refine h _ _ _ (Heap.get?_push_size _ rfl) (fun b o e => Heap.get?_push_of_some _ (Heap.get?_push_of_some _ e)) ?_
  refine Heap.get?_none_of_le ?_
  show s.heap.objs.size ≤ (s.heap.push _).objs.size
  rw [Heap.size_push]; exact Nat.le_succ _
end
theorem fmod4 (x : Int) : ∃ n : Nat, x.fmod 4 = (n : Int) ∧ n < 4 := by
  have h0 := Int.fmod_nonneg_of_pos x (b := 4) (by decide)
  have h1 := Int.fmod_lt_of_pos x (b := 4) (by decide)
  exact ⟨(x.fmod 4).toNat, by omega, by omega⟩
theorem pow8 {k : Nat} (h : k < 4) : ((8 : Int) ^ k) ≠ 0 ∧ ((8 : Int) ^ k).natAbs < 1073741824 := by
  have : k = 0 ∨ k = 1 ∨ k = 2 ∨ k = 3 := by omega
  rcases this with rfl | rfl | rfl | rfl <;> decide

section
variable {prog : Program} {w : World} {A : Around} {E : Value → Shared → Prop} {env : Env} {s : Shared}
/-- name = [.. for x in a list that a call gives] -/
theorem assign_list {elt iter : Expr} {x y : Str} {px py : Pos} {scope : Scope} {cl : List (Str × Addr)} {pos spos : Pos} {Q : Flow → Shared → Prop} {m : Str → Option Value} (hh : A.handled = none)
    (hsw : swapsWith (.ListComp elt [⟨.Name x px, iter, [], 0⟩] scope pos) (some (.Name y py)) spos.line env = pure true)
    (hclos : closureFor scope env = pure cl) (hcell : ∀ z ∈ scope.names, z.2 ≠ .cell) (hkind : scope.kind = .function)
    (hnames : ∀ z ∈ scope.names, z.2 = .local → scope.names.lookup z.1 = some .local) (hx : scope.names.lookup x = some .local)
    (hy : env.kindOf y = some .local) (hp : (env.scope.kind == .class || (env.scope.kind == .module && env.locals != env.globals)) = false)
    (hn : s.heap.Ns env.locals m)
    (hi0 : wpAny (model prog w) A (eval iter env) (fun v s₁ => ∃ ax us, ∃ F : Value → Value → Prop, v = .ref ax ∧ s₁.heap.IsList ax (us : List Value).toArray ∧ us.length ≤ sizeLine ∧ Keeps s s₁ ∧
      (∀ C v (s₃ : Shared) m₃ E', v ∈ us → s₃.heap.Ns C m₃ → m₃ x = some v → Ext s₁.heap s₃.heap → wpAny (model prog w) A (eval elt (compEnvC scope cl C env)) (fun y s₄ => F v y ∧ Keeps s₃ s₄) E' s₃) ∧
      (∀ D h' tk ys, h'.PlainList D ys → Paired F us ys.toList → s.heap.get? D = none → h'.Ns env.locals (fun z => if z = y then some (.ref D) else m z) →
        (∀ b o, b ≠ env.locals → s₁.heap.get? b = some o → h'.get? b = some o) → Q .next { s with heap := h', toks := tk })) E s)
    (hs : ∀ x, foldedSetIterable iter env x = pure x) :
    wpAny (model prog w) A (exec (.Assign [.Name y py] (.ListComp elt [⟨.Name x px, iter, [], 0⟩] scope pos) spos) env) Q E s := by
  rw [exec_Assign_Name_used _ _ _ _ hsw]
  refine wpAny_bind (wpAny_standAt (wpAny_bind ?_))
  show wpAny _ A (do let _ ← comprehension (.ListComp elt [⟨.Name x px, iter, [], 0⟩] scope pos) scope env _ (newList []) false (eval iter env) (some (assign (.Name y py) env))) _ _ s
  refine wpAny_bind (wpAny_mono (wpAny_comprehension_free (use := some (assign (.Name y py) env)) (Q := fun _ s' => Q .next s') rfl hs hclos hkind hnames
    (wpAny_mono hi0 (fun v s₁ h₁ => ?_) fun _ _ e => e)) (fun _ s' hq => wpAny_pure (wpAny_pure hq)) fun _ _ e => e)
  obtain ⟨ax, us, F, rfl, hax, hsz, ⟨h1, tk1, rfl, x1⟩, helt, hQ⟩ := h₁
  refine wpAny_pyIter_list hax ?_
  have hI := (Heap.get?_push_size (h := h1) (o := { cls := .type "list_iterator", data := .fields #[.ref ax, .int 0 0] }) rfl)
  have x2 : Ext h1 (h1.push { cls := .type "list_iterator", data := .fields #[.ref ax, .int 0 0] }) := fun b o e => Heap.get?_push_of_some _ e
  have z2 : (h1.push { cls := .type "list_iterator", data := .fields #[.ref ax, .int 0 0] }).objs.size = h1.objs.size + 1 := Heap.size_push ..
  show wpAny _ A _ _ _ { s with heap := h1.push { cls := .type "list_iterator", data := .fields #[.ref ax, .int 0 0] }, toks := tk1 }
  generalize h1.push { cls := .type "list_iterator", data := .fields #[.ref ax, .int 0 0] } = h2 at hI x2 z2 ⊢
  have hit : h2.IsListIter h1.objs.size ax 0 := ⟨_, hI, rfl, rfl⟩
  have n1 : h1.get? h1.objs.size = none := Heap.get?_none_of_le (Nat.le_refl _)
  show wpAny _ A _ (fun acc s₃ => wpAny _ A _ (fun cenv s₄ => codeAny _ A (.compStart _ 0 (.ref h1.objs.size) acc _) _ s₄) E s₃) E _
  generalize h1.objs.size = I at hI hit n1 z2 ⊢
  have hax2 : h2.IsList ax us.toArray := hax.at fun o e => x2 _ o e
  have hIa : ax ≠ I := by rintro rfl; exact not_list_iter hit _ hax2
  have alt : @LT.lt Nat _ ax h2.objs.size := by obtain ⟨o, ho, _⟩ := hax2; exact Heap.lt_size ho
  have Ilt : @LT.lt Nat _ I h2.objs.size := Heap.lt_size hI
  have neI : ∀ b o, h1.get? b = some o → b ∉ [I] := fun b o e mm => by rw [List.mem_singleton.mp mm, n1] at e; cases e
  refine comp_block_walkC (s₂ := { s with heap := h2, toks := tk1 }) (RR := fun acc C => compPost (model prog w) A E (some (assign (.Name y py) env)) (fun _ s' => Q .next s') acc C) (Walks.list hh I ax hIa us.toArray) (by rw [List.size_toArray]; exact hsz) (fun _ => true) F hcell hkind hx ⟨hit, hax2⟩ ?_ ⟨?_, ?_⟩ ?_
  · intro b hb
    rcases List.mem_cons.mp hb with rfl | hb
    · exact Ilt
    · rw [List.mem_singleton.mp hb]; exact alt
  · intro C i v s₃ m₃ E' _ _ _ _ _ _
    exact wpAny_pure ⟨rfl, _, _, rfl, fun _ _ e => e⟩
  · intro C i v s₃ m₃ E' hC hP _ hn₃ hm₃ hk₃ _
    exact helt C v s₃ m₃ E' (List.mem_of_getElem? (by simpa using hP)) hn₃ hm₃ fun b o e => hk₃ b o (neI b o e) (x2 b o e)
  · intro D C h' tk m' ys ws hD hC hDC hnC hlD hplD hlen hP hF hk
    have hws : ws = us := list_same hlen hP
    rw [filter_tt, hws] at hF
    have up : ∀ b o, h1.get? b = some o → h'.get? b = some o := fun b o e => hk b o (neI b o e) (x2 b o e)
    have hL : ∃ o, h2.get? env.locals = some o := by obtain ⟨o, _, _, ho, _⟩ := hn; exact ⟨o, x2 _ _ (x1 _ _ ho)⟩
    have hLC : env.locals ≠ C := by rintro rfl; obtain ⟨o, ho⟩ := hL; rw [hC] at ho; cases ho
    have hLD : env.locals ≠ D := by rintro rfl; obtain ⟨o, ho⟩ := hL; rw [hD] at ho; cases ho
    show wpAny _ A (assign (.Name y py) env (.ref D)) _ _ _
    refine wpAny_assign_Name (wpAny_storeName_local hy (hn.at' fun o e => up _ o (x1 _ o e)) (fun h₂ hn₂ hs₂ => ?_) hp)
    refine ⟨m', hnC.sameBut hs₂ (Ne.symm hLC), fun h₃ hs₃ => ?_⟩
    refine hQ D h₃ _ ys ((hplD.extBut hs₂.extBut (Ne.symm hLD)).extBut hs₃.extBut hDC) hF ?_ (hn₂.sameBut hs₃ hLC) fun b o hb e => hs₃.extBut b o (by rintro rfl; have q := x2 _ _ e; have hC' : h2.get? b = none := hC; rw [hC'] at q; cases q) (hs₂.extBut b o hb (up b o e))
    cases q : s.heap.get? D with
    | none => rfl
    | some o => have q' := x2 _ _ (x1 _ _ q); have hD' : h2.get? D = none := hD; rw [hD'] at q'; cases q'
end

theorem lstB_fun {h : Heap} {l l' : List Str} {v : Value} (a : LstB h l v) (b : LstB h l' v) : l = l' := by
  obtain ⟨T, ws, rfl, h1, h2⟩ := a
  obtain ⟨T', ws', e, h1', h2'⟩ := b
  cases e
  obtain ⟨o, ho, _, n, hd⟩ := h1
  obtain ⟨o', ho', _, n', hd'⟩ := h1'
  rw [ho] at ho'; cases ho'
  rw [hd] at hd'
  injection hd' with e1 e2
  have e3 : ws = ws' := by simpa using e1
  subst e3
  clear hd e1 ho
  induction h2 generalizing l' with
  | nil => cases h2'; rfl
  | cons y t _ ih => cases h2' with | cons _ _ r => rw [ih r]
theorem paired_lines {h : Heap} {g : List Str → Str} : ∀ {os : List (List Str)} {us ys : List Value}, Paired (LstB h) os us → Paired (fun v y => ∃ l t, LstB h l v ∧ y = .str (g l) t) us ys → StrsAre ys (os.map g)
  | _, _, _, .nil, .nil => .nil
  | _, _, _, .cons a r, .cons b q => by
    obtain ⟨l, t, h1, rfl⟩ := b
    rw [lstB_fun h1 a]
    exact .cons _ _ (paired_lines r q)
theorem paired_get2 {α β : Type} {F : α → β → Prop} : ∀ {l₁ : List α} {l₂ : List β}, Paired F l₁ l₂ → ∀ b ∈ l₂, ∃ a ∈ l₁, F a b
  | _, _, .nil, b, h => by cases h
  | _, _, .cons f r, b, h => by
    rcases List.mem_cons.mp h with rfl | h
    · exact ⟨_, .head _, f⟩
    · obtain ⟨a, h1, h2⟩ := paired_get2 r b h; exact ⟨a, .tail _ h1, h2⟩
end Mine

namespace Mine
set_option maxRecDepth 100000
set_option maxHeartbeats 4000000

section
variable {prog : Program} {w : World} {A : Around} {E : Value → Shared → Prop} {s : Shared} {Q : Value → Shared → Prop}
theorem newTuple_pure {vs : List Value} (hsz : vs.length ≤ sizeLine)
    (h : ∀ T h', Ext s.heap h' → s.heap.get? T = none → IsTup h' T vs.toArray → Q (.ref T) { s with heap := h' }) : wpAny (model prog w) A (newTuple vs) Q E s :=
  wpAny_newTuple (h _ _ (fun b o e => Heap.get?_push_of_some _ e) (Heap.get?_none_of_le (Nat.le_refl _)) (IsTup.new _ _)) hsz
end

theorem strs_five {vs : List Value} {ss : List Str} (h : StrsAre vs ss) (hl : ss.length = 5) :
    ∃ a b c d e ta tb tc td te, vs = [.str a ta, .str b tb, .str c tc, .str d td, .str e te] ∧ ss = [a, b, c, d, e] := by
  rcases h with _ | ⟨a, ta, h⟩
  · cases hl
  rcases h with _ | ⟨b, tb, h⟩
  · cases hl
  rcases h with _ | ⟨c, tc, h⟩
  · cases hl
  rcases h with _ | ⟨d, td, h⟩
  · cases hl
  rcases h with _ | ⟨e, te, h⟩
  · cases hl
  rcases h with _ | ⟨f, tf, h⟩
  · exact ⟨a, b, c, d, e, ta, tb, tc, td, te, rfl, rfl⟩
  · simp at hl

theorem strs_const {x : Str} : ∀ (ys : List Value), (∀ y ∈ ys, ∃ t, y = Value.str x t) → StrsAre ys (List.replicate ys.length x)
  | [], _ => .nil
  | y :: r, h => by
    obtain ⟨t, rfl⟩ := h y (.head _)
    exact .cons x t (strs_const r fun z hz => h z (.tail _ hz))

theorem not_tup_ns {h : Heap} {L : Addr} {m : Str → Option Value} (hn : h.Ns L m) (ws : Array Value) : ¬ IsTup h L ws := by
  rintro ⟨o, ho, _, n, hd⟩
  obtain ⟨o', es, ep, ho', hd', _⟩ := hn
  rw [ho] at ho'; cases ho'; rw [hd] at hd'; cases hd'

theorem Bad.but {h h' : Heap} {L : Addr} {m : Str → Option Value} {v : Value} (b : Bad h v) (hn : h.Ns L m) (x : ∀ b o, b ≠ L → h.get? b = some o → h'.get? b = some o) : Bad h' v := by
  have li : ∀ {p : Addr} {ws : Array Value}, h.IsList p ws → h'.IsList p ws := fun {p ws} q => q.at fun o e => x _ o (by rintro rfl; exact not_list_ns hn _ q) e
  have tu : ∀ {p : Addr} {ws : Array Value}, IsTup h p ws → IsTup h' p ws := fun {p ws} q => by
    have hp : p ≠ L := by rintro rfl; exact not_tup_ns hn _ q
    obtain ⟨o, ho, r⟩ := q
    exact ⟨o, x _ o hp ho, r⟩
  rcases b with rfl | ⟨p, a, b, c, rfl, hp⟩ | ⟨p, a, rfl, hp⟩ | ⟨p, y, tx, k, tk, rfl, hp, hxl⟩ | ⟨p, k, tk, y, ty, rfl, hp⟩ | ⟨p, q, a, y, ty, rfl, hp, hq⟩
  · exact .inl rfl
  · exact .inr (.inl ⟨p, a, b, c, rfl, li hp⟩)
  · exact .inr (.inr (.inl ⟨p, a, rfl, tu hp⟩))
  · exact .inr (.inr (.inr (.inl ⟨p, y, tx, k, tk, rfl, tu hp, hxl⟩)))
  · exact .inr (.inr (.inr (.inr (.inl ⟨p, k, tk, y, ty, rfl, li hp⟩))))
  · exact .inr (.inr (.inr (.inr (.inr ⟨p, q, a, y, ty, rfl, tu hp, tu hq⟩))))

theorem fold_two (v : Value) : List.foldl (fun x1 x2 => x1 ++ x2) #[] (List.replicate (if (#[v] : Array Value).isEmpty = true then 0 else 2) #[v]) = [v, v].toArray := rfl
theorem fold_six (v : Value) : List.foldl (fun x1 x2 => x1 ++ x2) #[] (List.replicate (if (#[v] : Array Value).isEmpty = true then 0 else 6) #[v]) = [v, v, v, v, v, v].toArray := rfl
theorem one_fits (v : Value) : ([v] : List Value).length ≤ sizeLine := by rw [sizeLine_eq]; simp
theorem one_size (v : Value) : ([v] : List Value).toArray.size ≤ 1000 := by simp
theorem six_same {x : Str} {t : Tok} : StrsAre [.str x t, .str x t, .str x t, .str x t, .str x t, .str x t] (List.replicate 6 x) := .cons _ _ (.cons _ _ (.cons _ _ (.cons _ _ (.cons _ _ (.cons _ _ .nil)))))
theorem pick_trio (a b c d e : Value) : slicePick [a, b, c, d, e].toArray none (some 3) none = [a, b, c].toArray := by with_unfolding_all rfl
theorem chg_but {L : Addr} {S : List Addr} {h h' : Heap} (c : Chg S [L] h h') (hS : ∀ b ∈ S, h.get? b = none) : ∀ b o, b ≠ L → h.get? b = some o → h'.get? b = some o := fun b o hb e =>
  c.1 b o (fun mm => by rw [hS b mm] at e; cases e) (fun mm => hb (List.mem_singleton.mp mm)) e

theorem tup_but {h h' : Heap} {L p : Addr} {m : Str → Option Value} {ws : Array Value} (q : IsTup h p ws) (hn : h.Ns L m) (x : ∀ b o, b ≠ L → h.get? b = some o → h'.get? b = some o) : IsTup h' p ws := by
  have hp : p ≠ L := by rintro rfl; exact not_tup_ns hn _ q
  obtain ⟨o, ho, r⟩ := q
  exact ⟨o, x _ o hp ho, r⟩
theorem plain_but {h h' : Heap} {L p : Addr} {m : Str → Option Value} {ws : Array Value} (q : h.PlainList p ws) (hn : h.Ns L m) (x : ∀ b o, b ≠ L → h.get? b = some o → h'.get? b = some o) : h'.PlainList p ws :=
  q.extBut x (by rintro rfl; exact not_list_ns hn _ q.isList)
theorem ext_but {h h' : Heap} {L : Addr} (e : Heap.SameBut L h h') : ∀ b o, b ≠ L → h.get? b = some o → h'.get? b = some o := fun b o hb q => e.extBut b o hb q
end Mine

namespace Mine
set_option maxRecDepth 100000
set_option maxHeartbeats 4000000
theorem law_none (ns : List Int) : ∀ (ct : ExcName × WTm), ct ∈ PySem.Challenge.rw_pk0132_01.row.raises →
    WTm.holds PySem.Challenge.rw_pk0132_01.row.records ct.snd { args := [ofPy (PyData.list (List.map PyData.int ns))] } = false := by
  wrow_none_raised
theorem law_post (ns : List Int) : PySem.Challenge.rw_pk0132_01.row.claim.post [ofPy (PyData.list (List.map PyData.int ns))] (WData.bool true) [ofPy (PyData.list (List.map PyData.int ns))] = true := by
  wrow_post
end Mine

namespace Mine
theorem quiet_LW : True := by w_top off; exact trivial
set_option maxRecDepth 100000
set_option maxHeartbeats 8000000
local macro_rules | `(tactic| walk_at "mine blt") => `(tactic| (k_dflt (refine' nm_blt ?a1 ?a2 ?a3 ?a4 ?a5 ?a6 ?a7 ?a8 ?a9 ?a10 ?_; (case a1 => assumption); (case a2 => assumption); (case a3 => k_is); (case a4 => first | exact boot_enum | exact boot_sum | exact boot_sorted | exact boot_min | exact boot_max | exact boot_range | exact boot_len); (case a5 => decide); (case a6 => exact rfl); (case a7 => exact rfl); (case a8 => exact rfl); (case a9 => exact rfl); (case a10 => exact rfl))))

local macro_rules | `(tactic| walk_at "mine call") => `(tactic| (k_dflt (refine' call_def ?a1 ?a2 ?a3 ?a4 ?a5 ?a6 ?a7 ?a8 ?a9 ?a10 ?_; (case a1 => assumption); (case a2 => assumption); (case a3 => k_is); (case a4 => k_is); (case a5 => exact rfl); (case a6 => exact rfl); (case a7 => exact rfl); (case a8 => exact rfl); (case a9 => exact rfl); (case a10 => exact rfl))))

theorem law_w : PySem.Challenge.rw_pk0132_01.Holds := hd (by
  k_go0
  rename_i w s₀ s₁ mg mb G Y fa o pm doc ho hg KX X V GL T Bt TE TW z1 z2 M cd z3 hcd ns hs hlay0 hL1 hr1 hl2 as1 as2 l vs as3 hL ra w1 r0 hI hr hc1 hc2 K0 hD h₁ tk₁ F oc hoc N0 X0
  clear X0 hr r0 w1 ra hr1 hL1 hlay0 hs hl2 TE TW Bt GL V X Y G
  have hL0 : s₁.heap.objs.size ≤ s₁.heap.objs.size := Nat.le_refl _
  have hns : h₁.Ns s₁.heap.objs.size (fun _ => none) := F.ns
  have hcl : h₁.IsCell (s₁.heap.objs.size + 1) (some (.ref l)) := ⟨oc, (N0 _ (.head _)).1, hoc⟩
  have hx1 : Ext s₁.heap h₁ := F.keep
  have hlen : ns.length ≤ 63 := by omega
  have hvl : vs.length ≤ 63 := by rw [IntsAre.length hI]; exact hlen
  have KX1 := KX.keeps hx1
  have T1 := T.keeps hx1
  refine wpAny_execs_cons ?_
  refine' assign_enum rfl ?hsw ?hclos ?hcell ?hkind ?hnames ?hj ?hb ?hjb ?hy ?hp hns 5 (by decide) (fun _ => True) ?hi0 ?helt ?hQ ?hs
  case hsw => with_unfolding_all rfl
  case hclos => with_unfolding_all rfl
  case hcell => decide
  case hkind => with_unfolding_all rfl
  case hnames => decide
  case hj => with_unfolding_all rfl
  case hb => with_unfolding_all rfl
  case hjb => decide
  case hy => with_unfolding_all rfl
  case hp => with_unfolding_all rfl
  case hs => intro _; with_unfolding_all rfl
  case hi0 =>
    refine Call_ ?_
    walk_at "mine blt"
    refine PyProof.Rows.callWith_type1 (args_cons (List_ ?_))
    refine args_cons (wpAny_Constant_int (args_cons (wpAny_Constant_int (args_cons (wpAny_Constant_int (args_cons (wpAny_Constant_int (args_cons (wpAny_Constant_int (args_nil ?_))))))))))
    refine newList_pure (by rw [sizeLine_eq]; simp) ?_
    intro T' h2 x2 f2 g2
    refine args_nil ?_
    refine call_enumerate_list g2.isList ?_
    intro h3 e3 i3 s3 x3
    have hTlt : @LT.lt Nat _ T' h2.objs.size := by obtain ⟨k, e⟩ := g2; exact Heap.lt_size e
    have fr : ∀ b, h2.objs.size ≤ b → h₁.get? b = none := fun b hb => by
      cases q : h₁.get? b with
      | none => rfl
      | some o => exact absurd (Heap.lt_size (x2 _ _ q)) (Nat.not_lt.mpr hb)
    refine ⟨_, _, T', _, rfl, e3, i3, g2.isList.at fun o e => x3 _ o e, rfl, ?_, Nat.succ_ne_self _, Nat.ne_of_lt (Nat.lt_succ_of_lt hTlt), Nat.ne_of_lt hTlt, fr _ (Nat.le_succ _), fr _ (Nat.le_refl _), ⟨_, _, rfl, Ext.trans x2 x3⟩⟩
    intro v hv
    simp only [List.mem_cons, List.not_mem_nil, or_false] at hv
    rcases hv with rfl | rfl | rfl | rfl | rfl <;> exact ⟨_, _, rfl⟩
  case helt =>
    intro C i n t t' s₃ m₃ E' f1 f2 f3 f4
    have KX3 := KX.keeps (Ext.trans hx1 f4)
    have T3 := T.keeps (Ext.trans hx1 f4)
    have hl3 : s₃.heap.IsList l vs.toArray := hL.at fun o e => Ext.trans hx1 f4 _ o e
    refine wpAny_BinOp (wpAny_BinOp (nm_loc f1 f3 rfl rfl rfl (Call_ ?_)))
    walk_at "mine blt"
    refine callWith_builtin1 (args_cons (Subscript_ (nm_cell (c := s₁.heap.objs.size + 1) rfl (hcl.keeps f4) rfl rfl rfl (wpAny_Slice (evalPart_some_step (nm_loc f1 f2 rfl rfl rfl (evalPart_some_step (wpAny_Constant_int (evalPart_some_step (wpAny_Constant_int ?_))))))))))
    refine slice_tail hl3 (.int _ _) (.int _ _) (.int _ _) (by decide) (by with_unfolding_all rfl) (by intro _; with_unfolding_all rfl) (by rw [sizeLine_eq, List.size_toArray]; omega) ?_
    intro T' h4 x4 z4 g4
    obtain ⟨ks, hks⟩ := pick_ints hI (some ((i : Nat) : Int)) (some 60) (some 5)
    refine args_nil ?_
    refine sum_pure rfl (vs := (slicePick vs.toArray (some ((i : Nat) : Int)) (some 60) (some 5)).toList) g4.isList hks ?_
    intro h5 tk5 z5 t5 x5
    refine PyProof.Rows.add_int ?_
    refine wpAny_BinOp (wpAny_Constant_int (wpAny_Constant_int ?_))
    refine pow_int_small (by decide) (by decide) (by decide) ?_
    refine mod_int' (by decide) ?_
    exact ⟨⟨_, _, rfl, trivial⟩, _, _, rfl, Ext.trans x4 x5⟩
  case hQ =>
    intro D1 h2 tk2 vs1 ks1 p1 i1 c1 q1 f1 n1 x2
    have hcl2 : h2.IsCell (s₁.heap.objs.size + 1) (some (.ref l)) := by
      obtain ⟨o, ho, hd⟩ := hcl
      exact ⟨o, x2 _ o (Nat.ne_of_gt (Nat.lt_succ_self _)) ho, hd⟩
    have hx2 : Ext s₁.heap h2 := fun b o e => x2 b o (Nat.ne_of_lt (Heap.lt_size e)) (hx1 b o e)
    clear x2 hcl hns KX1 T1 F
    have KX2 := KX.keeps hx2
    have T2 := T.keeps hx2
    refine wpAny_execs_cons ?_
    refine' assign_cellcomp (ax := D1) (items := vs1.toArray) (cl := []) rfl ?hsw ?hclos ?hkind ?hnames ?hkx ?hnew ?hy ?hp n1 p1.isList ?hsz 3 ?hi0 ?helt ?hQ ?hs
    case hsw => with_unfolding_all rfl
    case hclos => with_unfolding_all rfl
    case hkind => with_unfolding_all rfl
    case hnames => decide
    case hkx => intro _ _; with_unfolding_all rfl
    case hnew => intro Q' E' s' q; exact new_cell rfl q
    case hy => with_unfolding_all rfl
    case hp => with_unfolding_all rfl
    case hs => intro _; with_unfolding_all rfl
    case hsz => rw [sizeLine_eq, List.size_toArray, IntsAre.length i1, c1]; decide
    case hi0 => intro Q' q; exact nm_loc n1 (by rfl) rfl rfl rfl q
    case helt =>
      intro C cc v s₃ E' hv hcc x3
      obtain ⟨x, tx, rfl⟩ := IntsAre.all i1 v hv
      have KX3 := KX.keeps (Ext.trans hx2 x3)
      have T3 := T.keeps (Ext.trans hx2 x3)
      refine MethodCall_ (Calls.Constant_str (GM.join (callWith_method1 (args_cons ?_))))
      refine' wpAny_ListComp_free (cl := [(Str.ofString "x", cc)]) (fun _ => true) (fun _ y => ∃ z t, y = .str z t ∧ z.length ≤ 1) ?hclos ?hcell ?hkind ?hnames ?hx ?h ?hs
      case hclos => with_unfolding_all rfl
      case hcell => decide
      case hkind => with_unfolding_all rfl
      case hnames => decide
      case hx => with_unfolding_all rfl
      case hs => intro _; with_unfolding_all rfl
      case h =>
        refine Call_ ?_
        walk_at "mine blt"
        refine PyProof.Rows.callWith_type1 (args_cons (wpAny_BinOp (nm_cell (c := cc) rfl hcc rfl rfl rfl (wpAny_Constant_int (mod_int' (by decide) (args_nil ?_))))))
        obtain ⟨n, hn, hn4⟩ := fmod4 x
        rw [hn]
        refine range_iter (by omega) ?_
        intro I h4 tk4 r4 x4 z4
        have Ilt : @LT.lt Nat _ I h4.objs.size := Heap.lt_size r4
        refine ⟨I, _, _, n, _, _, rfl, Walks.bound (Walks.range rfl I 0 1 n), ?_, ?_, ?_, ⟨?_, ?_⟩, ?_⟩
        · rw [sizeLine_eq]; omega
        · show IsRangeIter h4 I (0 + ((0 : Nat) : Int) * 1) ((n : Int) - ((0 : Nat) : Int)) 1
          simpa using r4
        · intro b hb; rw [List.mem_singleton.mp hb]; exact Ilt
        · intro C' i v s₅ m₅ E'' _ _ _ _ _ _
          exact wpAny_pure ⟨rfl, _, _, rfl, fun _ _ e => e⟩
        · rintro C' i v s₅ m₅ E'' hC' ⟨hi, t5, rfl⟩ _ n5 m5 k5 _
          have x5 : Ext s₃.heap s₅.heap := fun b o e => k5 b o (fun mm => by rw [List.mem_singleton.mp mm] at e; rw [z4] at e; cases e) (x4 b o e)
          have e0 : (0 : Int) + ((i : Nat) : Int) * 1 = ((i : Nat) : Int) := by omega
          rw [e0] at m5
          obtain ⟨p8, p9⟩ := pow8 (k := i) (by omega)
          refine Subscript_ (Calls.Constant_str ?_)
          refine wpAny_BinOp (wpAny_BinOp (wpAny_BinOp (nm_cell (c := cc) rfl (hcc.keeps x5) rfl rfl rfl (wpAny_Constant_int (floordiv_int (by decide) ?_)))))
          refine wpAny_BinOp (wpAny_Constant_int (nm_loc n5 m5 rfl rfl rfl (pow_int_small (by omega) (by omega) (by decide) ?_)))
          rw [Int.toNat_natCast]
          refine floordiv_int p8 ?_ (Or.inl (PyProof.noPylong_small p9))
          refine wpAny_Constant_int (mod_int' (by decide) ?_)
          refine item_str_fmod (by decide) (by decide) (by decide) ?_
          intro hl1
          exact ⟨⟨_, _, rfl, hl1.2⟩, _, _, rfl, Ext.refl _⟩
        · intro D h6 tk6 ys us g1 g2 g3 g4 g5 g6 g7
          obtain ⟨ss, j1, j2, j3⟩ := strs_of_all 1 ys.toList (paired_all (G := fun y => ∃ z t, y = .str z t ∧ z.length ≤ 1) (fun _ _ q => q) g6)
          have hss : ss.length ≤ 3 := by
            have := Paired.length g6
            rw [filter_tt] at this
            omega
          refine args_nil ?_
          refine join_pure g2 j1 (by decide) 1 j3 (by omega) ?_
          intro t7 k7
          refine ⟨⟨_, t7, rfl, ?_⟩, _, _, rfl, ?_⟩
          · have := join_len (x := Str.ofString "") j3
            have e : (Str.ofString "").length = 0 := by decide
            rw [e] at this
            exact Nat.le_trans this (by omega)
          · exact fun b o e => g7 b o (fun mm => by rw [List.mem_singleton.mp mm] at e; rw [z4] at e; cases e) (x4 b o e)
    case hQ =>
      intro D2 h3 tk3 vn nm p2 j1 c2 l2 f2 n2 x3
      have hx3 : Ext s₁.heap h3 := fun b o e => x3 b o (Nat.ne_of_lt (Heap.lt_size e)) (hx2 b o e)
      clear x3 hcl2 hx2 n1 KX2 T2 p1
      have hnl : nm.length = 5 := by rw [c2, List.size_toArray, IntsAre.length i1, c1]
      clear c2 i1 c1 q1 f1
      have KX3 := KX.keeps hx3
      have T3 := T.keeps hx3
      refine wpAny_execs_cons (wpAny_Assign_Name ?_)
      walk_at "mine call"
      refine args_cons (nm_loc n2 rfl rfl rfl rfl (args_cons (Constant_bool (args_nil ⟨Ext.refl _, ?_⟩))))
      refine Ctr.gr (dp := 302) (un := 7) (gd := some []) (laid_c w _ mg mb D2 vn nm j1 true (by omega) (fun x hx => by have := l2 x hx; omega) (paired_up nm)) (gr_law KX T rfl rfl rfl hL0 n2 hx3) (by decide) (by decide) p2.isList ?_
      rintro v h4 tk4 x4 ⟨r, vr, rfl, lr, sr⟩
      refine wpAny_storeName_local rfl (n2.keeps x4) (fun h5 n5 s5 => ?_) rfl
      have neL : ∀ b o, s₁.heap.get? b = some o → b ≠ s₁.heap.objs.size := fun b o e => Nat.ne_of_lt (Heap.lt_size e)
      have hx5 : Ext s₁.heap h5 := fun b o e => s5.extBut b o (neL b o e) (x4 b o (hx3 b o e))
      have hD2L : D2 ≠ s₁.heap.objs.size := by rintro rfl; exact not_list_ns n2 _ p2.isList
      have hrL : r ≠ s₁.heap.objs.size := by rintro rfl; exact not_list_ns (n2.keeps x4) _ lr
      have p5 : h5.PlainList D2 vn.toArray := (p2.at fun o e => x4 _ o e).extBut s5.extBut hD2L
      have lr5 : h5.IsList r vr.toArray := lr.extBut s5.extBut hrL
      have KX5 := KX.keeps hx5
      have T5 := T.keeps hx5
      clear KX3 T3 lr x4 s5 p2 n2 hx3
      refine wpAny_execs_cons (wpAny_If (isTrue_or (wpAny_isTrue_Compare1 (nm_loc n5 rfl rfl rfl rfl (wpAny_Constant_none (is_none_ne (by intro e; cases e) (wpAny_truthy_bool ?_)))))))
      rw [if_neg (by decide)]
      refine isTrue_or (wpAny_isTrue_Compare1 ?_)
      walk_at "mine call"
      refine args_cons (nm_loc n5 rfl rfl rfl rfl (args_cons (Constant_bool (args_nil ⟨Ext.refl _, ?_⟩))))
      refine Ctr.gr (dp := 302) (un := 7) (gd := some []) (laid_c w _ mg mb D2 vn nm j1 false (by omega) (fun x hx => by have := l2 x hx; omega) (plain_up nm)) (gr_law KX T rfl rfl rfl hL0 n5 hx5) (by decide) (by decide) p5.isList ?_
      rintro v h6 tk6 x6 ⟨r2, vr2, rfl, lr2, sr2⟩
      have KX6 := KX5.keeps x6
      have T6 := T5.keeps x6
      refine Call_ ?_
      walk_at "mine blt"
      refine callWith_builtin1 (args_cons (nm_loc (n5.keeps x6) rfl rfl rfl rfl (args_nil ?_)))
      refine sorted_pure (p5.isList.at fun o e => x6 _ o e) j1 (by rw [StrsAre.length j1]; omega) ?_
      intro h7 T7 vs7 ss7 x7 l7 g7 e7 o7
      have eq7 : laidOf false nm = ss7 := laid_plain_eq e7 (sortedS_pairwise o7)
      rw [eq7] at sr2
      refine ne_same (lr2.at fun o e => x7 _ o e) l7 sr2 g7 (show (7 : Nat) < cLine by decide) (wpAny_truthy_bool ?_)
      rw [if_neg (by decide)]
      refine isTrue_or_nil ?_
      rw [if_neg (by decide)]
      refine wpAny_execs_nil ?_
      dsimp only
      have x57 : Ext h5 h7 := Ext.trans x6 x7
      have n7 := n5.keeps x57
      have hx7 : Ext s₁.heap h7 := Ext.trans hx5 x57
      have p7 : h7.PlainList D2 vn.toArray := p5.at fun o e => x57 _ o e
      have lr7 : h7.IsList r vr.toArray := lr5.at fun o e => x57 _ o e
      have KX7 := KX.keeps hx7
      have T7' := T.keeps hx7
      clear x6 x7 x57 n5 hx5 p5 lr5 KX5 T5 KX6 T6 lr2 l7 g7 e7 o7 eq7 sr2
      refine wpAny_execs_cons ?_
      refine' assign_list rfl ?hsw ?hclos ?hcell ?hkind ?hnames ?hx ?hy ?hp n7 ?hi0 ?hs
      case hsw => with_unfolding_all rfl
      case hclos => with_unfolding_all rfl
      case hcell => decide
      case hkind => with_unfolding_all rfl
      case hnames => decide
      case hx => with_unfolding_all rfl
      case hy => with_unfolding_all rfl
      case hp => with_unfolding_all rfl
      case hs => intro _; with_unfolding_all rfl
      case hi0 =>
        walk_at "mine call"
        refine args_cons (nm_loc n7 rfl rfl rfl rfl (args_nil ⟨Ext.refl _, ?_⟩))
        refine Ctr.gr (dp := 302) (un := 7) (gd := some []) (orders_c w _ mg mb D2 vn nm j1 (by omega)) (gr_law KX T rfl rfl rfl hL0 n7 hx7) (by decide) (by decide) p7.isList ?_
        rintro v h8 tk8 x8 ⟨ro, yo, rfl, lo8, po8⟩
        refine ⟨ro, yo.toList, fun v y => ∃ l t, LstB h8 l v ∧ y = .str (Str.join dotS l) t, rfl, lo8, ?_, ⟨_, _, rfl, x8⟩, ?_, ?_⟩
        · have q1 := Paired.length po8
          have q2 := orders_count (ns := nm) (by omega)
          rw [sizeLine_eq]; omega
        · intro C v s₃ m₃ E' hv f1 f2 f3
          obtain ⟨one, ho1, ho2⟩ := paired_get2 po8 v hv
          obtain ⟨T9, ws, rfl, hw1, hw2⟩ := id ho2
          have hperm := (orders_iff nm one).mp ho1
          refine MethodCall_ (Calls.Constant_str (GM.join (callWith_method1 (args_cons (nm_loc f1 f2 rfl rfl rfl (args_nil ?_))))))
          refine join_pure (hw1.at fun o e => f3 _ o e) hw2 (by decide) 3 (fun z hz => l2 z (hperm.mem_iff.mp hz)) (by rw [hperm.length_eq, hnl]; decide) ?_
          intro t9 k9
          exact ⟨⟨one, t9, ho2, rfl⟩, _, _, rfl, Ext.refl _⟩
        · intro D3 h9 tk9 ys9 p9 q9 f9 n9 x9
          have sl := paired_lines po8 q9
          have x79 : ∀ b o, b ≠ s₁.heap.objs.size → h7.get? b = some o → h9.get? b = some o := fun b o hb e => x9 b o hb (x8 b o e)
          have hx9 : Ext s₁.heap h9 := fun b o e => x79 b o (neL b o e) (hx7 b o e)
          have pn9 : h9.PlainList D2 vn.toArray := p7.at fun o e => x79 _ o hD2L e
          have lr9 : h9.IsList r vr.toArray := lr7.at fun o e => x79 _ o hrL e
          have KX9 := KX.keeps hx9
          have T9 := T.keeps hx9
          clear x9 x8 x79 hx7 p7 lr7 n7 KX7 T7' lo8 po8 q9
          have hrl : (laidOf true nm).length = 5 := by rw [laidOf_length]; exact hnl
          have hrs : ∀ z ∈ laidOf true nm, z.length ≤ 3 := fun z hz => l2 z ((laidOf_perm true nm).mem_iff.mp hz)
          obtain ⟨a0, as0, hrow⟩ : ∃ a as, laidOf true nm = a :: as := by
            cases q : laidOf true nm with
            | nil => rw [q] at hrl; cases hrl
            | cons a as => exact ⟨a, as, rfl⟩
          obtain ⟨b0, bs0, hrev⟩ : ∃ a as, (laidOf true nm).reverse = a :: as := by
            cases q : (laidOf true nm).reverse with
            | nil => rw [← List.length_reverse, q] at hrl; cases hrl
            | cons a as => exact ⟨a, as, rfl⟩
          have sr' : StrsAre vr (a0 :: as0) := hrow ▸ sr
          have srv : StrsAre vr.reverse (b0 :: bs0) := hrev ▸ strs_reverse sr
          have la : as0.length = 4 := by rw [hrow] at hrl; simpa using hrl
          have lb : bs0.length = 4 := by rw [← List.length_reverse, hrev] at hrl; simpa using hrl
          have sha : ∀ z ∈ a0 :: as0, z.length ≤ 40 := fun z hz => by have := hrs z (hrow ▸ hz); omega
          have shb : ∀ z ∈ b0 :: bs0, z.length ≤ 40 := fun z hz => by have := hrs z (by rw [← hrev] at hz; simpa using hz); omega
          have hvr : vr.length = 5 := by rw [StrsAre.length sr]; exact hrl
          refine wpAny_execs_cons (wpAny_Assign_Name (List_ (args_cons ?_)))
          walk_at "mine call"
          refine args_cons (nm_loc n9 rfl rfl rfl rfl (args_nil ⟨Ext.refl _, ?_⟩))
          refine Ctr.gr (dp := 302) (un := 7) (gd := some []) (line_c w _ mg mb r vr a0 as0 sr' (by omega) sha) (gr_law KX T rfl rfl rfl hL0 n9 hx9) (by decide) (by decide) lr9 ?_
          rintro v ha tka xa ⟨ta, rfl⟩
          have KXa := KX9.keeps xa
          have Ta := T9.keeps xa
          refine args_cons ?_
          walk_at "mine call"
          refine args_cons (nm_loc (n9.keeps xa) rfl rfl rfl rfl (args_nil ⟨Ext.refl _, ?_⟩))
          refine Ctr.gr (dp := 302) (un := 7) (gd := some []) (lineEnd_c w _ mg mb r vr (a0 :: as0) sr' (by simp; omega) sha) (gr_law KX T rfl rfl rfl hL0 (n9.keeps xa) (Ext.trans hx9 xa)) (by decide) (by decide) (lr9.at fun o e => xa _ o e) ?_
          rw [endF_join]
          rintro v hb tkb xb' ⟨tb, rfl⟩
          have xb : Ext h9 hb := Ext.trans xa xb'
          have KXb := KX9.keeps xb
          have Tb := T9.keeps xb
          refine args_cons ?_
          walk_at "mine call"
          refine args_cons (Subscript_ (nm_loc (n9.keeps xb) rfl rfl rfl rfl (wpAny_Slice (evalPart_none_step (evalPart_none_step (evalPart_some_step (UnaryOp_ (wpAny_Constant_int (PyProof.Rows.neg_int ?_)))))))))
          refine slice_tail (lr9.at fun o e => xb _ o e) .none .none (.int _ _) (by decide) (by with_unfolding_all rfl) (by intro _; with_unfolding_all rfl) (by rw [sizeLine_eq, List.size_toArray]; omega) ?_
          intro Tc hc xc' fc gc
          have e1 : slicePick vr.toArray none none (some (-1)) = vr.reverse.toArray := krv_pick _
          rw [e1] at gc
          have xc : Ext h9 hc := Ext.trans xb xc'
          refine args_nil ⟨xc', ?_⟩
          refine Ctr.gr (dp := 302) (un := 7) (gd := some []) (line_c w _ mg mb Tc vr.reverse b0 bs0 srv (by omega) shb) (gr_law KX T rfl rfl rfl hL0 (n9.keeps xc) (Ext.trans hx9 xc)) (by decide) (by decide) gc.isList ?_
          rintro v hd' tkd xd' ⟨td, rfl⟩
          have xd : Ext h9 hd' := Ext.trans xc xd'
          have KXd := KX9.keeps xd
          have Td := T9.keeps xd
          refine args_cons ?_
          walk_at "mine call"
          refine args_cons (Subscript_ (nm_loc (n9.keeps xd) rfl rfl rfl rfl (wpAny_Slice (evalPart_none_step (evalPart_none_step (evalPart_some_step (UnaryOp_ (wpAny_Constant_int (PyProof.Rows.neg_int ?_)))))))))
          refine slice_tail (lr9.at fun o e => xd _ o e) .none .none (.int _ _) (by decide) (by with_unfolding_all rfl) (by intro _; with_unfolding_all rfl) (by rw [sizeLine_eq, List.size_toArray]; omega) ?_
          intro Te he xe' fe ge
          rw [e1] at ge
          have xe : Ext h9 he := Ext.trans xd xe'
          refine args_nil ⟨xe', ?_⟩
          refine Ctr.gr (dp := 302) (un := 7) (gd := some []) (lineEnd_c w _ mg mb Te vr.reverse (b0 :: bs0) srv (by simp; omega) shb) (gr_law KX T rfl rfl rfl hL0 (n9.keeps xe) (Ext.trans hx9 xe)) (by decide) (by decide) ge.isList ?_
          rw [endF_join]
          rintro v hf tkf xf' ⟨tf, rfl⟩
          have xf : Ext h9 hf := Ext.trans xe xf'
          rw [lineF_join, lineF_join, ← hrow, ← hrev]
          refine args_nil ?_
          refine newList_pure (by rw [sizeLine_eq]; simp) ?_
          intro Tm hg' xg' fg gg
          have xg : Ext h9 hg' := Ext.trans xf xg'
          refine wpAny_storeName_local rfl (n9.keeps xg) (fun hi ni si => ?_) rfl
          have hTmL : Tm ≠ s₁.heap.objs.size := by rintro rfl; exact not_list_ns (n9.keeps xg) _ gg.isList
          have hD3L : D3 ≠ s₁.heap.objs.size := by rintro rfl; exact not_list_ns n9 _ p9.isList
          have xhi : ∀ b o, b ≠ s₁.heap.objs.size → h9.get? b = some o → hi.get? b = some o := fun b o hb e => si.extBut b o hb (xg b o e)
          have hxi : Ext s₁.heap hi := fun b o e => xhi b o (neL b o e) (hx9 b o e)
          have pni : hi.PlainList D2 vn.toArray := pn9.at fun o e => xhi _ o hD2L e
          have pli : hi.PlainList D3 ys9 := p9.at fun o e => xhi _ o hD3L e
          have pmi := gg.extBut si.extBut hTmL
          have KXi := KX.keeps hxi
          have Ti := T.keeps hxi
          clear xhi si xg xg' gg fg xf xf' xe xe' ge fe xd xd' Td KXd xc xc' gc fc xb xb' KXb Tb xa KXa Ta n9 hx9 pn9 lr9 KX9 T9 p9
          dsimp only
          have hon : (ordersOf nm).map (Str.join dotS) ≠ [] := by
            intro q
            have := laid_in nm
            rw [List.map_eq_nil_iff.mp q] at this
            cases this
          have hnn : nm ≠ [] := by rintro rfl; cases hnl
          refine wpAny_execs_cons (wpAny_If (wpAny_isTrue_Compare1 (nm_loc ni rfl rfl rfl rfl (wpAny_BinOp (wpAny_BinOp (List_ (args_cons (Call_ ?_))))))))
          walk_at "mine blt"
          refine callWith_builtin1 (args_cons (nm_loc ni rfl rfl rfl rfl (args_nil ?_)))
          refine min_pure rfl (vs := ys9.toList) pli.isList sl hon ?_
          intro hj tkj xm tm xj mm1 mm2
          have em := min_is hnn mm1 mm2
          subst em
          clear mm1 mm2
          refine args_nil ?_
          refine newList_pure (by rw [sizeLine_eq]; simp) ?_
          intro P1 hk xk fk gk
          have xik : Ext hi hk := Ext.trans xj xk
          refine wpAny_Constant_int ?_
          refine mul_pure (n := 2) (ni.keeps xik) gk (by decide) (by simp) ?_
          intro P2 hl' nl xl fl gl
          rw [fold_two] at gl
          have xil : ∀ b o, b ≠ s₁.heap.objs.size → hi.get? b = some o → hl'.get? b = some o := fun b o hb e => xl b o hb (xik b o e)
          have KXl := KX.keeps (fun b o e => xil b o (neL b o e) (hxi b o e) : Ext s₁.heap hl')
          have Tl := T.keeps (fun b o e => xil b o (neL b o e) (hxi b o e) : Ext s₁.heap hl')
          refine wpAny_BinOp (List_ (args_cons (Call_ ?_)))
          walk_at "mine blt"
          refine callWith_builtin1 (args_cons (nm_loc nl rfl rfl rfl rfl (args_nil ?_)))
          refine max_pure rfl (vs := ys9.toList) (plain_but pli ni xil).isList sl hon ?_
          intro hm' tkm xM tM xm' mm1 mm2
          have em := max_is hnn mm1 mm2
          subst em
          clear mm1 mm2
          refine args_nil ?_
          refine newList_pure (by rw [sizeLine_eq]; simp) ?_
          intro P3 hn' xn' fn gn
          have xln : Ext hl' hn' := Ext.trans xm' xn'
          refine wpAny_Constant_int ?_
          refine mul_pure (n := 2) (nl.keeps xln) gn (by decide) (by simp) ?_
          intro P4 ho' no xo fo go
          rw [fold_two] at go
          have xlo : ∀ b o, b ≠ s₁.heap.objs.size → hl'.get? b = some o → ho'.get? b = some o := fun b o hb e => xo b o hb (xln b o e)
          refine add_pure (plain_but gl nl xlo).isList go.isList (by rw [sizeLine_eq]; simp) ?_
          intro P5 hp xp fp gp
          have xip : ∀ b o, b ≠ s₁.heap.objs.size → hi.get? b = some o → hp.get? b = some o := fun b o hb e => xp b o (xlo b o hb (xil b o hb e))
          have np := no.keeps xp
          refine ne_same (ss := [Str.join dotS (laidOf true nm), Str.join dotS (laidOf true nm), Str.join dotS (laidOf true nm).reverse, Str.join dotS (laidOf true nm).reverse]) (plain_but pmi ni xip).isList gp.isList ?_ ?_ (show (7 : Nat) < cLine by decide) (wpAny_truthy_bool ?_)
          · exact .cons _ _ (.cons _ _ (.cons _ _ (.cons _ _ .nil)))
          · exact .cons _ _ (.cons _ _ (.cons _ _ (.cons _ _ .nil)))
          rw [if_neg (by decide)]
          refine wpAny_execs_nil ?_
          dsimp only
          have hxp : Ext s₁.heap hp := fun b o e => xip b o (neL b o e) (hxi b o e)
          have pnp := plain_but pni ni xip
          clear xip xp xlo xo xln xn' xm' Tl KXl xil xl xik xk xj gp fp go fo gn fn gl fl gk fk no nl ni pmi pli pni KXi Ti hxi
          obtain ⟨n0, n1, n2, n3, n4, t0, t1, t2, t3, t4, rfl, rfl⟩ := strs_five j1 hnl
          have ll0 := l2 n0 (by simp)
          -- trio
          refine wpAny_execs_cons (wpAny_Assign_Name (Subscript_ (nm_loc np rfl rfl rfl rfl (wpAny_Slice (evalPart_none_step (evalPart_some_step (wpAny_Constant_int (evalPart_none_step ?_))))))))
          refine slice_tail pnp.isList .none (.int _ _) .none (by decide) (by with_unfolding_all rfl) (by intro _; with_unfolding_all rfl) (by rw [sizeLine_eq]; simp) ?_
          intro Q1 hq xq fq gq
          rw [pick_trio] at gq
          refine wpAny_storeName_local rfl (np.keeps xq) (fun h20 n20 s20 => ?_) rfl
          have y20 : ∀ b o, b ≠ s₁.heap.objs.size → hp.get? b = some o → h20.get? b = some o := fun b o hb e => s20.extBut b o hb (xq b o e)
          have hx20 : Ext s₁.heap h20 := fun b o e => y20 b o (neL b o e) (hxp b o e)
          have pn20 := plain_but pnp np y20
          have pt20 := plain_but gq (np.keeps xq) (ext_but s20)
          clear y20 s20 xq gq fq pnp np hxp
          -- odd
          refine wpAny_execs_cons (wpAny_Assign_Name (List_ (args_cons (nm_loc n20 rfl rfl rfl rfl (args_cons (Tuple_ (args_cons (Subscript_ (nm_loc n20 rfl rfl rfl rfl (wpAny_Constant_int ?_))))))))))
          refine item_strsR pn20.isList j1 (by decide) (by simp) (by decide) ?_
          intro u0
          refine args_nil (newTuple_pure (by rw [sizeLine_eq]; simp) ?_)
          intro O1 h21 x21 f21 g21
          refine args_cons (Constant_none ?_)
          refine args_cons (Tuple_ (args_cons (Subscript_ (nm_loc (n20.keeps x21) rfl rfl rfl rfl (wpAny_Constant_int ?_)))))
          refine item_strsR (pn20.isList.at fun o e => x21 _ o e) j1 (by decide) (by simp) (by decide) ?_
          intro u1
          refine args_cons (wpAny_Constant_int (args_nil (newTuple_pure (by rw [sizeLine_eq]; simp) ?_)))
          intro O2 h22 x22 f22 g22
          have y22 : Ext h20 h22 := Ext.trans x21 x22
          refine args_cons (List_ (args_cons (wpAny_Constant_int (args_cons (Subscript_ (nm_loc (n20.keeps y22) rfl rfl rfl rfl (wpAny_Constant_int ?_)))))))
          refine item_strsR (pn20.isList.at fun o e => y22 _ o e) j1 (by decide) (by simp) (by decide) ?_
          intro u2
          refine args_nil (newList_pure (by rw [sizeLine_eq]; simp) ?_)
          intro O3 h23 x23 f23 g23
          have y23 : Ext h20 h23 := Ext.trans y22 x23
          refine args_cons (Tuple_ (args_cons (Tuple_ (args_cons (Subscript_ (nm_loc (n20.keeps y23) rfl rfl rfl rfl (wpAny_Constant_int ?_)))))))
          refine item_strsR (pn20.isList.at fun o e => y23 _ o e) j1 (by decide) (by simp) (by decide) ?_
          intro u3
          refine args_nil (newTuple_pure (by rw [sizeLine_eq]; simp) ?_)
          intro O4 h24 x24 f24 g24
          have y24 : Ext h20 h24 := Ext.trans y23 x24
          refine args_cons (Subscript_ (nm_loc (n20.keeps y24) rfl rfl rfl rfl (wpAny_Constant_int ?_)))
          refine item_strsR (pn20.isList.at fun o e => y24 _ o e) j1 (by decide) (by simp) (by decide) ?_
          intro u4
          refine args_nil (newTuple_pure (by rw [sizeLine_eq]; simp) ?_)
          intro O5 h25 x25 f25 g25
          have y25 : Ext h20 h25 := Ext.trans y24 x25
          refine args_nil (newList_pure (by rw [sizeLine_eq]; simp) ?_)
          intro O6 h26 x26 f26 g26
          have z23 : Ext h23 h26 := Ext.trans (Ext.trans x24 x25) x26
          have y26 : Ext h20 h26 := Ext.trans y25 x26
          have bad26 : ∀ v ∈ [Value.ref Q1, .ref O1, .none, .ref O2, .ref O3, .ref O5], Bad h26 v := by
            intro v hv
            simp only [List.mem_cons, List.not_mem_nil, or_false] at hv
            rcases hv with rfl | rfl | rfl | rfl | rfl | rfl
            · exact .inr (.inl ⟨_, _, _, _, rfl, pt20.isList.at fun o e => y26 _ o e⟩)
            · exact .inr (.inr (.inl ⟨_, _, rfl, g21.keeps (Ext.trans x22 (Ext.trans x23 z23))⟩))
            · exact .inl rfl
            · exact .inr (.inr (.inr (.inl ⟨_, _, _, _, _, rfl, g22.keeps (Ext.trans x23 z23), Nat.le_trans ll0 (by decide)⟩)))
            · exact .inr (.inr (.inr (.inr (.inl ⟨_, _, _, _, _, rfl, g23.isList.at fun o e => z23 _ o e⟩))))
            · exact .inr (.inr (.inr (.inr (.inr ⟨_, _, _, _, _, rfl, g25.keeps x26, g24.keeps (Ext.trans x25 x26)⟩))))
          have n26 := n20.keeps y26
          refine wpAny_storeName_local rfl n26 (fun h30 n30 s30 => ?_) rfl
          have bad30 := fun v hv => (bad26 v hv).but n26 (ext_but s30)
          have pn30 := plain_but (pn20.at fun o e => y26 _ o e) n26 (ext_but s30)
          have pt30 := plain_but (pt20.at fun o e => y26 _ o e) n26 (ext_but s30)
          have po30 := plain_but g26 n26 (ext_but s30)
          have hx30 : Ext s₁.heap h30 := fun b o e => ext_but s30 b o (neL b o e) (y26 b o (hx20 b o e))
          clear s30 bad26 n26 y26 z23 x26 x25 x24 x23 x22 x21 y25 y24 y23 y22 g21 g22 g23 g24 g25 g26 f21 f22 f23 f24 f25 f26 pn20 pt20 n20 hx20
          -- words
          refine wpAny_execs_cons (wpAny_Assign_Name (Calls.Constant_str ?_))
          refine wpAny_storeName_local rfl n30 (fun h31 n31 s31 => ?_) rfl
          have bad31 := fun v hv => (bad30 v hv).but n30 (ext_but s31)
          have pn31 := plain_but pn30 n30 (ext_but s31)
          have pt31 := plain_but pt30 n30 (ext_but s31)
          have po31 := plain_but po30 n30 (ext_but s31)
          have hx31 : Ext s₁.heap h31 := fun b o e => ext_but s31 b o (neL b o e) (hx30 b o e)
          clear s31 bad30 pn30 pt30 po30 n30 hx30
          refine wpAny_execs_cons (wpAny_Return_some (BoolOp_and (wpAny_Compare1 ?_)))
          refine' eval_chg (F := fun y => ∃ t, y = Value.str wordsS t) rfl ?hclos ?hcell ?hkind ?hnames ?hx n31 po31.isList ?hsz ?hi0 ?helt ?hQ ?hs
          case hclos => with_unfolding_all rfl
          case hcell => decide
          case hkind => with_unfolding_all rfl
          case hnames => decide
          case hx => with_unfolding_all rfl
          case hs => intro _; with_unfolding_all rfl
          case hsz => rw [sizeLine_eq]; simp
          case hi0 => intro Q' q; exact nm_loc n31 rfl rfl rfl rfl q
          case helt =>
            intro C S v s₃ m₃ E' hv f1 f2 f3 f4
            have y3 := chg_but f4 f3
            have hx3 : Ext s₁.heap s₃.heap := fun b o e => y3 b o (neL b o e) (hx31 b o e)
            have n3 := ns_chg n31 f4 (fun mm => by
              obtain ⟨o, _, _, q, _⟩ := n31
              rw [f3 _ mm] at q; cases q)
            have KX3 := KX.keeps hx3
            have T3 := T.keeps hx3
            walk_at "mine call"
            refine args_cons (nm_loc f1 f2 rfl rfl rfl (args_nil ⟨Ext.refl _, ?_⟩))
            have G3 := gr_law (dp := 302) (un := 7) (gd := some []) KX T rfl rfl rfl hL0 n3 hx3
            refine refusal_c w _ mg mb v 302 7 (some []) _ s₁.heap _ _ _ G3.B KX T (by decide) (by decide) ((bad31 v hv).but n31 y3) ?_
            intro h' tk1 tk' c
            exact ⟨⟨tk1, rfl⟩, h', tk', rfl, c⟩
          case hQ =>
            intro D4 h32 tk32 ys p32 c32 F32 f32 g32
            have y32 := chg_but g32 (by simp)
            have n32 := ns_chg n31 g32 (by simp)
            refine wpAny_BinOp (List_ (args_cons (nm_loc n32 rfl rfl rfl rfl (args_nil ?_))))
            refine newList_pure (one_fits _) ?_
            intro W1 h33 x33 f33 g33
            refine wpAny_Constant_int ?_
            refine mul_pure (n := 6) (n32.keeps x33) g33 (by decide) (one_size _) ?_
            intro W2 h34 n34 x34 f34 g34
            rw [fold_six] at g34
            have y34 : ∀ b o, b ≠ s₁.heap.objs.size → h32.get? b = some o → h34.get? b = some o := fun b o hb e => x34 b o hb (x33 b o e)
            refine eq_same (vs := ys.toList) (ss := List.replicate 6 wordsS) (plain_but p32 n32 y34).isList g34.isList ?_ ?_ (show (7 : Nat) < cLine by decide) (wpAny_truthy_bool ?_)
            · have := strs_const ys.toList F32
              rw [Array.length_toList, c32] at this
              exact this
            · exact six_same
            rw [if_pos rfl]
            have pn34 := plain_but (plain_but pn31 n31 y32) n32 y34
            have pt34 := plain_but (plain_but pt31 n31 y32) n32 y34
            refine BoolOp_one (wpAny_Compare1 (nm_loc n34 rfl rfl rfl rfl (Subscript_ (nm_loc n34 rfl rfl rfl rfl (wpAny_Slice (evalPart_none_step (evalPart_some_step (wpAny_Constant_int (evalPart_none_step ?_)))))))))
            refine slice_tail pn34.isList .none (.int _ _) .none (by decide) (by with_unfolding_all rfl) (by intro _; with_unfolding_all rfl) (by rw [sizeLine_eq]; simp) ?_
            intro W3 h35 x35 f35 g35
            rw [pick_trio] at g35
            refine eq_same (ss := [n0, n1, n2]) (pt34.isList.at fun o e => x35 _ o e) g35.isList (.cons _ _ (.cons _ _ (.cons _ _ .nil))) (.cons _ _ (.cons _ _ (.cons _ _ .nil))) (show (7 : Nat) < cLine by decide) ?_
            have hx35 : Ext s₁.heap h35 := fun b o e => x35 b o (y34 b o (neL b o e) (y32 b o (neL b o e) (hx31 b o e)))
            have n35 := n34.keeps x35
            dsimp only
            have FF : Fr s₁.heap _ h35 _ := ⟨n35, hx35, hL0⟩
            exact goodW_bool FF hg (raisesW_false (law_none ns)) (law_post ns))
end Mine

theorem PySem.Challenge.cw_pk0132_01_holds : PySem.Challenge.rw_pk0132_01.Holds := by
  exact Mine.law_w
