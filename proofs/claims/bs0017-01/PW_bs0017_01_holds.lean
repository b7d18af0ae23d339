import PyProof.Rows.All
import Wide.All
import OpenK.AllK
import Wide.FinOn
import PyProof.AttrMissHeap
import PyProof.ForAny
import PyProof.ConsumeWalk
import PyProof.SumWalk
import PyProof.CompFree
import PyProof.DictTruth
import PyProof.TupleKey
import PyProof.DictWalks
import PyProof.EqKinds
import PyProof.FactsAll.set_4
import PyProof.WalksMore
import PyProof.RangeFor
import PyProof.GenQ
import PyProof.ListTruth
import PyProof.WalksPairs
import PyProof.Rows.Catch
import PyProof.Rows.MaxTwoN
import PyProof.Rows.SeqMore
import PyProof.TupleOfSeq
import PyProof.Rows.SetFrom
import Wide.Seal
import OpenK.KCell
import KE.KItem
import KE.KDictLaws
import KE.KPop
import KE.KSlice
import KE.KNest
import KE.KDictIter
import KE.KEqSeq
import KE.KNestM
import KE.KOwnIter
import KE.KPar
import KE.KSetInts
import KE.KSetDisp
import KE.KTryDeep
import Lean
import PySem.Challenge.RW_bs0017_01
set_option Elab.async false
section
open PySem PySem.W PyProof.Rows
set_option maxRecDepth 100000
namespace Mine
set_option maxHeartbeats 8000000 in
open_top hd for PySem.Challenge.rw_bs0017_01
end Mine
end
example : True := by
  w_top off
  trivial
section
open PySem PySem.W PySem.Calls PyProof.Rows
set_option maxRecDepth 100000
namespace Mine

/-! ledger -/
theorem put_exists : ∃ f : Addr → Obj → List (Addr × Obj) → List (Addr × Obj), ∀ d o l, f d o l = l.map fun p => if p.1 = d then (d, o) else p := ⟨_, fun _ _ _ => rfl⟩
noncomputable def put : Addr → Obj → List (Addr × Obj) → List (Addr × Obj) := Classical.choose put_exists
theorem put_eq (d : Addr) (o : Obj) (l : List (Addr × Obj)) : put d o l = l.map fun p => if p.1 = d then (d, o) else p := Classical.choose_spec put_exists d o l
theorem put_cons (d : Addr) (o : Obj) (p : Addr × Obj) (l : List (Addr × Obj)) : put d o (p :: l) = (if p.1 = d then (d, o) else p) :: put d o l := by rw [put_eq, put_eq]; rfl

theorem put_fst (d : Addr) (o : Obj) (l : List (Addr × Obj)) : (put d o l).map (·.1) = l.map (·.1) := by
  rw [put_eq, List.map_map]; apply List.map_congr_left; intro p _; simp only [Function.comp]; split <;> simp_all
theorem put_nodup {d : Addr} {o : Obj} {l : List (Addr × Obj)} (h : (l.map (·.1)).Nodup) : ((put d o l).map (·.1)).Nodup := by rw [put_fst]; exact h
theorem mem_put_self {d : Addr} {o o' : Obj} {l : List (Addr × Obj)} (h : (d, o) ∈ l) : (d, o') ∈ put d o' l :=
  by rw [put_eq]; exact List.mem_map.mpr ⟨_, h, by simp⟩
theorem mem_put_ne {d a : Addr} {x o' : Obj} {l : List (Addr × Obj)} (h : (a, x) ∈ l) (hn : a ≠ d) : (a, x) ∈ put d o' l :=
  by rw [put_eq]; exact List.mem_map.mpr ⟨_, h, by simp [hn]⟩
theorem of_mem_put {d a : Addr} {x o' : Obj} {l : List (Addr × Obj)} (h : (a, x) ∈ put d o' l) : (a = d ∧ x = o') ∨ (a ≠ d ∧ (a, x) ∈ l) := by
  rw [put_eq] at h
  obtain ⟨p, hp, e⟩ := List.mem_map.mp h
  split at e
  · cases e; exact .inl ⟨rfl, rfl⟩
  · rename_i hn; cases e; exact .inr ⟨hn, hp⟩
theorem put_id {d : Addr} {o' : Obj} {l : List (Addr × Obj)} (h : ∀ p ∈ l, p.1 ≠ d) : put d o' l = l := by
  rw [put_eq]
  conv => rhs; rw [← List.map_id l]
  apply List.map_congr_left
  intro p hp; simp [h p hp]
theorem uniq {l : List (Addr × Obj)} (D : (l.map (·.1)).Nodup) {a : Addr} {o o' : Obj} (h : (a, o) ∈ l) (h' : (a, o') ∈ l) : o = o' := by
  induction l with
  | nil => cases h
  | cons p r ih =>
    rw [List.map_cons, List.nodup_cons] at D
    rcases List.mem_cons.mp h with e | h1
    · rcases List.mem_cons.mp h' with e' | h2
      · rw [← e'] at e; exact (Prod.mk.inj e).2
      · exact absurd (List.mem_map.mpr ⟨_, h2, by rw [← e]⟩) D.1
    · rcases List.mem_cons.mp h' with e' | h2
      · exact absurd (List.mem_map.mpr ⟨_, h1, by rw [← e']⟩) D.1
      · exact ih D.2 h1 h2
theorem updF_put {d : Addr} {o : Obj} : ∀ {l : List (Addr × Obj)}, (l.map (·.1)).Nodup → (d, o) ∈ l → UpdF d o l (fun o' => put d o' l)
  | p :: r, D, h => by
    rw [List.map_cons, List.nodup_cons] at D
    rcases List.mem_cons.mp h with e | h1
    · subst e
      have hn : ∀ q ∈ r, q.1 ≠ d := fun q hq e => D.1 (List.mem_map.mpr ⟨q, hq, e⟩)
      have : (fun o' => put d o' ((d, o) :: r)) = fun o' => (d, o') :: r := by
        funext o'; rw [put_cons, if_pos rfl, put_id hn]
      rw [this]; exact .head hn
    · have hn : p.1 ≠ d := fun e => D.1 (List.mem_map.mpr ⟨_, h1, e.symm⟩)
      have : (fun o' => put d o' (p :: r)) = fun o' => p :: put d o' r := by
        funext o'; rw [put_cons, if_neg hn]
      rw [this]; exact .tail hn (updF_put D.2 h1)
theorem upd_put {d : Addr} {o o' : Obj} {l : List (Addr × Obj)} (D : (l.map (·.1)).Nodup) (h : (d, o) ∈ l) : Upd d o o' l (put d o' l) := by
  induction l with
  | nil => cases h
  | cons p r ih =>
    rw [List.map_cons, List.nodup_cons] at D
    rcases List.mem_cons.mp h with e | h1
    · subst e
      have hn : ∀ q ∈ r, q.1 ≠ d := fun q hq e => D.1 (List.mem_map.mpr ⟨q, hq, e⟩)
      have : put d o' ((d, o) :: r) = (d, o') :: r := by
        rw [put_cons, if_pos rfl, put_id hn]
      rw [this]; exact .head hn
    · have hn : p.1 ≠ d := fun e => D.1 (List.mem_map.mpr ⟨_, h1, e.symm⟩)
      have : put d o' (p :: r) = p :: put d o' r := by
        rw [put_cons, if_neg hn]
      rw [this]; exact .tail hn (ih D.2 h1)

abbrev Above (news : List (Addr × Obj)) (d : Addr) : Prop := ∀ p ∈ news, p.1 < d

/-- the state of a frame: locals m at L, the ledger news -/
structure St (h₀ : Heap) (L : Addr) (m : Str → Option Value) (news : List (Addr × Obj)) (h : Heap) : Prop where
  F : Fr h₀ L h m
  N : News h₀ L h news
  D : (news.map (·.1)).Nodup
  low : 1 < L ∧ ∀ p ∈ news, 1 < p.1

section
variable {h₀ h h' : Heap} {L d : Addr} {m : Str → Option Value} {news news' : List (Addr × Obj)} {o o' : Obj}

theorem St.get (S : St h₀ L m news h) (hm : (d, o) ∈ news) : h.get? d = some o := (S.N _ hm).1
theorem St.change (S : St h₀ L m news h) (hm : (d, o) ∈ news) (hs : Heap.SameBut d h h') (ho : h'.get? d = some o') : St h₀ L m (put d o' news) h' := by
  have hd := S.N _ hm
  refine ⟨S.F.change hs hd.2.1 hd.2.2, fun p hp => ?_, put_nodup S.D, S.low.1, fun p hp => ?_⟩ <;> obtain ⟨a, x⟩ := p
  · rcases of_mem_put hp with ⟨rfl, rfl⟩ | ⟨hn, hq⟩
    · exact ⟨ho, hd.2⟩
    · exact ⟨(hs.2 a hn).trans (S.N _ hq).1, (S.N _ hq).2⟩
  · rcases of_mem_put hp with ⟨rfl, rfl⟩ | ⟨hn, hq⟩
    · exact (S.low.2 _ hm : 1 < a)
    · exact S.low.2 _ hq
theorem St.push (S : St h₀ L m news h) (o : Obj) (hf : o.isFreed = false := by rfl) : St h₀ L m ((h.objs.size, o) :: news) (h.push o) :=
  ⟨S.F.push _, S.N.push S.F _ hf, by
    rw [List.map_cons, List.nodup_cons]
    refine ⟨fun hx => ?_, S.D⟩
    obtain ⟨p, hp, e⟩ := List.mem_map.mp hx
    exact absurd (Heap.lt_size (S.N p hp).1) (by rw [e]; exact Nat.lt_irrefl _), S.low.1, fun p hp => by
    rcases List.mem_cons.mp hp with rfl | hp
    · exact Nat.lt_trans S.low.1 S.F.ns.lt
    · exact S.low.2 _ hp⟩
theorem St.lt (S : St h₀ L m news h) : ∀ p ∈ news, p.1 < h.objs.size := fun p hp => Heap.lt_size (S.N p hp).1
theorem St.set {m' : Str → Option Value} (S : St h₀ L m news h) (hn : h'.Ns L m') (hs : Heap.SameBut L h h') : St h₀ L m' news h' :=
  ⟨S.F.set hn hs, S.N.set hs, S.D, S.low⟩
theorem St.sub (S : St h₀ L m news h) (hs : news'.Sublist news) : St h₀ L m news' h :=
  ⟨S.F, fun p hp => S.N p (hs.subset hp), (hs.map (·.1)).nodup S.D, S.low.1, fun p hp => S.low.2 p (hs.subset hp)⟩
theorem St.notSys (S : St h₀ L m news h) (hm : (d, o) ∈ news) : (d == sysModules) = false := beq_eq_false_iff_ne.mpr (Nat.ne_of_gt (S.low.2 _ hm))
theorem St.tl {p : Addr × Obj} (S : St h₀ L m (p :: news) h) : St h₀ L m news h := S.sub (List.sublist_cons_self _ _)
theorem St.hd_ne {D a : Addr} {x : Obj} (S : St h₀ L m ((D, o) :: news) h) (hm : (a, x) ∈ news) : a ≠ D := by
  have := S.D
  rw [List.map_cons, List.nodup_cons] at this
  exact fun e => this.1 (List.mem_map.mpr ⟨_, hm, e⟩)
theorem St.uniq (S : St h₀ L m news h) {a : Addr} {o o' : Obj} (x : (a, o) ∈ news) (y : (a, o') ∈ news) : o = o' := Mine.uniq S.D x y
end
end Mine
end
section
open PySem PySem.W PySem.Calls PyProof.Rows
set_option maxRecDepth 100000
namespace Mine
def thinP : Program := { main := { body := [.Import [⟨Str.ofString "sys", none, default⟩] default], scope := default, futureAnnotations := false, file := default }, modules := [], parses := [], absent := [] }
noncomputable def thinL : List Str := looseW hd.view_39 [Str.ofString "Graph"] ++ (recsOf hd.view_39).map (·.name) ++ (litsOf hd.view_39).map (·.1) ++ (clssOf hd.view_39 (looseW hd.view_39 [Str.ofString "Graph"])).map (·.name)
theorem thin {mean : ExcName → Option Value} {mg mb : Str → Option Value} {h : Heap} (T : Top hd.view_39 (looseW hd.view_39 [Str.ofString "Graph"]) mean mg mb h) : Top thinP thinL mean mg mb h where
  g := T.g
  b := T.b
  nolimit := T.nolimit
  nodigits := T.nodigits
  fn := fun d hd => by simp [recsOf, thinP] at hd
  own := fun d hd => by simp [ownsOf, thinP, ownStep] at hd
  const := fun x d hx => by simp [valOf, thinP, valAt] at hx
  free := fun x h1 h2 _ _ _ => by
    simp only [thinL, List.mem_append, not_or] at h2
    exact T.free x h1 h2.1.1.1 h2.1.1.2 h2.1.2 h2.2
  builtins := T.builtins
  tab := fun d hd => by simp [recsOf, thinP] at hd
  bmain := T.bmain
  seer := fun e => by simp [importsNone, thinP] at e
end Mine
end
section
open PySem PySem.W PySem.Calls PyProof.Rows
set_option maxRecDepth 100000
namespace Mine


abbrev PP : Program := PySem.Challenge.pw_bs0017_01

/-- all but the heap and the counter is as it was -/
def Rest (s s' : Shared) : Prop := s'.gens = s.gens ∧ s'.os = s.os
theorem Rest.refl (s : Shared) : Rest s s := ⟨rfl, rfl⟩
theorem Rest.trans {s s' s'' : Shared} (a : Rest s s') (b : Rest s' s'') : Rest s s'' := ⟨b.1.trans a.1, b.2.trans a.2⟩

theorem Rest.comp {s₀ s₁ s₂ s₃ : Shared} (a : Rest s₀ s₁) (b : Rest s₂ s₃) (e1 : s₂.gens = s₁.gens := by rfl) (e2 : s₂.os = s₁.os := by rfl) : Rest s₀ s₃ := ⟨b.1.trans (e1.trans a.1), b.2.trans (e2.trans a.2)⟩

/-- the surroundings of a frame -/
structure Cx (w : World) (A : Around) (env : Env) (L : Addr) (h₀ : Heap) : Prop where
  X : (hd.heap_39 w.params).In h₀
  T : ∃ mean mg mb, Top thinP thinL mean mg mb h₀
  hh : A.handled = none
  kind : env.scope.kind = .function
  loc : env.locals = L

theorem Cx.in1 {w A env L h₀} (C : Cx w A env L h₀) : Cx w A.in1 env L h₀ := ⟨C.X, C.T, C.hh, C.kind, C.loc⟩
/-- the frames below, wanted where something is raised -/
def Bel (A : Around) (env : Env) (h₀ : Heap) : Prop := ∃ A₀ base outer, Below A₀ base outer h₀ ∧ A.frames = some (env :: outer)

theorem hideS {h₀ h : Heap} {L : Addr} {m : Str → Option Value} {news : List (Addr × Obj)} (S : St h₀ L m news h) :
    Fr h₀ L (hideAll h (news.map (·.1))) m ∧ h₀.StaysIn (hideAll h (news.map (·.1))) := by
  have nm : ∀ b o, h₀.get? b = some o → b ∉ news.map (·.1) := fun b o e q => by
    obtain ⟨p, hp, rfl⟩ := List.mem_map.mp q
    rw [(S.N p hp).2.2] at e; cases e
  have st : h₀.StaysIn (hideAll h (news.map (·.1))) := fun b o e => hideAll_get _ (S.F.keep b o e) (nm b o e)
  obtain ⟨oL, es, ep, hL, r⟩ := S.F.ns
  have nL : L ∉ news.map (·.1) := fun q => by
    obtain ⟨p, hp, e⟩ := List.mem_map.mp q
    exact (S.N p hp).2.1 e
  exact ⟨⟨⟨oL, es, ep, hideAll_get _ hL nL, r⟩, st, S.F.above⟩, st⟩
theorem backS {h₀ g h' : Heap} {L : Addr} {m : Str → Option Value} {news' : List (Addr × Obj)} (FG : Fr h₀ L g m) (st : h₀.StaysIn g) (hk : ∀ b o, g.get? b = some o → h'.get? b = some o)
    (N' : ∀ p ∈ news', h'.get? p.1 = some p.2 ∧ g.get? p.1 = none) : Fr h₀ L h' m ∧ News h₀ L h' news' := by
  obtain ⟨oL, es, ep, hL, r⟩ := FG.ns
  refine ⟨⟨⟨oL, es, ep, hk _ _ hL, r⟩, fun b o e => hk b o (st b o e), FG.above⟩, fun p hp => ⟨(N' p hp).1, fun q => ?_, ?_⟩⟩
  · have := (N' p hp).2; rw [q, hL] at this; cases this
  · cases q : h₀.get? p.1 with
    | none => rfl
    | some o => have := (N' p hp).2; rw [st _ _ q] at this; cases this
theorem leaveH {h₀ g : Heap} {L : Addr} {m : Str → Option Value} {R : Result → Shared → Prop} {v : Value} {s' : Shared} (FG : Fr h₀ L g m) (st : h₀.StaysIn g) (hl : LeaveK h₀ L m g R v s') : R (.ok (.ret v)) s' := by
  obtain ⟨L', m', news', F', N', k⟩ := hl
  obtain ⟨a, b⟩ := backS FG st F'.keep (fun p hp => ⟨(N' p hp).1, (N' p hp).2.2⟩)
  exact k a b
theorem frameS {w : World} {A : Around} {s : Shared} {h₀ : Heap} {env : Env} {L f : Addr} {m : Str → Option Value} {news : List (Addr × Obj)} {R : Result → Shared → Prop} {E : Value → Shared → Prop}
    {qual : Str} {body : List Stmt} {scope : Scope} {cdv : Value} {binds : List (Str × Value)}
    (C : Cx w A env L h₀) (S : St h₀ L m news s.heap) (hloc : ∀ y ∈ binds, scope.names.lookup y.1 = some .local)
    (h : ∀ g L' s₁, Rest s s₁ → Cx w (A.deeper (envOf qual scope L' f cdv)) (envOf qual scope L' f cdv) L' g → St g L' (fun y => binds.reverse.lookup y) news s₁.heap →
      wpAny (model PySem.Challenge.pw_bs0017_01 w) (A.deeper (envOf qual scope L' f cdv)) (execs body (envOf qual scope L' f cdv))
        (fun fl s' => LeaveK h₀ L m g R (match fl with | .ret v => v | _ => .none) s')
        (fun e s' => wpAny (model PySem.Challenge.pw_bs0017_01 w) (A.deeper (envOf qual scope L' f cdv)) (leaving (envOf qual scope L' f cdv) e) (fun _ s'' => R (.error e) s'') (fun e' s'' => R (.error e') s'') s')
        s₁)
    (hcell : ∀ x ∈ scope.names, x.2 ≠ .cell) (hk : scope.kind = .function) :
    wpAny (model PP w) A.in1 (newFunctionEnv scope mainGlobals [] binds (qual ++ ".<locals>.") (some f) cdv none builtinsNs) (fun env' s₂ => s₂.heap.NoLimit ∧ codeAny (model PP w) A (.func body env') R s₂) E s := by
  obtain ⟨mean, mg, mb, T⟩ := C.T
  obtain ⟨FG, st⟩ := hideS S
  refine wpAny_newFunctionEnv hcell hloc (fun h₁ hns hsb => ⟨(T.nolimit.keeps S.F.keep).fresh _ hsb, codeAny_func ?_⟩) hk
  have hk₁ : ∀ b o, s.heap.get? b = some o → h₁.get? b = some o := fun b o e => hsb.extBut b o (Nat.ne_of_lt (Heap.lt_size e)) (Heap.get?_push_of_some _ e)
  show wpAny (model PP w) (A.deeper (envOf qual scope s.heap.objs.size f cdv)) (execs body (envOf qual scope s.heap.objs.size f cdv)) _ _ _
  have Fg : Fr (hideAll s.heap (news.map (·.1))) s.heap.objs.size h₁ (fun y => binds.reverse.lookup y) := ⟨hns, fun b o e => hk₁ b o (of_hideAll _ e), Nat.le_of_eq (hideAll_size _ _)⟩
  have T' := T.keeps st
  exact wpAny_mono (h _ s.heap.objs.size { s with heap := h₁, toks := s.toks + binds.length } ⟨rfl, rfl⟩ ⟨C.X.keeps st, ⟨mean, mg, mb, T'⟩, C.hh, hk, rfl⟩
    ⟨Fg, fun p hp => ⟨hk₁ _ _ (S.N p hp).1, Nat.ne_of_lt (Heap.lt_size (S.N p hp).1), hideAll_none _ (List.mem_map_of_mem hp)⟩, S.D, Nat.lt_of_lt_of_le (modules_low T'.nolimit) Fg.above, S.low.2⟩)
    (fun fl s' hl => leaveH FG st hl) fun _ _ y => y

/-- entering a def of the written part -/
theorem enter {w : World} {A : Around} {s : Shared} {h₀ : Heap} {env : Env} {L f : Addr} {m : Str → Option Value} {news : List (Addr × Obj)} {R : Result → Shared → Prop}
    {name qual : Str} {params : Arguments} {body : List Stmt} {scope : Scope} {dV kV doc pm cdv ct oc : Value} {an od : Option Addr} {osl : Array (Option Value)} {args : Args} {binds : List (Str × Value)}
    (C : Cx w A env L h₀) (S : St h₀ L m news s.heap)
    (ho : (hd.heap_39 w.params).lookup f = some ⟨oc, od, .func (fnOf name qual params body scope dV kV doc pm an cdv ct), osl⟩) (hcd : codeIn (hd.heap_39 w.params) cdv qual = true)
    (hbind : BindsTo s (fnOf name qual params body scope dV kV doc pm an cdv ct) args binds) (hloc : ∀ y ∈ binds, scope.names.lookup y.1 = some .local)
    (h : ∀ g L' s₁, Rest s s₁ → Cx w (A.deeper (envOf qual scope L' f cdv)) (envOf qual scope L' f cdv) L' g → St g L' (fun y => binds.reverse.lookup y) news s₁.heap →
      wpAny (model PySem.Challenge.pw_bs0017_01 w) (A.deeper (envOf qual scope L' f cdv)) (execs body (envOf qual scope L' f cdv))
        (fun fl s' => LeaveK h₀ L m g R (match fl with | .ret v => v | _ => .none) s')
        (fun e s' => wpAny (model PySem.Challenge.pw_bs0017_01 w) (A.deeper (envOf qual scope L' f cdv)) (leaving (envOf qual scope L' f cdv) e) (fun _ s'' => R (.error e) s'') (fun e' s'' => R (.error e') s'') s')
        s₁)
    (hroom : A.depth < recursionLimit) (hco : scope.isCoroutine = false := by rfl) (hgen : scope.isGenerator = false := by rfl) (hk : scope.kind = .function := by rfl)
    (hcell : ∀ x ∈ scope.names, x.2 ≠ .cell := by decide) :
    codeAny (model PySem.Challenge.pw_bs0017_01 w) A (.call (.ref f) args) R s := by
  obtain ⟨mean, mg, mb, T⟩ := C.T
  refine codeAny_call_function hroom ((C.X.keeps S.F.keep) _ _ ho) rfl hco hgen rfl (codeRec_of (C.X.keeps S.F.keep) hcd) (hbind _ _ _ _ ?_)
  exact frameS C S hloc h hcell hk
end Mine
end
section
open PySem PySem.W PySem.Calls PyProof.Rows
set_option maxRecDepth 100000
namespace Mine

section
variable {w : World} {A : Around} {E : Value → Shared → Prop} {s : Shared} {h₀ : Heap} {L d : Addr} {m : Str → Option Value} {news : List (Addr × Obj)} {o : Obj} {K : Type} [DecidableEq K] {knd : KeyKind PP w K} {kvs : List (K × Value)} {k : K} {key v : Value}

theorem St.dict (S : St h₀ L m news s.heap) (hm : (d, o) ∈ news) (hd : o.IsDictOf knd kvs) : s.heap.DictOf knd d kvs := Heap.dictOf_iff.mpr ⟨o, S.get hm, hd⟩

theorem fresh_ne {d a : Addr} {o : Obj} {news l₀ : List (Addr × Obj)} (l : Above news d) (_h0 : (a, o) ∈ l₀) (h : (a, o) ∈ news) : d ≠ a := Nat.ne_of_gt (l _ h)
theorem cons_mem {p : Addr × Obj} {news : List (Addr × Obj)} {h : Heap} (_S : St h₀ L m (p :: news) h) : p ∈ p :: news := List.mem_cons_self
theorem in_D {Q : Value → Shared → Prop} {l₀ : List (Addr × Obj)} (_h0 : (d, o) ∈ l₀) (S : St h₀ L m news s.heap) (hm : (d, o) ∈ news) (hd : o.IsDictOf knd kvs) (hk : knd.is k key = true) {b : Bool} (hv : (valueAt kvs k).isSome = b)
    (h : ∀ s', Rest s s' → St h₀ L m news s'.heap → Q (.bool b) s') : wpAny (model PP w) A (compareOp .In key (.ref d)) Q E s :=
  wpAny_in_of hk (S.notSys hm) (S.dict hm hd).mapOf (hv ▸ h _ ⟨rfl, rfl⟩ S)
theorem notin_D {Q : Value → Shared → Prop} {l₀ : List (Addr × Obj)} (_h0 : (d, o) ∈ l₀) (S : St h₀ L m news s.heap) (hm : (d, o) ∈ news) (hd : o.IsDictOf knd kvs) (hk : knd.is k key = true) {b : Bool} (hv : (valueAt kvs k).isSome = b)
    (h : ∀ s', Rest s s' → St h₀ L m news s'.heap → Q (.bool (!b)) s') : wpAny (model PP w) A (compareOp .NotIn key (.ref d)) Q E s :=
  wpAny_notIn_of hk (S.notSys hm) (S.dict hm hd).mapOf (hv ▸ h _ ⟨rfl, rfl⟩ S)
theorem get_D {Q : Value → Shared → Prop} {l₀ : List (Addr × Obj)} (_h0 : (d, o) ∈ l₀) (S : St h₀ L m news s.heap) (hm : (d, o) ∈ news) (hd : o.IsDictOf knd kvs) (hk : knd.is k key = true) (hv : valueAt kvs k = some v)
    (h : ∀ s', Rest s s' → St h₀ L m news s'.heap → Q v s') : wpAny (model PP w) A (getItem (.ref d) key) Q E s :=
  wpAny_getItem_of hk (S.dict hm hd).mapOf hv (h _ ⟨rfl, rfl⟩ S)
theorem sub_D {Q : Value → Shared → Prop} {value slice : Expr} {l₀ : List (Addr × Obj)} (_h0 : (d, o) ∈ l₀) (S : St h₀ L m news s.heap) (hm : (d, o) ∈ news) (hd : o.IsDictOf knd kvs) (hk : knd.is k key = true) (hv : valueAt kvs k = some v)
    (h : ∀ s', Rest s s' → St h₀ L m news s'.heap → Q v s')
    (hs : subscripted slice false (.ref d) key = operate [.ref d, key] (getItem (.ref d) key) := by with_unfolding_all rfl) : wpAny (model PP w) A (subscriptTail value slice (.ref d) key) Q E s :=
  tail_any (S.dict hm hd).typeIs slot_dict_getitem.lookup (get_D hm S hm hd hk hv h) hs
theorem set_D {Q : Unit → Shared → Prop} {l₀ : List (Addr × Obj)} (_h0 : (d, o) ∈ l₀) (S : St h₀ L m news s.heap) (hm : (d, o) ∈ news) (hd : o.IsDictOf knd kvs) (hk : knd.is k key = true) (hz : kvs.length ≤ sizeLine)
    (h : ∀ s' o', Rest s s' → St h₀ L m (put d o' news) s'.heap → o'.IsDictOf knd (stored kvs k v) → (d, o') ∈ put d o' news → Q () s') : wpAny (model PP w) A (setItem (.ref d) key v) Q E s := by
  refine wpAny_setItem_pairs (hsz := hz) hk (S.dict hm hd) fun h' hD hs => ?_
  obtain ⟨o', ho', hd'⟩ := Heap.dictOf_iff.mp hD
  exact h _ o' ⟨rfl, rfl⟩ (S.change hm hs ho') hd' (mem_put_self hm)
theorem del_D {Q : Unit → Shared → Prop} {l₀ : List (Addr × Obj)} (_h0 : (d, o) ∈ l₀) (S : St h₀ L m news s.heap) (hm : (d, o) ∈ news) (hd : o.IsDictOf knd kvs) (hk : knd.is k key = true) (hz : kvs.length ≤ sizeLine) (hl : (valueAt kvs k).isSome = true)
    (h : ∀ s' o', Rest s s' → St h₀ L m (put d o' news) s'.heap → o'.IsDictOf knd (without kvs k) → (d, o') ∈ put d o' news → Q () s') : wpAny (model PP w) A (delItem (.ref d) key) Q E s := by
  have hD := S.dict hm hd
  unfold delItem
  try with_reducible refine wpAny_holding ?_
  refine wpAny_bind (wpAny_sequenceKey hD.typeIs (by decide) ?_)
  refine wpAny_bind (wpAny_callSpecial?_slot (name := Str.ofString "__delitem__") hD.typeIs PySem.F.slot_dict_delitem
    (call_meetsIn PySem.F.slot_dict_delitem hD.typeIs PySem.F.entry_dict_delitem (PySem.F.args_dict_delitem_2 _ _) (meets_dict_delitem_pairs knd d hk) ⟨kvs, hD, hz, hl, fun h' hmm hs => ?_⟩))
  obtain ⟨o', ho', hd'⟩ := Heap.dictOf_iff.mp hmm
  exact wpAny_pure (h _ o' ⟨rfl, rfl⟩ (S.change hm hs ho') hd' (mem_put_self hm))
theorem getM_DG {Q : Value × List Value → Shared → Prop} {pl : Sem Bool} {l₀ : List (Addr × Obj)} (_h0 : (d, o) ∈ l₀) (S : St h₀ L m news s.heap) (hm : (d, o) ∈ news) (hd : o.IsDictOf knd kvs) (h : Q (.builtin "dict.get", [.ref d]) s) :
    wpAny (model PP w) A (getMethod (.ref d) (Str.ofString "get") pl) Q E s :=
  getMethod_builtin (S.dict hm hd).typeIs PySem.F.plainAttrs_dict PySem.F.slot_dict_get PySem.F.type_dict_get (S.dict hm hd).mapOf.noDict h
theorem getM_DU {Q : Value × List Value → Shared → Prop} {pl : Sem Bool} {l₀ : List (Addr × Obj)} (_h0 : (d, o) ∈ l₀) (S : St h₀ L m news s.heap) (hm : (d, o) ∈ news) (hd : o.IsDictOf knd kvs) (h : Q (.builtin "dict.update", [.ref d]) s) :
    wpAny (model PP w) A (getMethod (.ref d) (Str.ofString "update") pl) Q E s :=
  getMethod_builtin (S.dict hm hd).typeIs PySem.F.plainAttrs_dict PySem.F.slot_dict_update PySem.F.type_dict_update (S.dict hm hd).mapOf.noDict h
theorem getD_of_none {x : Option Value} {d : Value} (h : x = none) : x.getD d = d := by rw [h]; rfl
theorem getD_of_some {x : Option Value} {d v : Value} (h : x = some v) : x.getD d = v := by rw [h]; rfl
theorem get2_D {Q : Value → Shared → Prop} {dflt r : Value} {l₀ : List (Addr × Obj)} (_h0 : (d, o) ∈ l₀) (S : St h₀ L m news s.heap) (hm : (d, o) ∈ news) (hd : o.IsDictOf knd kvs) (hk : knd.is k key = true) (hv : (valueAt kvs k).getD dflt = r)
    (h : ∀ s', Rest s s' → St h₀ L m news s'.heap → Q r s') : wpAny (model PP w) A (call (.builtin "dict.get") [.ref d, key, dflt]) Q E s :=
  call_meetsIn PySem.F.slot_dict_get (S.dict hm hd).typeIs PySem.F.entry_dict_get (PySem.F.args_dict_get_3 _ _ _) (meets_dict_get_default knd d hk (S.notSys hm) dflt) ⟨_, (S.dict hm hd).mapOf, hv ▸ h _ ⟨rfl, rfl⟩ S⟩
theorem len_D {Q : Value → Shared → Prop} {l₀ : List (Addr × Obj)} (_h0 : (d, o) ∈ l₀) (S : St h₀ L m news s.heap) (hm : (d, o) ∈ news) (hd : o.IsDictOf knd kvs) (hfit : (kvs.length : Int) < 2 ^ 63)
    (h : ∀ s' t, Rest s s' → St h₀ L m news s'.heap → Q (.int kvs.length t) s') : wpAny (model PP w) A (call (.builtin "len") [.ref d]) Q E s :=
  call_len_dict (S.notSys hm) (S.dict hm hd) hfit (h _ _ ⟨rfl, rfl⟩ S)

theorem mergeDict_nil {nm : String} {d e : Addr} {Q : Unit → Shared → Prop} {K' : Type} [DecidableEq K'] {knd' : KeyKind PP w K'} (hde : d ≠ e) (hoS : (e == sysModules) = false)
    (he : s.heap.DictOf knd' e []) (h : Q () s) : wpAny (model PP w) A (Builtin.Dict.mergeDict nm d e) Q E s := by
  obtain ⟨oo, eso, epo, hoo, hco, hdo', hko, hpo, hno⟩ := id he
  have hes : eso = #[] := by
    have := hpo.length
    simpa using this
  subst hes
  unfold Builtin.Dict.mergeDict
  rw [if_neg (by simpa using hde)]
  unfold Builtin.Dict.showsAll
  rw [if_neg (by rw [hoS]; exact Bool.false_ne_true)]
  refine wpAny_bind (wpAny_pure ?_)
  refine wpAny_bind (wpAny_dictEntries hoo hdo' ?_)
  dsimp only
  rw [if_neg (by simp)]
  refine wpAny_bind (wpAny_dictEpoch hoo hdo' ?_)
  refine wpAny_bind (wpAny_dictEntries hoo hdo' ?_)
  refine wpAny_bind (m := forIn _ _ _) (wpAny_of_eq (a := PUnit.unit) (by simp [Std.Legacy.Range.forIn_eq_forIn_range']) ?_)
  exact wpAny_pure h
theorem update_nil {e : Addr} {oe : Obj} {Q : Value → Shared → Prop} {K' : Type} [DecidableEq K'] {knd' : KeyKind PP w K'} {l₀ l₁ : List (Addr × Obj)} (_h0 : (d, o) ∈ l₀) (_h1 : (e, oe) ∈ l₁) (S : St h₀ L m news s.heap) (hm : (d, o) ∈ news) (hd : o.IsDictOf knd kvs)
    (hme : (e, oe) ∈ news) (he : oe.IsDictOf knd' []) (hde : d ≠ e) (h : ∀ s', Rest s s' → St h₀ L m news s'.heap → Q .none s') : wpAny (model PP w) A (call (.builtin "dict.update") [.ref d, .ref e]) Q E s := by
  have hD := S.dict hm hd
  have hE := S.dict hme he
  refine call_meetsIn (S := fun _ R s' => s' = s ∧ R (.ok (.ret .none)) s) PySem.F.slot_dict_update hD.typeIs PySem.F.entry_dict_update (PySem.F.args_dict_update_2 _ _) (.of_wp fun A R s' hh => ?_) ⟨rfl, h _ ⟨rfl, rfl⟩ S⟩
  obtain ⟨rfl, h⟩ := hh
  unfold Builtin.«dict.update»
  refine wpAny_bind ?_
  unfold Builtin.Dict.selfAndRest
  refine wpAny_bind (wpAny_notOrdered_dict hD.typeIs ?_)
  show wpAny _ _ (pure (d, [Value.ref e])) _ _ _
  refine wpAny_pure ?_
  show wpAny _ _ (Builtin.Dict.updateFrom "dict.update" d (.ref e) [] .none) _ _ _
  unfold Builtin.Dict.updateFrom
  refine wpAny_bind (wpAny_typeOf hE.typeIs ?_)
  rw [if_neg (by decide)]
  refine wpAny_bind ?_
  unfold Builtin.Dict.merge
  refine wpAny_bind ?_
  unfold Builtin.Dict.readDirectly
  refine wpAny_bind (wpAny_isInstance hE.typeIs isSubtype_dict_dict ?_)
  simp only [Bool.not_true, Bool.false_eq_true, if_false]
  refine wpAny_bind (wpAny_specialOf hE.typeIs F.slot_dict_iter.lookup (wpAny_pure ?_))
  simp only [beq_self_eq_true, if_true]
  refine wpAny_bind (wpAny_pure ?_)
  refine mergeDict_nil hde (S.notSys hme) hE ?_
  show wpAny _ _ (Builtin.Dict.addKeywords d [] >>= _) _ _ _
  exact wpAny_bind (wpAny_pure (wpAny_pure ⟨.none, rfl, h⟩))
theorem ne_int_t {a b : Int} {t u : Tok} {Q : Value → Shared → Prop} (hab : a ≠ b) (h : Q (.bool true) s) : wpAny (model PP w) A (compareOp .NotEq (.int a t) (.int b u)) Q E s := ne_int (by rw [show (a != b) = true from by simpa using hab]; exact h)
theorem ne_int_f {a b : Int} {t u : Tok} {Q : Value → Shared → Prop} (hab : a = b) (h : Q (.bool false) s) : wpAny (model PP w) A (compareOp .NotEq (.int a t) (.int b u)) Q E s := ne_int (by rw [show (a != b) = false from by simpa using hab]; exact h)
theorem eq_int_t {a b : Int} {t u : Tok} {Q : Value → Shared → Prop} (hab : a = b) (h : Q (.bool true) s) : wpAny (model PP w) A (compareOp .Eq (.int a t) (.int b u)) Q E s := eq_int (by rw [show (a == b) = true from by simpa using hab]; exact h)
theorem eq_int_f {a b : Int} {t u : Tok} {Q : Value → Shared → Prop} (hab : a ≠ b) (h : Q (.bool false) s) : wpAny (model PP w) A (compareOp .Eq (.int a t) (.int b u)) Q E s := eq_int (by rw [show (a == b) = false from by simpa using hab]; exact h)
end
end Mine
end
section
open PySem PySem.W PySem.Calls PyProof.Rows
set_option maxRecDepth 100000
namespace Mine

section
variable {w : World} {A : Around} {E : Value → Shared → Prop} {s : Shared} {Q : Value → Shared → Prop}

theorem mergeMapping_nil {d D : Addr} {Q : Unit → Shared → Prop} {K' : Type} [DecidableEq K'] {knd' : KeyKind PP w K'}
    (hD : s.heap.DictOf knd' d []) (hlo : (d == sysModules) = false) (hnew : s.heap.get? D = some (dictOf [] 0)) (h : Q () s) : wpAny (model PP w) A (mergeMapping D (.ref d) true) Q E s := by
  delta mergeMapping
  refine wpAny_bind (wpAny_isInstance hD.typeIs isSubtype_dict_dict ?_)
  show wpAny _ _ (specialOf _ _ >>= _) _ _ _
  refine wpAny_bind (wpAny_specialOf hD.typeIs F.slot_dict_iter.lookup ?_)
  refine wpAny_bind (wpAny_pure ?_)
  show wpAny _ _ (if (d == sysModules) = true then _ else _) _ _ _
  obtain ⟨oo, eso, epo, hoo, hco, hdo', hko, hpo, hno⟩ := id hD
  have hes : eso = #[] := by
    have := hpo.length
    simpa using this
  subst hes
  rw [if_neg (by rw [hlo]; exact Bool.false_ne_true)]
  refine wpAny_bind (wpAny_dictEntries hnew rfl ?_)
  rw [if_pos (by rfl)]
  refine wpAny_bind (wpAny_dictEntries hoo hdo' ?_)
  refine wpAny_bind (m := forIn _ _ _) (wpAny_of_eq (a := PUnit.unit) (by simp) ?_)
  refine wpAny_bind (wpAny_dictEntries hoo hdo' ?_)
  refine wpAny_bind (wpAny_dictEpoch hoo hdo' ?_)
  refine wpAny_bind (m := forIn _ _ _) (wpAny_of_eq (a := PUnit.unit) (by simp) ?_)
  exact wpAny_pure h

/-- what a call with `**x` asks, x an empty dict -/
theorem mergedKeywords_nil {f : Value} {x : Sem Value} {Q : Addr → Shared → Prop} {K' : Type} [DecidableEq K'] {knd' : KeyKind PP w K'}
    (h : wpAny (model PP w) A x (fun dv s₂ => ∃ d, dv = .ref d ∧ s₂.heap.DictOf knd' d [] ∧ (d == sysModules) = false ∧ Q s.heap.objs.size s₂ ∧ s₂.heap.get? s.heap.objs.size = some (dictOf [] 0)) E { s with heap := s.heap.push (dictOf [] 0) }) :
    wpAny (model PP w) A (mergedKeywords f [(none, x)]) Q E s := by
  delta mergedKeywords
  refine wpAny_bind (wpAny_alloc ?_)
  refine wpAny_bind (wpAny_holding ?_)
  refine wpAny_bind ?_
  rw [List.forIn_cons]
  refine wpAny_bind ?_
  refine wpAny_bind ?_
  refine wpAny_pure ?_
  refine wpAny_bind (wpAny_mono h (fun dv s₂ hh => ?_) fun _ _ e => e)
  obtain ⟨d, rfl, hD, hlo, hq, hnew⟩ := hh
  refine wpAny_bind (wpAny_onRaise (wpAny_holding (wpAny_tryCatch (wpAny_onRaise (mergeMapping_nil hD hlo hnew ?_)))))
  refine wpAny_pure ?_
  refine wpAny_pure ?_
  show wpAny _ _ (pure () >>= _) _ _ _
  refine wpAny_bind (wpAny_pure ?_)
  first | exact wpAny_pure hq | exact wpAny_pure (wpAny_pure hq)

theorem keywordsIn_nil {f : Value} {D : Addr} {Q : List (Str × Value) → Shared → Prop} (hD : s.heap.get? D = some (dictOf [] 0)) (h : Q [] s) : wpAny (model PP w) A (keywordsIn f D) Q E s := by
  delta keywordsIn
  refine wpAny_bind (wpAny_dictEntries hD rfl ?_)
  refine wpAny_bind ?_
  refine wpAny_pure ?_
  exact wpAny_pure h

/-- a call, its arguments by place and `**x` of an empty dict -/
theorem callWith_star {f : Value} {pos : Pos} {first : List Value} {x0 x : Sem Value} {rest : List (Bool × Sem Value)} {L : Addr} {h₀ : Heap}
    (h : wpAny (model PP w) A (spliced ((false, x0) :: rest)) (fun vs s₁ => wpAny (model PP w) A x (fun dv s₂ => ∃ d m news o, dv = .ref d ∧ St h₀ L m news s₂.heap ∧ (d, o) ∈ news ∧ o.IsDictOf (strKind PP w) [] ∧
      s₂.heap.get? s₁.heap.objs.size = some (dictOf [] 0) ∧ (∃ k, Looks (model PP w) s₂.heap (keeperOf f) k) ∧ wpAny (model PP w) A (call f (first ++ vs) []) Q E s₂) E { s₁ with heap := s₁.heap.push (dictOf [] 0) }) E s) :
    wpAny (model PP w) A (callWith pos f first ((false, x0) :: rest) [(none, x)]) Q E s := by
  delta callWith
  refine wpAny_bind (wpAny_holding ?_)
  delta evalArgs
  refine wpAny_bind ?_
  refine wpAny_mono h (fun vs s₁ hh => ?_) fun _ _ e => e
  refine wpAny_bind (wpAny_pure (wpAny_holding ?_))
  show wpAny _ _ (mergedKeywords _ _ >>= _) _ _ _
  refine wpAny_bind (mergedKeywords_nil (knd' := strKind PP w) (wpAny_mono hh (fun dv s₂ hh => ?_) fun _ _ e => e))
  obtain ⟨d, m, news, o, rfl, S, hm, hd, hnew, ⟨k, Lk⟩, hc⟩ := hh
  refine ⟨d, rfl, S.dict hm hd, S.notSys hm, ?_, hnew⟩
  refine wpAny_bind (wpAny_pure ?_)
  refine wpAny_bind (wpAny_holding (keywordsIn_nil hnew ?_))
  refine wpAny_pure ?_
  refine wpAny_bind (wpAny_standAt ?_)
  refine wpAny_bind (Lk.here ?_)
  have tail : ∀ {t : Sem Value}, wpAny (model PP w) A t Q E s₂ → wpAny (model PP w) A (t >>= fun r => holding [r] point >>= fun _ => pure r) Q E s₂ :=
    fun ht => wpAny_bind (wpAny_mono ht (fun r s₂ hr => wpAny_bind (wpAny_holding (wpAny_point (wpAny_pure hr)))) fun _ _ x => x)
  have hb : ((((false, x0) :: rest).any fun x => x.1) || ([(none, x)] : List (Option Str × Sem Value)).any fun x => x.1.isNone) = true := by simp
  dsimp only
  rw [hb]
  have op : ∀ l, wpAny (model PP w) A (operate l (call f (first ++ vs) [])) Q E s₂ := fun l => by
    unfold operate
    exact wpAny_bind (wpAny_holding (wpAny_mono hc (fun v s' hv => wpAny_bind (wpAny_release (wpAny_pure hv))) fun _ _ e => e))
  cases k with
  | frame => exact tail (by unfold callMarked; exact Calls.wpAny_keep hc)
  | _ => exact tail (op _)
theorem callWith_starE {f : Value} {pos : Pos} {first : List Value} {e : Expr} {rest : List Expr} {x : Sem Value} {env : Env} {L : Addr} {h₀ : Heap}
    (h : wpAny (model PP w) A (spliced (backTo pos (starEach (e :: rest) env))) (fun vs s₁ => wpAny (model PP w) A x (fun dv s₂ => ∃ d m news o, dv = .ref d ∧ St h₀ L m news s₂.heap ∧ (d, o) ∈ news ∧ o.IsDictOf (strKind PP w) [] ∧
      s₂.heap.get? s₁.heap.objs.size = some (dictOf [] 0) ∧ (∃ k, Looks (model PP w) s₂.heap (keeperOf f) k) ∧ wpAny (model PP w) A (call f (first ++ vs) []) Q E s₂) E { s₁ with heap := s₁.heap.push (dictOf [] 0) }) E s)
    (he : starEach (e :: rest) env = (false, eval e env) :: starEach rest env := by rfl) :
    wpAny (model PP w) A (callWith pos f first (backTo pos (starEach (e :: rest) env)) [(none, x)]) Q E s := by
  rw [he] at h ⊢
  exact callWith_star h
end

theorem findObj_fn {K : Frag} {C f : Addr} {od : Obj} {name : Str} (hh : hasDictIn K C = true) (ha : findIn K (.ref C) name = some (some (.ref f))) (hg : specialIn K (.ref f) "__get__" = some (some (.builtin "function.__get__"))) (ht : takesIn K (.ref f) = some false)
    (hc : copiedNames.contains name = false) (hl : lookIn name od = some none) : findObj K C (some od) name = some (.bind (.builtin "function.__get__") (.ref f)) := by
  obtain ⟨cd, hc', hd⟩ := any_some hh
  unfold findObj
  rw [hc', ha]
  simp only [Option.bind_some]
  rw [hg]
  simp only [Option.bind_some]
  rw [ht]
  simp only [Option.bind_some]
  unfold PySem.W.ownOf
  rw [if_pos hd]
  dsimp only
  rw [hl]
  simp only [Option.bind_some]
  rw [hc]
  rfl

section
variable {w : World} {A : Around} {E : Value → Shared → Prop} {s : Shared} {Q : Value → Shared → Prop} {h₀ : Heap} {L : Addr} {m : Str → Option Value} {news : List (Addr × Obj)}
theorem getBound {env : Env} {x C dx f : Addr} {es : List DictEntry} {n : Nat} {name : Str} {expr : Bool} (X : Cx w A env L h₀) (S : St h₀ L m news s.heap) (hI : (x, instObj C dx) ∈ news) (hD : (dx, dictOf es n) ∈ news)
    (hp : plainGet (hd.heap_39 w.params) C name = true) (hh : hasDictIn (hd.heap_39 w.params) C = true) (ha : findIn (hd.heap_39 w.params) (.ref C) name = some (some (.ref f)))
    (hg : specialIn (hd.heap_39 w.params) (.ref f) "__get__" = some (some (.builtin "function.__get__"))) (ht : takesIn (hd.heap_39 w.params) (.ref f) = some false) (hc : copiedNames.contains name = false) (hl : getL name es = some none)
    (hfn : typeIn (hd.heap_39 w.params) (.ref f) = some (.type "function"))
    (h : ∀ q s', Rest s s' → St h₀ L m ((q, methodObj (.ref f) (.ref x)) :: news) s'.heap → Above news q → Q (.ref q) s') : wpAny (model PP w) A (getAttr (.ref x) name expr) Q E s := by
  have K' := X.X.keeps S.F.keep
  refine get_bind K' (InstAt.of_news S.N hI hD) (plainGet_of hp).1 (findObj_fn hh ha hg ht hc (by rw [lookIn_dict]; exact hl)) (plainGet_of hp).2 ?_
  refine wpAny_call (fn_get (s := { s with toks := s.toks + 1 }) K' hfn ?_)
  exact handed_on rfl (h _ _ ⟨rfl, rfl⟩ (S.push _) S.lt)
end
theorem methodCall_star {M : Model} {A : Around} {E : Value → Shared → Prop} {s : Shared} {env : Env} {o : Expr} {name : Str} {apos pos : Pos} {args : List Expr} {kws : List Keyword} {Q : Value → Shared → Prop}
    (h : wpAny M A (eval o env) (fun ov s₁ => wpAny M A (getAttr ov name true) (fun f s₂ => wpAny M A (callWith pos f [] (backTo pos (starEach args env)) (backToKw pos (keywordEach kws env))) Q E s₂) E s₁) E s)
    (he : eval (.Call (.Attribute o name apos) args kws pos) env = (do
      let ov ← eval o env
      standAt apos.atName
      let (f, first) ← holding [ov] (do pure (← getAttr ov name true, []))
      callWith pos f first (backTo pos (starEach args env)) (backToKw pos (keywordEach kws env))) := by rfl) :
    wpAny M A (eval (.Call (.Attribute o name apos) args kws pos) env) Q E s := by
  rw [he]
  refine wpAny_bind (wpAny_mono h (fun ov s₁ h₁ => wpAny_bind (wpAny_standAt (wpAny_bind (wpAny_holding (wpAny_bind (wpAny_mono h₁ (fun fx s₂ h₂ => wpAny_pure ?_) fun _ _ x => x)))))) fun _ _ x => x)
  exact h₂
end Mine
end
section
open PySem PySem.W PySem.Calls PyProof.Rows
set_option maxRecDepth 100000
namespace Mine

theorem isDict_nil {w : World} {K : Type} [DecidableEq K] {knd : KeyKind PP w K} (n : Nat) : (dictOf [] n).IsDictOf knd [] :=
  ⟨#[], n, ⟨rfl, rfl, rfl⟩, rfl, fun _ he => by simp at he, .nil, .nil⟩

theorem peek1_st {α : Type} {K : Frag} {M : Model} {A : Around} {E : Value → Shared → Prop} {Q : α → Shared → Prop} {s : Shared} {h₀ : Heap} {L : Addr} {m : Str → Option Value} {news : List (Addr × Obj)} {o : Obj} {r : Addr → α}
    (S : St h₀ L m news s.heap) (X : K.In s.heap) (hf : o.isFreed = false)
    (q : ∀ D h', St h₀ L m ((D, o) :: news) h' → Q (r D) { s with heap := h' }) :
    ∀ (t : Sem α) (g : Addr → Option α), peek1 K ⟨M.prog, M.w.params⟩ t = some (o, g) → (∀ D, g D = some (r D)) → wpAny M A t Q E s := by
  intro t
  induction t with
  | rule _ k ih => intro g e hg Γ p hΓ; exact ih () g e hg Γ p hΓ
  | point _ k ih => intro g e hg Γ p hΓ; exact ih () g e hg Γ p hΓ
  | ask k ih => intro g e hg Γ p hΓ; exact ih _ g e hg Γ p hΓ
  | load a _ k ih =>
    intro g e hg Γ p hΓ
    simp only [peek1] at e
    split at e
    · rename_i ob ho; exact ⟨ob, X _ _ ho, ih ob g e hg Γ p hΓ⟩
    · cases e
  | alloc ob k _ =>
    intro g e hg
    have e : some (ob, fun D => peek K ⟨M.prog, M.w.params⟩ (k D)) = some (o, g) := e
    obtain ⟨e1, e2⟩ := Prod.mk.inj (Option.some.inj e)
    subst e1
    subst e2
    have X' : K.In (s.heap.push ob) := X.keeps fun b x hb => Heap.get?_push_of_some _ hb
    show wpAny M A (alloc ob >>= k) Q E s
    refine wpAny_bind (wpAny_alloc ?_)
    exact (Looks.of_peek (M := M) (h := s.heap.push ob) X' (hg s.heap.objs.size)).here (s := { s with heap := s.heap.push ob }) (q _ _ (S.push ob hf))
  | _ => intro g e; cases e

theorem enterK {w : World} {A : Around} {s : Shared} {h₀ : Heap} {env : Env} {L f : Addr} {m : Str → Option Value} {news : List (Addr × Obj)} {R : Result → Shared → Prop}
    {name qual : Str} {params : Arguments} {body : List Stmt} {scope : Scope} {dV kV doc pm cdv ct oc : Value} {an od : Option Addr} {osl : Array (Option Value)} {args : Args} {binds : Addr → List (Str × Value)} {g₁ : Addr → Option (List (Str × Value))}
    (C : Cx w A env L h₀) (S : St h₀ L m news s.heap)
    (ho : (hd.heap_39 w.params).lookup f = some ⟨oc, od, .func (fnOf name qual params body scope dV kV doc pm an cdv ct), osl⟩) (hcd : codeIn (hd.heap_39 w.params) cdv qual = true)
    (hp : peek1 (hd.heap_39 w.params) ⟨PP, w.params⟩ (bindArgs (fnOf name qual params body scope dV kV doc pm an cdv ct) args) = some (dictOf [] 0, g₁)) (hg : ∀ D, g₁ D = some (binds D))
    (hloc : ∀ D, ∀ y ∈ binds D, scope.names.lookup y.1 = some .local)
    (h : ∀ D g L' s₁, Rest s s₁ → Cx w (A.deeper (envOf qual scope L' f cdv)) (envOf qual scope L' f cdv) L' g → St g L' (fun y => (binds D).reverse.lookup y) ((D, dictOf [] 0) :: news) s₁.heap →
      wpAny (model PySem.Challenge.pw_bs0017_01 w) (A.deeper (envOf qual scope L' f cdv)) (execs body (envOf qual scope L' f cdv))
        (fun fl s' => LeaveK h₀ L m g R (match fl with | .ret v => v | _ => .none) s')
        (fun e s' => wpAny (model PySem.Challenge.pw_bs0017_01 w) (A.deeper (envOf qual scope L' f cdv)) (leaving (envOf qual scope L' f cdv) e) (fun _ s'' => R (.error e) s'') (fun e' s'' => R (.error e') s'') s')
        s₁)
    (hroom : A.depth < recursionLimit) (hco : scope.isCoroutine = false := by rfl) (hgen : scope.isGenerator = false := by rfl) (hk : scope.kind = .function := by rfl)
    (hcell : ∀ x ∈ scope.names, x.2 ≠ .cell := by decide) :
    codeAny (model PySem.Challenge.pw_bs0017_01 w) A (.call (.ref f) args) R s := by
  refine codeAny_call_function (fd := fnOf name qual params body scope dV kV doc pm an cdv ct) (body := body) hroom ((C.X.keeps S.F.keep) _ _ ho) rfl hco hgen rfl (codeRec_of (C.X.keeps S.F.keep) hcd) ?_
  refine peek1_st (M := model PP w) (o := dictOf [] 0) S (C.X.keeps S.F.keep) rfl (r := binds) (fun D h' S' => ?_) _ g₁ hp hg
  exact frameS (s := { s with heap := h' }) C S' (hloc D) (fun g L' s₁ hr C' S₁ => h D g L' s₁ ⟨hr.1, hr.2⟩ C' S₁) hcell hk
end Mine
end
section
open PySem PySem.W PySem.Calls PyProof.Rows
set_option maxRecDepth 100000
namespace Mine

abbrev gEnts (w : World) (t1 t2 t3 : Tok) (gr nd ad : Addr) : List DictEntry :=
  [⟨PyData.keyHash w.params (Str.ofString "graph"), .str (Str.ofString "graph") t1, .ref gr⟩, ⟨PyData.keyHash w.params (Str.ofString "_node"), .str (Str.ofString "_node") t2, .ref nd⟩,
   ⟨PyData.keyHash w.params (Str.ofString "_adj"), .str (Str.ofString "_adj") t3, .ref ad⟩]

/-- where a graph lies -/
structure GA where
  g : Addr
  gD : Addr
  nd : Addr
  ad : Addr
  aN : Nat → Addr
  aA : Nat → Addr
  role : Addr → Nat

/-- a graph: how many nodes, who stands beside whom (in the order of the inner dict), with the address of the edge's dict -/
structure Gr where
  n : Nat
  adj : Nat → List (Nat × Addr)

def nodeD (n : Nat) (f : Nat → Addr) : List (Int × Value) := (List.range n).map fun (i : Nat) => ((i : Int), Value.ref (f i))
def adjD (l : List (Nat × Addr)) : List (Int × Value) := l.map fun p => ((p.1 : Int), Value.ref p.2)

def DDok (w : World) (news : List (Addr × Obj)) (a : GA) (x : Addr) : Prop := a.role x = 5 ∧ ∃ o, (x, o) ∈ news ∧ o.IsDictOf (strKind PP w) []

structure GraphIn (w : World) (news : List (Addr × Obj)) (a : GA) (G : Gr) : Prop where
  inst : (a.g, instObj 310 a.gD) ∈ news
  dict : ∃ t1 t2 t3 gr, (a.gD, dictOf (gEnts w t1 t2 t3 gr a.nd a.ad) 3) ∈ news
  node : ∃ o, (a.nd, o) ∈ news ∧ o.IsDictOf (intKind PP w) (nodeD G.n a.aN)
  attr : ∀ i, i < G.n → ∃ o, (a.aN i, o) ∈ news ∧ o.IsDictOf (strKind PP w) []
  adjO : ∃ o, (a.ad, o) ∈ news ∧ o.IsDictOf (intKind PP w) (nodeD G.n a.aA)
  nbr : ∀ i, i < G.n → ∃ o, (a.aA i, o) ∈ news ∧ o.IsDictOf (intKind PP w) (adjD (G.adj i))
  dd : ∀ i, i < G.n → ∀ p ∈ G.adj i, p.1 < G.n ∧ DDok w news a p.2
  r0 : a.role a.g = 0
  r1 : a.role a.gD = 1
  r2 : a.role a.nd = 2
  r3 : a.role a.ad = 3
  r4 : ∀ i, i < G.n → a.role (a.aN i) = 4
  r6 : ∀ i, i < G.n → a.role (a.aA i) = i + 10

theorem nodeD_fst (n : Nat) (f : Nat → Addr) : (nodeD n f).map (·.1) = (List.range n).map fun (i : Nat) => (i : Int) := by
  unfold nodeD; rw [List.map_map]; rfl
theorem valueAt_map {α : Type} (l : List α) (f : α → Int) (g : α → Value) (k : Int) : valueAt (l.map fun x => (f x, g x)) k = (l.find? fun x => decide (f x = k)).map g := by
  unfold valueAt
  rw [List.find?_map, Option.map_map]
  rfl
theorem valueAt_node {n u : Nat} (f : Nat → Addr) (h : u < n) : valueAt (nodeD n f) (u : Int) = some (.ref (f u)) := by
  unfold nodeD
  rw [valueAt_map]
  have : (List.range n).find? (fun (x : Nat) => decide ((x : Int) = (u : Int))) = some u := by
    rw [List.find?_eq_some_iff_append]
    refine ⟨by simp, (List.range u), (List.range (n - u - 1)).map (· + (u + 1)), ?_, ?_⟩
    · have e : n = u + (1 + (n - u - 1)) := by omega
      conv => lhs; rw [e]
      rw [List.range_add, List.range_add]
      simp only [List.range_one, List.map_cons, List.map_map, List.singleton_append, Nat.add_zero]
      congr 1
      congr 1
      apply List.map_congr_left
      intro x _
      simp only [Function.comp]
      omega
    · intro x hx
      have := List.mem_range.mp hx
      simp only [Bool.not_eq_true', decide_eq_false_iff_not]; omega
  rw [this]; rfl
theorem valueAt_node_none {n u : Nat} (f : Nat → Addr) (h : n ≤ u) : valueAt (nodeD n f) (u : Int) = none := by
  unfold nodeD
  rw [valueAt_map]
  have : (List.range n).find? (fun (x : Nat) => decide ((x : Int) = (u : Int))) = none := by
    rw [List.find?_eq_none]
    intro x hx
    have := List.mem_range.mp hx
    simp only [decide_eq_true_eq]; omega
  rw [this]; rfl
theorem isSome_node {n u : Nat} (f : Nat → Addr) (h : u < n) : (valueAt (nodeD n f) (u : Int)).isSome = true := by rw [valueAt_node f h]; rfl
theorem isSome_node_none {n u : Nat} (f : Nat → Addr) (h : n ≤ u) : (valueAt (nodeD n f) (u : Int)).isSome = false := by rw [valueAt_node_none f h]; rfl
theorem nodeD_length (n : Nat) (f : Nat → Addr) : (nodeD n f).length = n := by unfold nodeD; simp
theorem valueAt_stored {K : Type} [DecidableEq K] (kvs : List (K × Value)) (k : K) (v : Value) : valueAt (stored kvs k v) k = some v := by
  unfold stored valueAt
  induction kvs with
  | nil => simp
  | cons p r ih =>
    by_cases h : p.1 = k
    · simp [h]
    · have e : ((p :: r).any fun kv => decide (kv.1 = k)) = (r.any fun kv => decide (kv.1 = k)) := by simp [h]
      rw [e]
      split
      · rename_i h2; rw [if_pos h2] at ih
        simpa [h] using ih
      · rename_i h2; rw [if_neg h2] at ih
        simpa [h] using ih
def addrOf (l : List (Nat × Addr)) (v : Nat) : Option Addr := (l.find? fun p => decide (p.1 = v)).map (·.2)
theorem valueAt_adj (l : List (Nat × Addr)) (v : Nat) : valueAt (adjD l) (v : Int) = (addrOf l v).map .ref := by
  unfold adjD addrOf
  rw [valueAt_map, Option.map_map]
  congr 1
  congr 1
  funext x
  simp only [Int.ofNat_inj]
theorem addrOf_some {l : List (Nat × Addr)} {v : Nat} {x : Addr} (h : addrOf l v = some x) : (v, x) ∈ l := by
  unfold addrOf at h
  obtain ⟨p, hp, rfl⟩ := Option.map_eq_some_iff.mp h
  have h1 := List.mem_of_find?_eq_some hp
  have h2 := List.find?_some hp
  simp only [decide_eq_true_eq] at h2
  subst h2; exact h1
theorem addrOf_isSome (l : List (Nat × Addr)) (v : Nat) : (addrOf l v).isSome = decide (v ∈ l.map (·.1)) := by
  unfold addrOf
  rw [Option.isSome_map]
  rw [Bool.eq_iff_iff, List.find?_isSome]
  simp only [decide_eq_true_eq, List.mem_map]
theorem valueAt_adjS (l : List (Nat × Addr)) (v : Nat) : (valueAt (adjD l) (v : Int)).isSome = decide (v ∈ l.map (·.1)) := by rw [valueAt_adj, Option.isSome_map, addrOf_isSome]
theorem adjD_without (l : List (Nat × Addr)) (v : Nat) : without (adjD l) (v : Int) = adjD (l.filter fun p => decide (p.1 ≠ v)) := by
  unfold without adjD
  rw [List.filter_map]
  congr 1
  apply List.filter_congr
  intro p _
  simp only [Function.comp]
  by_cases h : p.1 = v <;> simp [h]
  omega
def storeA (l : List (Nat × Addr)) (v : Nat) (x : Addr) : List (Nat × Addr) := if v ∈ l.map (·.1) then l.map fun p => if p.1 = v then (p.1, x) else p else l ++ [(v, x)]
theorem adjD_stored (l : List (Nat × Addr)) (v : Nat) (x : Addr) : stored (adjD l) (v : Int) (.ref x) = adjD (storeA l v x) := by
  unfold stored storeA adjD
  have e : ((l.map fun p => ((p.1 : Int), Value.ref p.2)).any fun kv => decide (kv.1 = (v : Int))) = decide (v ∈ l.map (·.1)) := by
    rw [List.any_map, Bool.eq_iff_iff]
    simp only [List.any_eq_true, Function.comp, decide_eq_true_eq, List.mem_map]
    constructor
    · rintro ⟨p, hp, h⟩; exact ⟨p, hp, by omega⟩
    · rintro ⟨p, hp, h⟩; exact ⟨p, hp, by omega⟩
  by_cases hv : v ∈ l.map (·.1)
  · rw [if_pos hv]
    rw [e, decide_eq_true hv]
    simp only [if_true, List.map_map]
    apply List.map_congr_left
    intro p _
    simp only [Function.comp]
    by_cases h : p.1 = v
    · subst h; simp
    · rw [if_neg h, if_neg (by omega)]
  · rw [if_neg hv, e, decide_eq_false hv]
    simp
end Mine
namespace Mine
theorem put_cons_ne {d : Addr} {o : Obj} {p : Addr × Obj} {l : List (Addr × Obj)} (h : p.1 ≠ d) : put d o (p :: l) = p :: put d o l := by
  rw [put_cons, if_neg h]
theorem put_append (d : Addr) (o : Obj) (l l' : List (Addr × Obj)) : put d o (l ++ l') = put d o l ++ put d o l' := by rw [put_eq, put_eq, put_eq, List.map_append]
theorem put_left {d : Addr} {o o' : Obj} {l l' : List (Addr × Obj)} (D : ((l ++ l').map (·.1)).Nodup) (h : (d, o) ∈ l) : put d o' (l ++ l') = put d o' l ++ l' := by
  rw [put_append, put_id (l := l')]
  intro p hp e
  rw [List.map_append, List.nodup_append] at D
  exact D.2.2 d (List.mem_map.mpr ⟨_, h, rfl⟩) p.1 (List.mem_map.mpr ⟨_, hp, rfl⟩) e.symm

theorem stored_node {n : Nat} (f : Nat → Addr) (x : Addr) : stored (nodeD n f) (n : Int) (.ref x) = nodeD (n + 1) (fun i => if i = n then x else f i) := by
  unfold stored
  have e : ((nodeD n f).any fun kv => decide (kv.1 = (n : Int))) = false := by
    unfold nodeD
    rw [List.any_map, List.any_eq_false]
    intro i hi
    have := List.mem_range.mp hi
    simp only [Function.comp, decide_eq_true_eq]; omega
  rw [e]
  simp only [Bool.false_eq_true, if_false]
  unfold nodeD
  rw [List.range_succ, List.map_append]
  congr 1
  · apply List.map_congr_left
    intro i hi
    have := List.mem_range.mp hi
    show _ = ((i : Int), Value.ref (if i = n then x else f i))
    rw [if_neg (by omega)]
  · simp

def Gr.set (G : Gr) (u : Nat) (l : List (Nat × Addr)) : Gr := ⟨G.n, fun i => if i = u then l else G.adj i⟩

theorem St.D' {h₀ h : Heap} {L d : Addr} {o : Obj} {m : Str → Option Value} {l : List (Addr × Obj)} (S : St h₀ L m (put d o l) h) : (l.map (·.1)).Nodup := by have := S.D; rw [put_fst] at this; exact this
theorem St.D'' {h₀ h : Heap} {L d d' : Addr} {o o' : Obj} {m : Str → Option Value} {l : List (Addr × Obj)} (S : St h₀ L m (put d o (put d' o' l)) h) : (l.map (·.1)).Nodup := by have := S.D; rw [put_fst, put_fst] at this; exact this
theorem St.Dp {h₀ h : Heap} {L d d' : Addr} {o o' x : Obj} {m : Str → Option Value} {l l' : List (Addr × Obj)} (S : St h₀ L m (put d o (put d' o' (l ++ l'))) h) (_hm : (d', x) ∈ l) : ((put d' o' l ++ l').map (·.1)).Nodup := by
  have := S.D; rw [put_fst, put_fst] at this; rw [List.map_append, put_fst, ← List.map_append]; exact this
theorem St.perm {h₀ h : Heap} {L : Addr} {m : Str → Option Value} {l l' : List (Addr × Obj)} (S : St h₀ L m l h) (hp : List.Perm l l') : St h₀ L m l' h :=
  ⟨S.F, fun q hq => S.N q (hp.mem_iff.mpr hq), (hp.map (·.1)).nodup_iff.mp S.D, S.low.1, fun q hq => S.low.2 q (hp.mem_iff.mpr hq)⟩
theorem St.mid {h₀ h : Heap} {L : Addr} {m : Str → Option Value} {p : Addr × Obj} {gl rest : List (Addr × Obj)} (S : St h₀ L m (p :: (gl ++ rest)) h) : St h₀ L m (gl ++ p :: rest) h := by
  have hp : List.Perm (p :: (gl ++ rest)) (gl ++ p :: rest) := List.perm_middle.symm
  exact ⟨S.F, fun q hq => S.N q (hp.mem_iff.mpr hq), (hp.map (·.1)).nodup_iff.mp S.D, S.low.1, fun q hq => S.low.2 q (hp.mem_iff.mpr hq)⟩
theorem St.unmid {h₀ h : Heap} {L : Addr} {m : Str → Option Value} {p : Addr × Obj} {gl rest : List (Addr × Obj)} (S : St h₀ L m (gl ++ p :: rest) h) : St h₀ L m (gl ++ rest) h :=
  S.sub (List.Sublist.append (List.Sublist.refl gl) (.cons _ (List.Sublist.refl rest)))

def Gr.edge (G : Gr) (u v : Nat) (x : Addr) : Gr := (G.set u (storeA (G.adj u) v x)).set v (storeA ((G.set u (storeA (G.adj u) v x)).adj v) u x)
theorem mem_storeA {l : List (Nat × Addr)} {v : Nat} {x : Addr} {p : Nat × Addr} (h : p ∈ storeA l v x) : p = (v, x) ∨ p ∈ l := by
  unfold storeA at h
  split at h
  · obtain ⟨q, hq, e⟩ := List.mem_map.mp h
    split at e
    · rename_i e1; left; rw [← e, e1]
    · right; rw [← e]; exact hq
  · rcases List.mem_append.mp h with h | h
    · exact .inr h
    · exact .inl (List.mem_singleton.mp h)
theorem storeA_length (l : List (Nat × Addr)) (v : Nat) (x : Addr) : (storeA l v x).length ≤ l.length + 1 := by
  unfold storeA; split <;> simp

theorem DDok.put {w : World} {news : List (Addr × Obj)} {a : GA} {x d : Addr} {o : Obj} (h : DDok w news a x) (hd : a.role d ≠ 5) : DDok w (put d o news) a x := by
  obtain ⟨h1, o', h2, h3⟩ := h
  exact ⟨h1, o', mem_put_ne h2 (fun e => hd (e ▸ h1)), h3⟩
theorem DDok.mono {w : World} {news news' : List (Addr × Obj)} {a : GA} {x : Addr} (h : DDok w news a x) (hs : ∀ p ∈ news, p ∈ news') : DDok w news' a x :=
  let ⟨h1, o, h2, h3⟩ := h; ⟨h1, o, hs _ h2, h3⟩

theorem GraphIn.setAdj {w : World} {gl : List (Addr × Obj)} {a : GA} {G : Gr} {u : Nat} {o' : Obj} {l' : List (Nat × Addr)} (H : GraphIn w gl a G) (hu : u < G.n) (ho : o'.IsDictOf (intKind PP w) (adjD l'))
    (hl : ∀ p ∈ l', p.1 < G.n ∧ DDok w gl a p.2) : GraphIn w (put (a.aA u) o' gl) a (G.set u l') := by
  have ru := H.r6 u hu
  refine ⟨mem_put_ne H.inst fun e => ?_, ?_, ?_, fun i hi => ?_, ?_, fun i hi => ?_, fun i hi p hp => ?_, H.r0, H.r1, H.r2, H.r3, H.r4, H.r6⟩
  · have := H.r0; rw [e, ru] at this; omega
  · obtain ⟨t1, t2, t3, gr, hd⟩ := H.dict
    exact ⟨t1, t2, t3, gr, mem_put_ne hd fun e => by have := H.r1; rw [e, ru] at this; omega⟩
  · obtain ⟨o, h1, h2⟩ := H.node
    exact ⟨o, mem_put_ne h1 fun e => by have := H.r2; rw [e, ru] at this; omega, h2⟩
  · obtain ⟨o, h1, h2⟩ := H.attr i hi
    exact ⟨o, mem_put_ne h1 fun e => by have := H.r4 i hi; rw [e, ru] at this; omega, h2⟩
  · obtain ⟨o, h1, h2⟩ := H.adjO
    exact ⟨o, mem_put_ne h1 fun e => by have := H.r3; rw [e, ru] at this; omega, h2⟩
  · obtain ⟨o, h1, h2⟩ := H.nbr i hi
    by_cases e : i = u
    · subst e
      exact ⟨o', mem_put_self h1, by show Obj.IsDictOf _ _ (adjD (if i = i then l' else G.adj i)); rw [if_pos rfl]; exact ho⟩
    · refine ⟨o, mem_put_ne h1 fun x => e ?_, by show Obj.IsDictOf _ _ (adjD (if i = u then l' else G.adj i)); rw [if_neg e]; exact h2⟩
      have := H.r6 i hi; rw [x, ru] at this; omega
  · have hp' : p ∈ (if i = u then l' else G.adj i) := hp
    by_cases e : i = u
    · rw [if_pos e] at hp'
      exact ⟨(hl p hp').1, (hl p hp').2.put (by rw [ru]; omega)⟩
    · rw [if_neg e] at hp'
      exact ⟨(H.dd i hi p hp').1, (H.dd i hi p hp').2.put (by rw [ru]; omega)⟩

theorem GraphIn.cons {w : World} {gl : List (Addr × Obj)} {a : GA} {G : Gr} {x : Addr} {ox : Obj} (c : Nat) (H : GraphIn w gl a G) (hx : ∀ p ∈ gl, p.1 ≠ x) :
    GraphIn w ((x, ox) :: gl) { a with role := fun z => if z = x then c else a.role z } G := by
  have key : ∀ {z o}, (z, o) ∈ gl → (if z = x then c else a.role z) = a.role z := fun h => if_neg (hx _ h)
  refine ⟨.tail _ H.inst, ?_, ?_, fun i hi => ?_, ?_, fun i hi => ?_, fun i hi p hp => ?_, (key H.inst).trans H.r0, ?_, ?_, ?_, fun i hi => ?_, fun i hi => ?_⟩
  · obtain ⟨t1, t2, t3, gr, hd⟩ := H.dict
    exact ⟨t1, t2, t3, gr, .tail _ hd⟩
  · obtain ⟨o, h1, h2⟩ := H.node
    exact ⟨o, .tail _ h1, h2⟩
  · obtain ⟨o, h1, h2⟩ := H.attr i hi
    exact ⟨o, .tail _ h1, h2⟩
  · obtain ⟨o, h1, h2⟩ := H.adjO
    exact ⟨o, .tail _ h1, h2⟩
  · obtain ⟨o, h1, h2⟩ := H.nbr i hi
    exact ⟨o, .tail _ h1, h2⟩
  · obtain ⟨h0, h1, o, h2, h3⟩ := H.dd i hi p hp
    exact ⟨h0, (key h2).trans h1, o, .tail _ h2, h3⟩
  · obtain ⟨t1, t2, t3, gr, hd⟩ := H.dict
    exact (key hd).trans H.r1
  · obtain ⟨o, h1, h2⟩ := H.node
    exact (key h1).trans H.r2
  · obtain ⟨o, h1, h2⟩ := H.adjO
    exact (key h1).trans H.r3
  · obtain ⟨o, h1, h2⟩ := H.attr i hi
    exact (key h1).trans (H.r4 i hi)
  · obtain ⟨o, h1, h2⟩ := H.nbr i hi
    exact (key h1).trans (H.r6 i hi)

def Gr.addN (G : Gr) : Gr := ⟨G.n + 1, fun i => if i = G.n then [] else G.adj i⟩
def GA.addN (a : GA) (n : Nat) (x y : Addr) : GA := { a with aA := fun i => if i = n then x else a.aA i, aN := fun i => if i = n then y else a.aN i, role := fun z => if z = y then 4 else if z = x then n + 10 else a.role z }
theorem GraphIn.addNode {w : World} {gl : List (Addr × Obj)} {a : GA} {G : Gr} {x y : Addr} {oA oN : Obj} (H : GraphIn w gl a G) (hx : ∀ p ∈ gl, p.1 ≠ x) (hy : ∀ p ∈ gl, p.1 ≠ y) (hxy : x ≠ y)
    (hA : oA.IsDictOf (intKind PP w) (stored (nodeD G.n a.aA) (G.n : Int) (.ref x))) (hN : oN.IsDictOf (intKind PP w) (stored (nodeD G.n a.aN) (G.n : Int) (.ref y))) :
    GraphIn w ((y, dictOf [] 0) :: (x, dictOf [] 0) :: put a.nd oN (put a.ad oA gl)) (a.addN G.n x y) G.addN := by
  have key : ∀ {z o}, (z, o) ∈ gl → (if z = y then 4 else if z = x then G.n + 10 else a.role z) = a.role z := fun h => by rw [if_neg (hy _ h), if_neg (hx _ h)]
  have two : ∀ {z o}, (z, o) ∈ gl → a.role z ≠ 2 → a.role z ≠ 3 → (z, o) ∈ (y, dictOf [] 0) :: (x, dictOf [] 0) :: put a.nd oN (put a.ad oA gl) := fun h h2 h3 =>
    .tail _ (.tail _ (mem_put_ne (mem_put_ne h fun e => h3 (e ▸ H.r3)) fun e => h2 (e ▸ H.r2)))
  refine ⟨two H.inst (by show a.role a.g ≠ 2; rw [H.r0]; omega) (by show a.role a.g ≠ 3; rw [H.r0]; omega), ?_, ?_, fun i hi => ?_, ?_, fun i hi => ?_, fun i hi p hp => ?_, (key H.inst).trans H.r0, ?_, ?_, ?_, fun i hi => ?_, fun i hi => ?_⟩
  · obtain ⟨t1, t2, t3, gr, hd⟩ := H.dict
    exact ⟨t1, t2, t3, gr, two (z := a.gD) hd (by rw [H.r1]; omega) (by rw [H.r1]; omega)⟩
  · obtain ⟨o, h1, h2⟩ := H.node
    refine ⟨oN, .tail _ (.tail _ (mem_put_self (o := o) (mem_put_ne h1 fun e => ?_))), by rw [stored_node] at hN; exact hN⟩
    have e : a.nd = a.ad := e
    have := H.r2; rw [e, H.r3] at this; omega
  · have hi : i < G.n + 1 := hi
    by_cases e : i = G.n
    · exact ⟨dictOf [] 0, by show ((if i = G.n then y else a.aN i), _) ∈ _; rw [if_pos e]; exact .head _, isDict_nil 0⟩
    · obtain ⟨o, h1, h2⟩ := H.attr i (by omega)
      exact ⟨o, by show ((if i = G.n then y else a.aN i), _) ∈ _; rw [if_neg e]; exact two h1 (by rw [H.r4 i (by omega)]; omega) (by rw [H.r4 i (by omega)]; omega), h2⟩
  · obtain ⟨o, h1, h2⟩ := H.adjO
    refine ⟨oA, .tail _ (.tail _ (mem_put_ne (mem_put_self h1) fun e => ?_)), by rw [stored_node] at hA; exact hA⟩
    have e : a.ad = a.nd := e
    have := H.r2; rw [← e, H.r3] at this; omega
  · have hi : i < G.n + 1 := hi
    by_cases e : i = G.n
    · refine ⟨dictOf [] 0, by show ((if i = G.n then x else a.aA i), _) ∈ _; rw [if_pos e]; exact .tail _ (.head _), ?_⟩
      show Obj.IsDictOf _ _ (adjD (if i = G.n then [] else G.adj i))
      rw [if_pos e]; exact isDict_nil 0
    · obtain ⟨o, h1, h2⟩ := H.nbr i (by omega)
      refine ⟨o, by show ((if i = G.n then x else a.aA i), _) ∈ _; rw [if_neg e]; exact two h1 (by rw [H.r6 i (by omega)]; omega) (by rw [H.r6 i (by omega)]; omega), ?_⟩
      show Obj.IsDictOf _ _ (adjD (if i = G.n then [] else G.adj i))
      rw [if_neg e]; exact h2
  · have hi : i < G.n + 1 := hi
    have hp' : p ∈ (if i = G.n then [] else G.adj i) := hp
    by_cases e : i = G.n
    · rw [if_pos e] at hp'; cases hp'
    · rw [if_neg e] at hp'
      obtain ⟨h0, h1, o, h2, h3⟩ := H.dd i (by omega) p hp'
      exact ⟨Nat.lt_succ_of_lt h0, (key h2).trans h1, o, two h2 (by rw [h1]; omega) (by rw [h1]; omega), h3⟩
  · obtain ⟨t1, t2, t3, gr, hd⟩ := H.dict
    exact (key hd).trans H.r1
  · obtain ⟨o, h1, h2⟩ := H.node
    exact (key h1).trans H.r2
  · obtain ⟨o, h1, h2⟩ := H.adjO
    exact (key h1).trans H.r3
  · have hi : i < G.n + 1 := hi
    show (if (if i = G.n then y else a.aN i) = y then 4 else if (if i = G.n then y else a.aN i) = x then G.n + 10 else a.role (if i = G.n then y else a.aN i)) = 4
    by_cases e : i = G.n
    · rw [if_pos e, if_pos rfl]
    · obtain ⟨o, h1, h2⟩ := H.attr i (by omega)
      rw [if_neg e, key h1]; exact H.r4 i (by omega)
  · have hi : i < G.n + 1 := hi
    show (if (if i = G.n then x else a.aA i) = y then 4 else if (if i = G.n then x else a.aA i) = x then G.n + 10 else a.role (if i = G.n then x else a.aA i)) = i + 10
    by_cases e : i = G.n
    · rw [if_pos e, if_neg hxy, if_pos rfl, e]
    · obtain ⟨o, h1, h2⟩ := H.nbr i (by omega)
      rw [if_neg e, key h1]; exact H.r6 i (by omega)
end Mine
namespace Mine
theorem leaveS {h₀ g : Heap} {L L' : Addr} {m m' : Str → Option Value} {news' : List (Addr × Obj)} {R : Result → Shared → Prop} {v : Value} {s' : Shared} (hL : 1 < L) (S' : St g L' m' news' s'.heap)
    (k : St h₀ L m news' s'.heap → R (.ok (.ret v)) s') : LeaveK h₀ L m g R v s' := leaveK_ S'.F S'.N fun F N => k ⟨F, N, S'.D, hL, S'.low.2⟩

section
variable {w : World} {A : Around} {E : Value → Shared → Prop} {s : Shared} {h₀ : Heap} {L : Addr} {m : Str → Option Value} {news : List (Addr × Obj)}
theorem storeS {env : Env} {x : Str} {v : Value} {Q : Unit → Shared → Prop} (S : St h₀ L m news s.heap)
    (h : ∀ s', Rest s s' → St h₀ L (fun y => if y = x then some v else m y) news s'.heap → Q () s')
    (hk : env.scope.kind = .function := by rfl) (hl : env.kindOf x = some .local := by rfl) (hL : env.locals = L := by rfl) :
    wpAny (model PP w) A (storeName env x v) Q E s := by
  subst hL
  exact wpAny_storeName_local hl S.F.ns (fun h' hn hs => h { s with heap := h', toks := s.toks + 1 } ⟨rfl, rfl⟩ (S.set hn hs))
    (by show (env.scope.kind == .class || (env.scope.kind == .module && env.locals != env.globals)) = false; rw [hk]; rfl)
theorem dictS {env : Env} {pos : Pos} {Q : Value → Shared → Prop} (S : St h₀ L m news s.heap)
    (h : ∀ d s', Rest s s' → St h₀ L m ((d, dictOf [] 0) :: news) s'.heap → Above news d → Q (.ref d) s') :
    wpAny (model PP w) A (eval (.Dict [] [] pos) env) Q E s := by
  exact wpAny_Dict_empty (h _ { s with heap := _ } ⟨rfl, rfl⟩ (S.push _) S.lt)
abbrev tupO (vs : List Value) : Obj := { cls := .type "tuple", data := .seq vs.toArray }
theorem St.ext {h h' : Heap} (S : St h₀ L m news h) (he : Heap.ExtBut h.objs.size h h') : St h₀ L m news h' :=
  ⟨S.F.extBut he (Nat.le_refl _), S.N.extBut he (Nat.le_refl _), S.D, S.low⟩
theorem tupS {vs : List Value} {Q : Value → Shared → Prop} (S : St h₀ L m news s.heap)
    (h : ∀ t s', Rest s s' → St h₀ L m ((t, tupO vs) :: news) s'.heap → Above news t → Q (.ref t) s') (hsz : vs.length ≤ sizeLine := by size_fits) :
    wpAny (model PP w) A (newTuple vs) Q E s :=
  wpAny_newObj_type (h _ { s with heap := _ } ⟨rfl, rfl⟩ (S.push _) S.lt) (by show vs.toArray.size ≤ sizeLine; rw [List.size_toArray]; exact hsz)
theorem listS {vs : List Value} {Q : Value → Shared → Prop} (S : St h₀ L m news s.heap)
    (h : ∀ t s', Rest s s' → St h₀ L m ((t, PySem.W.listOf vs.toArray 0) :: news) s'.heap → Above news t → Q (.ref t) s') (hsz : vs.length ≤ sizeLine := by size_fits) :
    wpAny (model PP w) A (newList vs) Q E s :=
  wpAny_newObj_type (h _ { s with heap := _ } ⟨rfl, rfl⟩ (S.push _) S.lt) (by show vs.toArray.size ≤ sizeLine; rw [List.size_toArray]; exact hsz)
theorem St.tup {h : Heap} {t : Addr} {vs : List Value} (S : St h₀ L m news h) (hm : (t, tupO vs) ∈ news) : IsTup h t vs.toArray := ⟨_, S.get hm, rfl, 0, rfl⟩
theorem unpackS {t : Addr} {vs : List Value} {n : Nat} {Q : List Value → Shared → Prop} {l₀ : List (Addr × Obj)} (_h0 : (t, tupO vs) ∈ l₀) (S : St h₀ L m news s.heap) (hm : (t, tupO vs) ∈ news) (hh : A.handled = none) (hn : n = vs.length)
    (h : ∀ s', Rest s s' → St h₀ L m news s'.heap → Q vs s') : wpAny (model PP w) A (unpackItems (.ref t) n none) Q E s := by
  subst hn
  exact unpackItems_tuple (items := vs.toArray) hh (S.tup hm) fun h' he => h { s with heap := h' } ⟨rfl, rfl⟩ (S.ext he)
theorem setAttrS {env : Env} {x Cc dx : Addr} {es es' : List DictEntry} {n n' : Nat} {name : Str} {v : Value} {Q : Unit → Shared → Prop} (C : Cx w A env L h₀) (S : St h₀ L m news s.heap) (hI : (x, instObj Cc dx) ∈ news) (hD : (dx, dictOf es n) ∈ news)
    (hs : findIn (hd.heap_39 w.params) (.ref Cc) "__setattr__" = some (some (.builtin "object.__setattr__"))) (hp : plainOver (hd.heap_39 w.params) Cc = true) (ht : takerIn (hd.heap_39 w.params) Cc name = some none) (hh : hasDictIn (hd.heap_39 w.params) Cc = true) (hl : (getL name es).isSome = true)
    (e : (putL name (PyData.keyHash w.params name) (.str name (s.toks + 1)) v es, putN name es n) = (es', n')) (hz : es'.length ≤ 1000)
    (h : ∀ s', Rest s s' → St h₀ L m (put dx (dictOf es' n') news) s'.heap → (dx, dictOf es' n') ∈ put dx (dictOf es' n') news → Q () s') : wpAny (model PP w) A (setAttr (.ref x) name v) Q E s :=
  set_dict S.F C.X S.N (InstAt.of_news S.N hI hD) rfl hs hp ht hh hl e (upd_put S.D hD) hz fun h' F' N' => h { s with heap := h', toks := s.toks + 2 } ⟨rfl, rfl⟩ ⟨F', N', put_nodup S.D, S.low.1, fun p hp => by
    obtain ⟨a, x⟩ := p
    rcases of_mem_put hp with ⟨rfl, rfl⟩ | ⟨_, hq⟩
    · exact (S.low.2 _ hD : 1 < a)
    · exact S.low.2 _ hq⟩ (mem_put_self hD)
theorem Cx.under_make {env : Env} (C : Cx w A env L h₀) (cls : Addr) (args : List Value) (kw : List (Str × Value)) : Cx w (A.under (.builtin "type.__call__" ⟨.ref cls :: args, kw⟩)) env L h₀ := by
  exact ⟨C.X, C.T, C.hh, C.kind, C.loc⟩
end
end Mine
end
section
open PySem PySem.W PySem.Calls PyProof.Rows
set_option maxRecDepth 100000
namespace Mine

section
variable {h₀ h h' : Heap} {L : Addr} {m : Str → Option Value} {news : List (Addr × Obj)} {I : Addr} {o o' : Obj}
theorem St.change_hd (S : St h₀ L m ((I, o) :: news) h) (hs : Heap.SameBut I h h') (ho : h'.get? I = some o') : St h₀ L m ((I, o') :: news) h' := by
  have := S.change (o' := o') (List.mem_cons_self) hs ho
  have hn := S.D
  rw [List.map_cons, List.nodup_cons] at hn
  rwa [put_cons, if_pos rfl, put_id fun p hp e => hn.1 (List.mem_map.mpr ⟨p, hp, e⟩)] at this
theorem St.ext_tl (S : St h₀ L m ((I, o) :: news) h) (he : Heap.ExtBut I h h') : St h₀ L m news h' := by
  have hI := S.N _ (List.mem_cons_self)
  have hn := S.D
  rw [List.map_cons, List.nodup_cons] at hn
  obtain ⟨oL, a1, a2, hL, a3⟩ := S.F.ns
  refine ⟨⟨⟨oL, a1, a2, he L oL (fun e => hI.2.1 e.symm) hL, a3⟩, fun b x hb => he b x (fun e => ?_) (S.F.keep b x hb), S.F.above⟩, fun p hp => ?_, hn.2, S.low.1, fun p hp => S.low.2 p (.tail _ hp)⟩
  · rw [e, hI.2.2] at hb; cases hb
  · exact ⟨he _ _ (fun e => hn.1 (List.mem_map.mpr ⟨p, hp, e⟩)) (S.N p (.tail _ hp)).1, (S.N p (.tail _ hp)).2⟩
end

structure Iter (w : World) (I : Addr) (N : Nat) (P : Nat → Obj → Prop) (val : Nat → Value → Prop) (R : List (Addr × Obj) → Prop) : Prop where
  item : ∀ {A : Around} {E : Value → Shared → Prop} {s : Shared} {h₀ : Heap} {L : Addr} {m : Str → Option Value} {news : List (Addr × Obj)} {o : Obj} {k : Nat} {Q : Option Value → Shared → Prop},
    A.handled = none → St h₀ L m ((I, o) :: news) s.heap → P k o → R news → k < N →
    (∀ v o' s', Rest s s' → St h₀ L m ((I, o') :: news) s'.heap → P (k + 1) o' → val k v → Q (some v) s') → wpAny (model PP w) A (pyNext (.ref I)) Q E s
  done : ∀ {A : Around} {E : Value → Shared → Prop} {s : Shared} {h₀ : Heap} {L : Addr} {m : Str → Option Value} {news : List (Addr × Obj)} {o : Obj} {Q : Option Value → Shared → Prop},
    A.handled = none → St h₀ L m ((I, o) :: news) s.heap → P N o → R news →
    (∀ s', Rest s s' → St h₀ L m news s'.heap → Q none s') → wpAny (model PP w) A (pyNext (.ref I)) Q E s

def rangeP (a : Int) (N : Nat) (k : Nat) (o : Obj) : Prop := o = { cls := .type "range_iterator", data := .fields #[rawInt (a + k), rawInt ((N : Int) - k), rawInt 1] }
theorem Iter.range {w : World} (I : Addr) (a : Int) (N : Nat) : Iter w I N (rangeP a N) (fun k v => ∃ t, v = .int (a + k) t) (fun _ => True) where
  item := by
    intro A E s h₀ L m news o k Q hh S hP _ hk h
    have hit : IsRangeIter _ I _ _ 1 := (S.get List.mem_cons_self).trans (congrArg some hP)
    refine wpAny_pyNext_range_item hit (by omega) fun h' hi hs => ?_
    refine h _ _ { s with heap := h', toks := _ } ⟨rfl, rfl⟩ (S.change_hd hs hi) ?_ ⟨_, rfl⟩
    unfold rangeP
    have e1 : a + (k : Int) + 1 = a + ((k + 1 : Nat) : Int) := by omega
    have e2 : (N : Int) - (k : Int) - 1 = (N : Int) - ((k + 1 : Nat) : Int) := by omega
    rw [e1, e2]
  done := by
    intro A E s h₀ L m news o Q hh S hP _ h
    have hit : IsRangeIter _ I _ _ 1 := (S.get List.mem_cons_self).trans (congrArg some hP)
    exact wpAny_pyNext_range_end hh hit (by omega) fun h' he => h { s with heap := h' } ⟨rfl, rfl⟩ (S.ext_tl he)

def listP (l : Addr) (k : Nat) (o : Obj) : Prop := o.cls = .type "list_iterator" ∧ o.data = .fields #[.ref l, .int k 0]
theorem St.list {h₀ h : Heap} {L l : Addr} {m : Str → Option Value} {news : List (Addr × Obj)} {vs : List Value} {n : Nat} (S : St h₀ L m news h) (hm : (l, PySem.W.listOf vs.toArray n) ∈ news) : h.IsList l vs.toArray := ⟨_, S.get hm, rfl, n, rfl⟩
theorem Iter.list {w : World} (I l : Addr) (vs : List Value) (n : Nat) : Iter w I vs.length (listP l) (fun k v => vs[k]? = some v) (fun news => (l, PySem.W.listOf vs.toArray n) ∈ news) where
  item := by
    intro A E s h₀ L m news o k Q hh S hP hR hk h
    have hit : Heap.IsListIter _ I l _ := ⟨_, S.get List.mem_cons_self, hP.1, hP.2⟩
    refine wpAny_pyNext_list_item hit (S.tl.list hR) (x := vs[k]) (by simp [hk]) fun h' hi hs => ?_
    obtain ⟨o', ho', hc', hd'⟩ := hi
    exact h _ o' { s with heap := h' } ⟨rfl, rfl⟩ (S.change_hd hs ho') ⟨hc', hd'⟩ (by simp [hk])
  done := by
    intro A E s h₀ L m news o Q hh S hP hR h
    have hit : Heap.IsListIter _ I l _ := ⟨_, S.get List.mem_cons_self, hP.1, hP.2⟩
    exact wpAny_pyNext_list_end hh hit (S.tl.list hR) (by simp) fun h' he => h { s with heap := h' } ⟨rfl, rfl⟩ (S.ext_tl he)

theorem Iter.keys {w : World} {K : Type} [DecidableEq K] {knd : KeyKind PP w K} (I d : Addr) (oD : Obj) (kvs : List (K × Value)) (ep : Nat) (ha : KdkAt knd oD kvs ep) :
    Iter w I kvs.length (fun k o => KdkIter o d k kvs.length ep) (fun k v => ∃ key x, kvs[k]? = some (key, x) ∧ knd.is key v = true) (fun news => (d, oD) ∈ news) where
  item := by
    intro A E s h₀ L m news o k Q hh S hP hR hk h
    have hit := hP.at (S.get List.mem_cons_self)
    refine wpAny_pyNext_dict_item hit (ha.dictAt (S.tl.get hR)) (k := kvs[k].1) (v := kvs[k].2) (by simp [hk]) fun key h' hk' hi hs => ?_
    obtain ⟨o', ho', hc', hd'⟩ := hi
    exact h _ o' { s with heap := h' } ⟨rfl, rfl⟩ (S.change_hd hs ho') ⟨hc', hd'⟩ ⟨kvs[k].1, kvs[k].2, by simp [hk], hk'⟩
  done := by
    intro A E s h₀ L m news o Q hh S hP hR h
    have hit := hP.at (S.get List.mem_cons_self)
    exact wpAny_pyNext_dict_end hh hit (ha.dictAt (S.tl.get hR)) (by simp) fun h' he => h { s with heap := h' } ⟨rfl, rfl⟩ (S.ext_tl he)
/-- the names but for one -/
def up (x : Str) (v : Option Value) (m : Str → Option Value) : Str → Option Value := fun y => if y = x then v else m y

def LoopS (w : World) (A : Around) (env : Env) (L : Addr) (h₀ : Heap) (x : Str) (body : List Stmt) (Q : Flow → Shared → Prop) (s₂ : Shared) (it : Value) : Prop :=
  ∃ (I : Addr) (o : Obj) (N : Nat) (P : Nat → Obj → Prop) (val : Nat → Value → Prop) (R : List (Addr × Obj) → Prop) (m : Str → Option Value) (news : List (Addr × Obj))
    (Inv : Nat → (Str → Option Value) → List (Addr × Obj) → Array GenState → OsState → Prop),
    it = .ref I ∧ Iter w I N P val R ∧ St h₀ L m ((I, o) :: news) s₂.heap ∧ P 0 o ∧ Inv 0 m news s₂.gens s₂.os ∧ (∀ k m news g q, Inv k m news g q → R news) ∧
    (∀ k v m news o s', k < N → val k v → Inv k m news s'.gens s'.os → P (k + 1) o → St h₀ L (fun y => if y = x then some v else m y) ((I, o) :: news) s'.heap →
      wpAny (model PP w) A (execs body env) (fun fl s₃ => match fl with
        | .next | .cont => ∃ m' vn news', St h₀ L (up x vn m') ((I, o) :: news') s₃.heap ∧ Inv (k + 1) m' news' s₃.gens s₃.os
        | .brk => Q .next s₃
        | .ret v => Q (.ret v) s₃) (fun _ _ => False) s') ∧
    ∀ m vn news s', Inv N m news s'.gens s'.os → St h₀ L (up x vn m) news s'.heap → Q .next s'

theorem up_up (x : Str) (v v' : Option Value) (m : Str → Option Value) : (fun y => if y = x then v else up x v' m y) = fun y => if y = x then v else m y := by
  funext y; unfold up; split <;> simp_all
theorem up_self (x : Str) (m : Str → Option Value) : up x (m x) m = m := by
  funext y; unfold up; split <;> simp_all

theorem forS {w : World} {A : Around} {E : Value → Shared → Prop} {s : Shared} {h₀ : Heap} {env : Env} {L : Addr} {x : Str} {px pos : Pos} {iter : Expr} {body : List Stmt} {Q : Flow → Shared → Prop}
    (hh : A.handled = none) (h : wpAny (model PP w) A (eval iter env) (fun xv s₁ => wpAny (model PP w) A (pyIter xv) (fun it s₂ => LoopS w A env L h₀ x body Q s₂ it) E s₁) E s)
    (hk : env.scope.kind = .function := by rfl) (hl : env.kindOf x = some .local := by rfl) (hL : env.locals = L := by rfl) (hs : ∀ x, foldedSetIterable iter env x = pure x := by intro _; rfl) :
    wpAny (model PP w) A (exec (.For (.Name x px) iter body [] pos) env) Q E s := by
  refine wpAny_For (wpAny_mono h (fun xv s₁ h₁ => wpAny_mono h₁ (fun it s₂ h₂ => ?_) fun _ _ e => e) fun _ _ e => e) hs
  obtain ⟨I, o, N, P, val, R, m, news, Inv, rfl, W, S, hP, hI, hR, step, done⟩ := h₂
  refine codeAny_forLoop (fun n s' => ∃ k m vn news o, n = N - k ∧ k ≤ N ∧ P k o ∧ Inv k m news s'.gens s'.os ∧ St h₀ L (up x vn m) ((I, o) :: news) s'.heap) (fun n s' hi => ?_) N ⟨0, m, m x, news, o, rfl, Nat.zero_le _, hP, hI, by rw [up_self]; exact S⟩
  obtain ⟨k, m, vn, news, o, rfl, hkN, hP, hI, S⟩ := hi
  by_cases hlt : k < N
  · refine W.item hh S hP (hR _ _ _ _ _ hI) hlt fun v o' s₁ hr S' hP' hv => ?_
    refine wpAny_assign_Name (storeS S' (fun s₂ hr₂ S₂ => ?_) hk hl hL)
    rw [up_up] at S₂
    have e1 : s₂.gens = s'.gens := hr₂.1.trans hr.1
    have e2 : s₂.os = s'.os := hr₂.2.trans hr.2
    refine wpAny_mono (step k v m news o' s₂ hlt hv (by rw [e1, e2]; exact hI) hP' S₂) (fun fl s₃ h₃ => ?_) fun _ _ e => e.elim
    cases fl with
    | next => obtain ⟨m', vn', news', S₃, hI₃⟩ := h₃; exact ⟨N - (k + 1), by omega, k + 1, m', vn', news', o', rfl, hlt, hP', hI₃, S₃⟩
    | cont => obtain ⟨m', vn', news', S₃, hI₃⟩ := h₃; exact ⟨N - (k + 1), by omega, k + 1, m', vn', news', o', rfl, hlt, hP', hI₃, S₃⟩
    | brk => exact h₃
    | ret v => exact h₃
  · have : k = N := by omega
    subst this
    refine W.done hh S hP (hR _ _ _ _ _ hI) fun s₁ hr S' => ?_
    exact wpAny_execs_nil (done m vn news s₁ (by rw [hr.1, hr.2]; exact hI) S')

/-- the iterator of a range -/
theorem iter_range {w : World} {A : Around} {E : Value → Shared → Prop} {s : Shared} {h₀ : Heap} {L r : Addr} {m : Str → Option Value} {news : List (Addr × Obj)} {N : Nat} {t u v : Tok} {Q : Value → Shared → Prop}
    (S : St h₀ L m news s.heap) (hr : IsRange s.heap r 0 N 1 t u v) (hN : N ≤ 100000)
    (h : ∀ I o s', Rest s s' → St h₀ L m ((I, o) :: news) s'.heap → rangeP 0 N 0 o → Q (.ref I) s') : wpAny (model PP w) A (pyIter (.ref r)) Q E s := by
  have hsz : Builtin.Range.rangeSize 0 (N : Int) 1 = (N : Int) := by
    unfold Builtin.Range.rangeSize
    simp only [Int.sub_zero, Int.ediv_one]
    rw [if_pos (by decide)]
    split <;> omega
  refine wpAny_pyIter_range hr ?_ ?_
  · unfold Builtin.Range.small Builtin.Range.rangeFitsLong
    rw [hsz, if_pos (by decide)]
    simp only [Bool.and_eq_true, Bool.or_eq_true, decide_eq_true_eq, beq_iff_eq]
    omega
  · rw [hsz]
    exact h _ _ { s with heap := _ } ⟨rfl, rfl⟩ (S.push _) (by unfold rangeP; simp)
end Mine
end
section
open PySem PySem.W PySem.Calls PyProof.Rows
set_option maxRecDepth 100000
namespace Mine
abbrev lst (vs : List Value) (n : Nat) : Obj := PySem.W.listOf vs.toArray n

section
variable {w : World} {A : Around} {E : Value → Shared → Prop} {s : Shared} {h₀ : Heap} {L : Addr} {m : Str → Option Value} {news l₀ : List (Addr × Obj)} {vs : List Value} {n : Nat} {l : Addr}
theorem lenTupS {Q : Value → Shared → Prop} (_h0 : (l, tupO vs) ∈ l₀) (S : St h₀ L m news s.heap) (hm : (l, tupO vs) ∈ news) (hf : vs.length ≤ 1000000) {k : Int} (hk : (vs.length : Int) = k)
    (h : ∀ s' t, Rest s s' → St h₀ L m news s'.heap → Q (.int k t) s') : wpAny (model PP w) A (call (.builtin "len") [.ref l]) Q E s := by
  subst hk
  exact PyProof.Rows.len_tuple (S.tup hm) (by simp; omega) (by simpa using h { s with toks := s.toks + 1 + 1 } (s.toks + 1) ⟨rfl, rfl⟩ S)
theorem lenListS {Q : Value → Shared → Prop} (_h0 : (l, lst vs n) ∈ l₀) (S : St h₀ L m news s.heap) (hm : (l, lst vs n) ∈ news) (hf : vs.length ≤ 1000000)
    (h : ∀ s' t, Rest s s' → St h₀ L m news s'.heap → Q (.int vs.length t) s') : wpAny (model PP w) A (call (.builtin "len") [.ref l]) Q E s :=
  call_len_list (S.list hm) (by simp; omega) (by simpa using h { s with toks := s.toks + 1 + 1 } (s.toks + 1) ⟨rfl, rfl⟩ S)
theorem appendS {Q : Value → Shared → Prop} {x : Value} (_h0 : (l, lst vs n) ∈ l₀) (S : St h₀ L m news s.heap) (hm : (l, lst vs n) ∈ news) (hf : vs.length ≤ 1000000)
    (h : ∀ s', Rest s s' → St h₀ L m (put l (lst (vs ++ [x]) (n + 1)) news) s'.heap → (l, lst (vs ++ [x]) (n + 1)) ∈ put l (lst (vs ++ [x]) (n + 1)) news → Q .none s') : wpAny (model PP w) A (call (.builtin "list.append") [.ref l, x]) Q E s := by
  have e : (vs ++ [x]).toArray = vs.toArray.push x := by simp
  refine append_K (hsz := by rw [List.size_toArray, sizeLine_eq]; omega) S.F S.N (upd_put S.D hm) fun h' F' N' => ?_
  refine h { s with heap := h' } ⟨rfl, rfl⟩ ⟨F', by rw [lst, e]; exact N', put_nodup S.D, S.low.1, fun p hp => ?_⟩ (mem_put_self hm)
  obtain ⟨a, y⟩ := p
  rcases of_mem_put hp with ⟨rfl, rfl⟩ | ⟨_, hq⟩
  · exact (S.low.2 _ hm : 1 < a)
  · exact S.low.2 _ hq
theorem itemListS {Q : Value → Shared → Prop} {value slice : Expr} {k : Int} {u : Tok} {v : Value} (_h0 : (l, lst vs n) ∈ l₀) (S : St h₀ L m news s.heap) (hm : (l, lst vs n) ∈ news) (h0 : 0 ≤ k) (hhi : k < 2 ^ 63) (hx : vs[k.toNat]? = some v) (h : Q v s)
    (hs : subscripted slice false (.ref l) (.int k u) = operate [.ref l, .int k u] (getItem (.ref l) (.int k u)) := by with_unfolding_all rfl) :
    wpAny (model PP w) A (subscriptTail value slice (.ref l) (.int k u)) Q E s :=
  tail_any (S.list hm).typeIs slot_list_getitem.lookup (wpAny_getItem_list (S.list hm) h0 hhi (by simpa using hx) h) hs
theorem assignTupS {env : Env} {elts : List Expr} {k : Nat} {pos : Pos} {Q : Unit → Shared → Prop} (_h0 : (l, tupO vs) ∈ l₀) (S : St h₀ L m news s.heap) (hm : (l, tupO vs) ∈ news) (hh : A.handled = none)
    (hn : (assignEach elts env).length = vs.length) (hstar : (assignEach elts env).findIdx? (·.1) = none)
    (h : ∀ s', Rest s s' → St h₀ L m news s'.heap → wpAny (model PP w) A (assignInOrder ((assignEach elts env).map (·.2)) vs) Q E s') :
    wpAny (model PP w) A (assign (.Tuple elts k pos) env (.ref l)) Q E s :=
  assign_Tuple_tuple (items := vs.toArray) hh (S.tup hm) (by rw [List.size_toArray]; exact hn) hstar fun h' he => h { s with heap := h' } ⟨rfl, rfl⟩ (S.ext he)
theorem St.ne_lr {gl rest : List (Addr × Obj)} {h : Heap} {a b : Addr} {x y : Obj} (S : St h₀ L m (gl ++ rest) h) (h1 : (a, x) ∈ gl) (h2 : (b, y) ∈ rest) : a ≠ b := by
  have D := S.D
  rw [List.map_append, List.nodup_append] at D
  exact D.2.2 a (List.mem_map.mpr ⟨_, h1, rfl⟩) b (List.mem_map.mpr ⟨_, h2, rfl⟩)
end

/-! the abstract graph -/
def Gr.has (G : Gr) (i j : Nat) : Prop := j ∈ (G.adj i).map (·.1)
theorem storeA_keys (l : List (Nat × Addr)) (v : Nat) (x : Addr) (j : Nat) : j ∈ (storeA l v x).map (·.1) ↔ j ∈ l.map (·.1) ∨ j = v := by
  unfold storeA
  split
  · rename_i hv
    rw [List.map_map]
    have e : (l.map ((fun p => p.1) ∘ fun p => if p.1 = v then (p.1, x) else p)) = l.map (·.1) := by
      apply List.map_congr_left; intro p _; simp only [Function.comp]; split <;> rfl
    rw [e]
    exact ⟨.inl, fun h => h.elim id fun e => e ▸ hv⟩
  · simp
theorem storeA_nodup {l : List (Nat × Addr)} {v : Nat} {x : Addr} (h : (l.map (·.1)).Nodup) : ((storeA l v x).map (·.1)).Nodup := by
  unfold storeA
  split
  · rw [List.map_map]
    have e : (l.map ((fun p => p.1) ∘ fun p => if p.1 = v then (p.1, x) else p)) = l.map (·.1) := by
      apply List.map_congr_left; intro p _; simp only [Function.comp]; split <;> rfl
    rw [e]; exact h
  · rename_i hv
    rw [List.map_append, List.nodup_append]
    refine ⟨h, by simp, fun a ha b hb e => ?_⟩
    simp at hb
    rw [e, hb] at ha; exact hv ha
theorem addrOf_storeA (l : List (Nat × Addr)) (v : Nat) (x : Addr) : addrOf (storeA l v x) v = some x := by
  have h := valueAt_stored (adjD l) (v : Int) (.ref x)
  rw [adjD_stored, valueAt_adj] at h
  cases e : addrOf (storeA l v x) v with
  | none => rw [e] at h; cases h
  | some y => rw [e] at h; simp at h; rw [h]
theorem edge_adj (G : Gr) (u v : Nat) (x : Addr) (i : Nat) : (G.edge u v x).adj i = if i = v then storeA (if v = u then storeA (G.adj u) v x else G.adj v) u x else if i = u then storeA (G.adj u) v x else G.adj i := rfl
theorem edge_has (G : Gr) (u v : Nat) (x : Addr) (i j : Nat) : (G.edge u v x).has i j ↔ G.has i j ∨ (i = u ∧ j = v) ∨ (i = v ∧ j = u) := by
  unfold Gr.has
  rw [edge_adj]
  by_cases h1 : i = v
  · subst h1
    rw [if_pos rfl, storeA_keys]
    by_cases h2 : i = u
    · subst h2; rw [if_pos rfl, storeA_keys]; simp
    · rw [if_neg h2]; simp [h2]
  · rw [if_neg h1]
    by_cases h2 : i = u
    · subst h2; rw [if_pos rfl, storeA_keys]; simp [h1]
    · rw [if_neg h2]; simp [h1, h2]
structure GOk (G : Gr) : Prop where
  nodup : ∀ i, i < G.n → ((G.adj i).map (·.1)).Nodup
  lt : ∀ i, i < G.n → ∀ p ∈ G.adj i, p.1 < G.n
theorem edge_ok {G : Gr} (H : GOk G) {u v : Nat} (hu : u < G.n) (hv : v < G.n) (x : Addr) : GOk (G.edge u v x) := by
  have key : ∀ i, i < G.n → (((G.edge u v x).adj i).map (·.1)).Nodup ∧ ∀ p ∈ (G.edge u v x).adj i, p.1 < G.n := by
    intro i hi
    rw [edge_adj]
    have st : ∀ l k, (l.map (·.1)).Nodup → (∀ p ∈ l, p.1 < G.n) → k < G.n → ((storeA l k x).map (·.1)).Nodup ∧ ∀ p ∈ storeA l k x, p.1 < G.n := fun l k hl hp hk =>
      ⟨storeA_nodup hl, fun p hm => (mem_storeA hm).elim (fun e => by rw [e]; exact hk) (hp p)⟩
    split
    · split
      · obtain ⟨a, b⟩ := st _ v (H.nodup u hu) (H.lt u hu) hv; exact st _ u a b hu
      · exact st _ u (H.nodup v hv) (H.lt v hv) hu
    · split
      · exact st _ v (H.nodup u hu) (H.lt u hu) hv
      · exact ⟨H.nodup i hi, H.lt i hi⟩
  exact ⟨fun i hi => (key i hi).1, fun i hi => (key i hi).2⟩
theorem nodup_lt_length : ∀ (n : Nat) (l : List Nat), l.Nodup → (∀ x ∈ l, x < n) → l.length ≤ n
  | 0, l, _, h => by cases l with | nil => simp | cons a r => exact absurd (h a (.head _)) (Nat.not_lt_zero _)
  | n + 1, l, hn, h => by
    have h1 := nodup_lt_length n (l.filter fun x => decide (x ≠ n)) (hn.filter _) fun x hx => by
      obtain ⟨a, b⟩ := List.mem_filter.mp hx
      have := h x a; simp at b; omega
    have h2 : l.length ≤ (l.filter fun x => decide (x ≠ n)).length + 1 := by
      have h3 := List.length_eq_countP_add_countP (fun x => decide (x ≠ n)) (l := l)
      have h4 : l.countP (fun x => decide ¬ (decide (x ≠ n)) = true) ≤ 1 := by
        have : l.countP (fun x => decide ¬ (decide (x ≠ n)) = true) = l.count n := by
          unfold List.count; congr 1; funext x; by_cases e : x = n <;> simp [e]
        rw [this]; exact List.nodup_iff_count.mp hn n
      rw [List.countP_eq_length_filter] at h3
      omega
    omega
theorem GOk.len {G : Gr} (H : GOk G) {i : Nat} (hi : i < G.n) : (G.adj i).length ≤ G.n := by
  have := nodup_lt_length G.n ((G.adj i).map (·.1)) (H.nodup i hi) fun x hx => by
    obtain ⟨p, hp, rfl⟩ := List.mem_map.mp hx; exact H.lt i hi p hp
  simpa using this
/-! ways into a loop -/
section
variable {w : World} {A : Around} {E : Value → Shared → Prop} {s : Shared} {h₀ : Heap} {L l d : Addr} {m : Str → Option Value} {news : List (Addr × Obj)} {vs : List Value} {n : Nat}
theorem iter_listS {Q : Value → Shared → Prop} (S : St h₀ L m news s.heap) (hm : (l, lst vs n) ∈ news)
    (h : ∀ I o s', Rest s s' → St h₀ L m ((I, o) :: news) s'.heap → listP l 0 o → Q (.ref I) s') : wpAny (model PP w) A (pyIter (.ref l)) Q E s :=
  wpAny_pyIter_list (S.list hm) (h _ _ { s with heap := _ } ⟨rfl, rfl⟩ (S.push _) ⟨rfl, rfl⟩)
theorem iter_keysS {Q : Value → Shared → Prop} {K : Type} [DecidableEq K] {knd : KeyKind PP w K} {o : Obj} {kvs : List (K × Value)} (S : St h₀ L m news s.heap) (hm : (d, o) ∈ news) (hd : o.IsDictOf knd kvs)
    (h : ∀ I oI ep s', Rest s s' → St h₀ L m ((I, oI) :: news) s'.heap → KdkIter oI d 0 kvs.length ep → KdkAt knd o kvs ep → Q (.ref I) s') : wpAny (model PP w) A (pyIter (.ref d)) Q E s := by
  obtain ⟨ep, ha⟩ := KdkAt.of hd
  exact wpAny_pyIter_dict (S.notSys hm) (ha.dictAt (S.get hm)) (h _ _ ep { s with heap := _ } ⟨rfl, rfl⟩ (S.push _) ⟨rfl, rfl⟩ ha)
theorem iter_selfS {Q : Value → Shared → Prop} {o : Obj} {i k ep : Nat} {I : Addr} (S : St h₀ L m news s.heap) (hm : (I, o) ∈ news) (hd : KdkIter o d i k ep) (h : Q (.ref I) s) : wpAny (model PP w) A (pyIter (.ref I)) Q E s :=
  wpAny_pyIter_keyiter (hd.at (S.get hm)) h
end
/-- the list of edges -/
def EdgesIn (rest : List (Addr × Obj)) (l : Addr) (n : Nat) (ts : List Addr) (es : List (Nat × Nat)) : Prop :=
  (l, lst (ts.map .ref) n) ∈ rest ∧ ts.length = es.length ∧ ∀ (k : Nat) t, ts[k]? = some t → ∃ u v tu tv, es[k]? = some (u, v) ∧ (t, tupO [.int (u : Nat) tu, .int (v : Nat) tv]) ∈ rest
theorem iter_edges {w : World} {A : Around} {E : Value → Shared → Prop} {s : Shared} {h₀ : Heap} {L l : Addr} {m : Str → Option Value} {news : List (Addr × Obj)} {n : Nat} {ts : List Addr} {es : List (Nat × Nat)} {Q : Value → Shared → Prop} {rest : List (Addr × Obj)} (S : St h₀ L m news s.heap) (h : EdgesIn rest l n ts es) (hs : ∀ p ∈ rest, p ∈ news)
    (k : ∀ I o s', Rest s s' → St h₀ L m ((I, o) :: news) s'.heap → listP l 0 o → Q (.ref I) s') : wpAny (model PP w) A (pyIter (.ref l)) Q E s :=
  iter_listS S (hs _ h.1) k
/-- a state of the names: what lies in `xs` is not kept -/
def ovr (xs : List Str) (F base : Str → Option Value) : Str → Option Value := fun y => if y ∈ xs then F y else base y
def Agree (xs : List Str) (m base : Str → Option Value) : Prop := ∀ y, y ∉ xs → m y = base y
theorem Agree.ovr {xs : List Str} {m base : Str → Option Value} (h : Agree xs m base) : m = Mine.ovr xs m base := by
  funext y; unfold Mine.ovr; split
  · rfl
  · exact h y ‹_›
theorem Agree.up {x : Str} {xs : List Str} {m base : Str → Option Value} (h : Agree (x :: xs) m base) : m = Mine.up x (m x) (Mine.ovr xs m base) := by
  funext y; unfold Mine.ovr Mine.up
  by_cases e : y = x
  · rw [if_pos e, e]
  · rw [if_neg e]
    show m y = if y ∈ xs then m y else base y
    by_cases e' : y ∈ xs
    · rw [if_pos e']
    · rw [if_neg e']; exact h y (by simp [e, e'])
theorem agree_up (x : Str) (xs : List Str) (v : Option Value) (F base : Str → Option Value) : Agree (x :: xs) (up x v (ovr xs F base)) base := by
  intro y hy; simp only [List.mem_cons, not_or] at hy; unfold up ovr; rw [if_neg hy.1, if_neg hy.2]
def LoopN (w : World) (A : Around) (env : Env) (L : Addr) (h₀ : Heap) (x : Str) (body : List Stmt) (Q : Flow → Shared → Prop) (E : Value → Shared → Prop) (s₂ : Shared) (it : Value) : Prop :=
  ∃ (I : Addr) (o : Obj) (N : Nat) (P : Nat → Obj → Prop) (val : Nat → Value → Prop) (R : List (Addr × Obj) → Prop) (xs : List Str) (m base : Str → Option Value) (news : List (Addr × Obj))
    (Inv : Nat → (Str → Option Value) → List (Addr × Obj) → Array GenState → OsState → Prop),
    it = .ref I ∧ Iter w I N P val R ∧ St h₀ L m ((I, o) :: news) s₂.heap ∧ Agree (x :: xs) m base ∧ P 0 o ∧ Inv 0 base news s₂.gens s₂.os ∧ (∀ k m news g q, Inv k m news g q → R news) ∧
    (∀ k v F base news o s', k < N → val k v → Inv k base news s'.gens s'.os → P (k + 1) o → St h₀ L (fun y => if y = x then some v else ovr xs F base y) ((I, o) :: news) s'.heap →
      wpAny (model PP w) A (execs body env) (fun fl s₃ => match fl with
        | .next | .cont => ∃ m' base' news', St h₀ L m' ((I, o) :: news') s₃.heap ∧ Agree (x :: xs) m' base' ∧ Inv (k + 1) base' news' s₃.gens s₃.os
        | .brk => Q .next s₃
        | .ret v => Q (.ret v) s₃) E s') ∧
    ∀ F base news s', Inv N base news s'.gens s'.os → St h₀ L (ovr (x :: xs) F base) news s'.heap → Q .next s'
theorem forG {w : World} {A : Around} {E : Value → Shared → Prop} {s : Shared} {h₀ : Heap} {env : Env} {L : Addr} {x : Str} {px pos : Pos} {iter : Expr} {body : List Stmt} {Q : Flow → Shared → Prop} {E' : Value → Shared → Prop} (hE : ∀ e s', E' e s' → notedBy (model PP w) A env (cameBackBy (model PP w) A env E) e s')
    (hh : A.handled = none) (h : wpAny (model PP w) A (eval iter env) (fun xv s₁ => wpAny (model PP w) A (pyIter xv) (fun it s₂ => LoopN w A env L h₀ x body Q E' s₂ it) E s₁) E s)
    (hk : env.scope.kind = .function := by rfl) (hl : env.kindOf x = some .local := by rfl) (hL : env.locals = L := by rfl) (hs : ∀ x, foldedSetIterable iter env x = pure x := by intro _; rfl) :
    wpAny (model PP w) A (exec (.For (.Name x px) iter body [] pos) env) Q E s := by
  refine wpAny_For (wpAny_mono h (fun xv s₁ h₁ => wpAny_mono h₁ (fun it s₂ h₂ => ?_) fun _ _ e => e) fun _ _ e => e) hs
  obtain ⟨I, o, N, P, val, R, xs, m, base, news, Inv, rfl, W, S, hm, hP, hI, hR, step, done⟩ := h₂
  refine codeAny_forLoop (fun n s' => ∃ k m base news o, n = N - k ∧ k ≤ N ∧ P k o ∧ Inv k base news s'.gens s'.os ∧ Agree (x :: xs) m base ∧ St h₀ L m ((I, o) :: news) s'.heap) (fun n s' hi => ?_) N ⟨0, m, base, news, o, rfl, Nat.zero_le _, hP, hI, hm, S⟩
  obtain ⟨k, m, base, news, o, rfl, hkN, hP, hI, hm, S⟩ := hi
  by_cases hlt : k < N
  · refine W.item hh S hP (hR _ _ _ _ _ hI) hlt fun v o' s₁ hr S' hP' hv => ?_
    refine wpAny_assign_Name (storeS S' (fun s₂ hr₂ S₂ => ?_) hk hl hL)
    rw [hm.up, up_up] at S₂
    have e1 : s₂.gens = s'.gens := hr₂.1.trans hr.1
    have e2 : s₂.os = s'.os := hr₂.2.trans hr.2
    refine wpAny_mono (step k v m base news o' s₂ hlt hv (by rw [e1, e2]; exact hI) hP' S₂) (fun fl s₃ h₃ => ?_) hE
    cases fl with
    | next => obtain ⟨m', base', news', S₃, a₃, hI₃⟩ := h₃; exact ⟨N - (k + 1), by omega, k + 1, m', base', news', o', rfl, hlt, hP', hI₃, a₃, S₃⟩
    | cont => obtain ⟨m', base', news', S₃, a₃, hI₃⟩ := h₃; exact ⟨N - (k + 1), by omega, k + 1, m', base', news', o', rfl, hlt, hP', hI₃, a₃, S₃⟩
    | brk => exact h₃
    | ret v => exact h₃
  · have : k = N := by omega
    subst this
    refine W.done hh S hP (hR _ _ _ _ _ hI) fun s₁ hr S' => ?_
    rw [hm.ovr] at S'
    exact wpAny_execs_nil (done m base news s₁ (by rw [hr.1, hr.2]; exact hI) S')
theorem forN {w : World} {A : Around} {E : Value → Shared → Prop} {s : Shared} {h₀ : Heap} {env : Env} {L : Addr} {x : Str} {px pos : Pos} {iter : Expr} {body : List Stmt} {Q : Flow → Shared → Prop}
    (hh : A.handled = none) (h : wpAny (model PP w) A (eval iter env) (fun xv s₁ => wpAny (model PP w) A (pyIter xv) (fun it s₂ => LoopN w A env L h₀ x body Q (fun _ _ => False) s₂ it) E s₁) E s)
    (hk : env.scope.kind = .function := by rfl) (hl : env.kindOf x = some .local := by rfl) (hL : env.locals = L := by rfl) (hs : ∀ x, foldedSetIterable iter env x = pure x := by intro _; rfl) :
    wpAny (model PP w) A (exec (.For (.Name x px) iter body [] pos) env) Q E s := forG (fun _ _ h => h.elim) hh h hk hl hL hs
theorem forR {w : World} {A : Around} {E : Value → Shared → Prop} {s : Shared} {h₀ : Heap} {env : Env} {L : Addr} {x : Str} {px pos : Pos} {iter : Expr} {body : List Stmt} {Q : Flow → Shared → Prop}
    (hh : A.handled = none) (hE : PassesOwn (model PP w) A env E) (h : wpAny (model PP w) A (eval iter env) (fun xv s₁ => wpAny (model PP w) A (pyIter xv) (fun it s₂ => LoopN w A env L h₀ x body Q E s₂ it) E s₁) E s)
    (hk : env.scope.kind = .function := by rfl) (hl : env.kindOf x = some .local := by rfl) (hL : env.locals = L := by rfl) (hs : ∀ x, foldedSetIterable iter env x = pure x := by intro _; rfl) :
    wpAny (model PP w) A (exec (.For (.Name x px) iter body [] pos) env) Q E s := forG hE hh h hk hl hL hs
end Mine
end
section
open PySem PySem.W PySem.Calls PyProof.Rows
set_option maxRecDepth 100000
namespace Mine
/-- the set object that holds the numbers of a list -/
def SetIs (w : World) (o : Obj) (l : List Nat) : Prop := o.SetObjOf (intKind PP w) (fun k => decide (∃ x ∈ l, (x : Int) = k)) l.length
abbrev freshSet (led : Bool) : Obj := { cls := .type "set", dict := none, data := .set #[] 0 (.fresh 0 0 led) }
theorem setIs_nil (w : World) (led : Bool) : SetIs w (freshSet led) [] := by
  have := setObjOf_fresh (knd := intKind PP w) led
  unfold SetIs
  rw [show (fun k : Int => decide (∃ x ∈ ([] : List Nat), (x : Int) = k)) = fun _ => false from by funext k; simp]
  exact this
theorem dec_mem (l : List Nat) (x : Nat) : decide (∃ y ∈ l, (y : Int) = (x : Int)) = decide (x ∈ l) := by
  congr 1; apply propext
  constructor
  · rintro ⟨y, hy, e⟩; have : y = x := by omega
    rw [← this]; exact hy
  · intro h; exact ⟨x, h, rfl⟩
section
variable {w : World} {A : Around} {E : Value → Shared → Prop} {s : Shared} {h₀ : Heap} {L a : Addr} {m : Str → Option Value} {news l₀ : List (Addr × Obj)} {o : Obj} {l : List Nat} {x : Nat} {t : Tok}
theorem inSetS {Q : Value → Shared → Prop} {b : Bool} (_h0 : (a, o) ∈ l₀) (S : St h₀ L m news s.heap) (hm : (a, o) ∈ news) (hs : SetIs w o l) (hl : l.length ≤ 1000) (hb : decide (x ∈ l) = b) (h : ∀ s', Rest s s' → St h₀ L m news s'.heap → Q (.bool b) s') :
    wpAny (model PP w) A (compareOp .In (.int (x : Nat) t) (.ref a)) Q E s := by
  subst hb
  have hb : l.length < scanBound := by unfold scanBound; omega
  have := wpAny_inSet_of (knd := intKind PP w) (A := A) (E := E) (s := s) (Q := Q) (intKind_is PP w (x : Int) t) rfl (Obj.SetObjOf.setOf hs (S.get hm) hb) (by rw [dec_mem]; exact h { s with toks := s.toks + 1 } ⟨rfl, rfl⟩ S)
  exact this
theorem notinSetS {Q : Value → Shared → Prop} {b : Bool} (_h0 : (a, o) ∈ l₀) (S : St h₀ L m news s.heap) (hm : (a, o) ∈ news) (hs : SetIs w o l) (hl : l.length ≤ 1000) (hb : decide (x ∈ l) = b) (h : ∀ s', Rest s s' → St h₀ L m news s'.heap → Q (.bool (!b)) s') :
    wpAny (model PP w) A (compareOp .NotIn (.int (x : Nat) t) (.ref a)) Q E s := by
  subst hb
  have hb : l.length < scanBound := by unfold scanBound; omega
  have := wpAny_notInSet_of (knd := intKind PP w) (A := A) (E := E) (s := s) (Q := Q) (intKind_is PP w (x : Int) t) rfl (Obj.SetObjOf.setOf hs (S.get hm) hb) (by rw [dec_mem]; exact h { s with toks := s.toks + 1 } ⟨rfl, rfl⟩ S)
  exact this
theorem setIs_add {so' : Obj} (hs : so'.SetObjOf (intKind PP w) (fun k' => decide (∃ y ∈ l, (y : Int) = k') || decide (k' = (x : Int))) (if decide (∃ y ∈ l, (y : Int) = (x : Int)) = true then l.length else l.length + 1)) (hx : x ∉ l) : SetIs w so' (l ++ [x]) := by
  rw [dec_mem, decide_eq_false hx, if_neg Bool.false_ne_true] at hs
  unfold SetIs
  rw [List.length_append]
  have e : (fun k => decide (∃ y ∈ l ++ [x], (y : Int) = k)) = fun k' => decide (∃ y ∈ l, (y : Int) = k') || decide (k' = (x : Int)) := by
    funext k
    rw [← Bool.decide_or]
    congr 1; apply propext
    simp only [List.mem_append, List.mem_singleton]
    constructor
    · rintro ⟨y, h | h, e⟩
      · exact .inl ⟨y, h, e⟩
      · exact .inr (by rw [← e, h])
    · rintro (⟨y, h, e⟩ | e)
      · exact ⟨y, .inl h, e⟩
      · exact ⟨x, .inr rfl, e.symm⟩
  rw [e]; exact hs
theorem addedS {so' : Obj} {h' : Heap} (S : St h₀ L m news s.heap) (hm : (a, o) ∈ news) (hsb : Heap.SameBut a s.heap h') (ho : h'.get? a = some so') : St h₀ L m (put a so' news) h' := S.change hm hsb ho
theorem setAddS {Q : Bool → Shared → Prop} (S : St h₀ L m news s.heap) (hm : (a, o) ∈ news) (hs : SetIs w o l) (hl : l.length ≤ 1000) (hx : x ∉ l)
    (h : ∀ s' o', Rest s s' → St h₀ L m (put a o' news) s'.heap → SetIs w o' (l ++ [x]) → Q true s') : wpAny (model PP w) A (setAdd a (.int (x : Nat) t)) Q E s := by
  unfold setAdd
  refine wpAny_holding (wpAny_bind ((intKind PP w).pyHash (intKind_is PP w (x : Int) t) ?_))
  refine wpAny_setAddHashed_of (s := { s with toks := s.toks + 1 }) (intKind_is _ _ _ _) rfl (Obj.SetObjOf.setOf hs (S.get hm) (by unfold scanBound; omega)) (by unfold scanBound; omega) fun h' hsb hS' => ?_
  obtain ⟨so', ho', hso'⟩ := hS'.objOf
  rw [dec_mem, decide_eq_false hx]
  exact h { s with heap := h', toks := _ } so' ⟨rfl, rfl⟩ (addedS S hm hsb ho') (setIs_add hso' hx)
theorem addSetS {Q : Value → Shared → Prop} (_h0 : (a, o) ∈ l₀) (S : St h₀ L m news s.heap) (hm : (a, o) ∈ news) (hs : SetIs w o l) (hl : l.length ≤ 1000) (hx : x ∉ l)
    (h : ∀ s' o', Rest s s' → St h₀ L m (put a o' news) s'.heap → SetIs w o' (l ++ [x]) → (a, o') ∈ put a o' news → Q .none s') : wpAny (model PP w) A (call (.builtin "set.add") [.ref a, .int (x : Nat) t]) Q E s := by
  refine call_set_add (knd := intKind PP w) (intKind_is PP w (x : Int) t) rfl (Obj.SetObjOf.setOf hs (S.get hm) (by unfold scanBound; omega)) (by unfold scanBound; omega) fun h' hsb hS' => ?_
  obtain ⟨so', ho', hso'⟩ := hS'.objOf
  exact h { s with heap := h', toks := _ } so' ⟨rfl, rfl⟩ (addedS S hm hsb ho') (setIs_add hso' hx) (mem_put_self hm)
theorem lenSetS {Q : Value → Shared → Prop} (_h0 : (a, o) ∈ l₀) (S : St h₀ L m news s.heap) (hm : (a, o) ∈ news) (hs : SetIs w o l) (hl : l.length ≤ 1000)
    (h : ∀ s' t, Rest s s' → St h₀ L m news s'.heap → Q (.int (l.length : Nat) t) s') : wpAny (model PP w) A (call (.builtin "len") [.ref a]) Q E s := by
  obtain ⟨hex, es, ep, t, hd, hel, hmem, hn, hf⟩ := id hs
  refine call_len_set (S.get hm) hex hd hf (by rw [hn]; omega) ?_
  rw [hn]
  exact h { s with toks := _ } _ ⟨rfl, rfl⟩ S
theorem getAddS {pl : Sem Bool} {Q : Value × List Value → Shared → Prop} (_h0 : (a, o) ∈ l₀) (S : St h₀ L m news s.heap) (hm : (a, o) ∈ news) (hs : SetIs w o l) (hl : l.length ≤ 1000) (h : Q (.builtin "set.add", [.ref a]) s) :
    wpAny (model PP w) A (getMethod (.ref a) "add" pl) Q E s :=
  getMethod_set_add (knd := intKind PP w) (Obj.SetObjOf.setOf hs (S.get hm) (by unfold scanBound; omega)) h
theorem newSetS {Q : Value → Shared → Prop} (S : St h₀ L m news s.heap)
    (h : ∀ D led s', Rest s s' → St h₀ L m ((D, freshSet led) :: news) s'.heap → Above news D → Q (.ref D) s') : wpAny (model PP w) A (call (.type "set") []) Q E s := by
  exact call_set_0 fun led => h _ led { s with heap := _ } ⟨rfl, rfl⟩ (S.push _) S.lt
theorem setLit1 {e : PySem.Expr} {k : Nat} {pos : Pos} {env : Env} {Q : Value → Shared → Prop} (C : Cx w A env L h₀) (S : St h₀ L m news s.heap) (hc : kdsCode (hd.heap_39 w.params) env.code = true)
    (hroad : (displayRoad k [e] == .constants) = false) (hu : (displayRoad k [e] == .unsure) = false) (hp : [e].all kdsPlain = true)
    (h : ∀ D led s', Rest s s' → St h₀ L m ((D, freshSet led) :: news) s'.heap → Above news D → wpAny (model PP w) A (eval e env) (fun v s₁ => wpAny (model PP w) A (setAdd D v) (fun _ s₂ => Q (.ref D) s₂) E s₁) E s') :
    wpAny (model PP w) A (eval (.Set [e] k pos) env) Q E s := by
  rw [arm_eval_Set]
  refine wpAny_bind (wpAny_standAt ?_)
  refine wpAny_bind (kds_main (C.X.keeps S.F.keep) hc fun b => ?_)
  rw [kds_star _ hp, List.map_map]
  refine kds_core (ts := (evalEach [e] env).map fun t => do let v ← t; standAt pos; pure v) hroad ?_ ?_ ?_ fun led => ?_
  · refine List.findIdx?_eq_none_iff.mpr fun x hx => ?_
    obtain ⟨t, _, rfl⟩ := List.mem_map.mp hx
    rfl
  · rw [List.length_map, kds_len]; simp
  · rw [List.map_map]; try rfl
  · refine kds_all pos [e] _ _ (wpAny_mono (h _ led { s with heap := _ } ⟨rfl, rfl⟩ (S.push _) S.lt) (fun v s' h' => ?_) fun _ _ z => z)
    exact kds_fill_cons (wpAny_mono h' (fun _ s'' h'' => kds_fill_nil hu h'') fun _ _ z => z)
theorem whileG {env : Env} {test : PySem.Expr} {body : List Stmt} {pos : Pos} {Q : Flow → Shared → Prop} {E' : Value → Shared → Prop} (hE : ∀ e s', E' e s' → notedBy (model PP w) A env (cameBackBy (model PP w) A env E) e s')
    (I : Nat → Shared → Prop) (n : Nat) (h : I n s)
    (turn : ∀ n s, I n s → wpAny (model PP w) A (isTrue test env (eval test env)) (fun b s₂ => if b = true then wpAny (model PP w) A (execs body env) (fun f s₃ => match f with
        | .next | .cont => ∃ m, m < n ∧ I m s₃
        | .brk => Q .next s₃
        | .ret v => Q (.ret v) s₃) E' s₂ else Q .next s₂) E' s) : wpAny (model PP w) A (exec (.While test body [] pos) env) Q E s := by
  refine wpAny_While (codeAny_whileLoop I (fun n s hI => ?_) n h)
  refine wpAny_mono (turn n s hI) (fun b s₂ h₂ => ?_) hE
  cases b with
  | false => simp only [Bool.false_eq_true, if_false] at h₂ ⊢; exact wpAny_execs_nil h₂
  | true =>
    simp only [if_true] at h₂ ⊢
    refine wpAny_mono h₂ (fun f s₃ h₃ => ?_) hE
    cases f <;> exact h₃
theorem whileN {env : Env} {test : PySem.Expr} {body : List Stmt} {pos : Pos} {Q : Flow → Shared → Prop}
    (I : Nat → Shared → Prop) (n : Nat) (h : I n s)
    (turn : ∀ n s, I n s → wpAny (model PP w) A (isTrue test env (eval test env)) (fun b s₂ => if b = true then wpAny (model PP w) A (execs body env) (fun f s₃ => match f with
        | .next | .cont => ∃ m, m < n ∧ I m s₃
        | .brk => Q .next s₃
        | .ret v => Q (.ret v) s₃) (fun _ _ => False) s₂ else Q .next s₂) (fun _ _ => False) s) : wpAny (model PP w) A (exec (.While test body [] pos) env) Q E s :=
  whileG (fun _ _ h => h.elim) I n h turn
theorem truthyListS {vs : List Value} {n : Nat} {lr : Addr} {Q : Bool → Shared → Prop} {b : Bool} (_h0 : (lr, lst vs n) ∈ l₀) (S : St h₀ L m news s.heap) (hm : (lr, lst vs n) ∈ news) (hl : vs.length ≤ 1000000) (hb : (!vs.isEmpty) = b) (h : ∀ s', Rest s s' → St h₀ L m news s'.heap → Q b s') :
    wpAny (model PP w) A (truthy (.ref lr)) Q E s := by
  subst hb
  refine wpAny_truthy_list (S.list hm) (by rw [List.size_toArray]; omega) ?_
  have e : vs.toArray.isEmpty = vs.isEmpty := by simp
  rw [e]
  exact h { s with toks := _ } ⟨rfl, rfl⟩ S
/-- the numbers in a list object -/
def IntL (vs : List Value) (ns : List Nat) : Prop := vs.length = ns.length ∧ ∀ (k : Nat) v, vs[k]? = some v → ∃ n t, ns[k]? = some n ∧ v = .int (n : Nat) t
theorem IntL.nil : IntL [] [] := ⟨rfl, fun k v h => by simp at h⟩
theorem IntL.push {vs : List Value} {ns : List Nat} (h : IntL vs ns) (n : Nat) (t : Tok) : IntL (vs ++ [.int (n : Nat) t]) (ns ++ [n]) := by
  refine ⟨by simp [h.1], fun k v hk => ?_⟩
  rw [List.getElem?_append] at hk ⊢
  rw [← h.1]
  split at hk
  · rename_i hl; rw [if_pos hl]; exact h.2 k v hk
  · rename_i hl; rw [if_neg hl]
    cases e : k - vs.length with
    | zero => rw [e] at hk; simp at hk; exact ⟨n, t, by simp, hk.symm⟩
    | succ j => rw [e] at hk; simp at hk
theorem IntL.one (n : Nat) (t : Tok) : IntL [.int (n : Nat) t] [n] := IntL.nil.push n t
theorem IntL.isEmpty {vs : List Value} {ns : List Nat} (h : IntL vs ns) : vs.isEmpty = ns.isEmpty := by
  have := h.1
  cases vs <;> cases ns <;> simp_all
end

/-! a loop that keeps the names but for its own -/
def LoopC (w : World) (A : Around) (env : Env) (L : Addr) (h₀ : Heap) (x : Str) (body : List Stmt) (Q : Flow → Shared → Prop) (E : Value → Shared → Prop) (s₂ : Shared) (it : Value) : Prop :=
  ∃ (I : Addr) (o : Obj) (N : Nat) (P : Nat → Obj → Prop) (val : Nat → Value → Prop) (R : List (Addr × Obj) → Prop) (xs : List Str) (m : Str → Option Value) (news : List (Addr × Obj))
    (Inv : Nat → List (Addr × Obj) → Array GenState → OsState → Prop),
    it = .ref I ∧ Iter w I N P val R ∧ St h₀ L m ((I, o) :: news) s₂.heap ∧ P 0 o ∧ Inv 0 news s₂.gens s₂.os ∧ (∀ k news g q, Inv k news g q → R news) ∧
    (∀ k v F news o s', k < N → val k v → Inv k news s'.gens s'.os → P (k + 1) o → St h₀ L (fun y => if y = x then some v else ovr xs F m y) ((I, o) :: news) s'.heap →
      wpAny (model PP w) A (execs body env) (fun fl s₃ => match fl with
        | .next | .cont => ∃ m' news', St h₀ L m' ((I, o) :: news') s₃.heap ∧ Agree (x :: xs) m' m ∧ Inv (k + 1) news' s₃.gens s₃.os
        | .brk => Q .next s₃
        | .ret v => Q (.ret v) s₃) E s') ∧
    ∀ F news s', Inv N news s'.gens s'.os → St h₀ L (ovr (x :: xs) F m) news s'.heap → Q .next s'
theorem LoopC.toN {w : World} {A : Around} {env : Env} {L : Addr} {h₀ : Heap} {x : Str} {body : List Stmt} {Q : Flow → Shared → Prop} {E : Value → Shared → Prop} {s₂ : Shared} {it : Value} (h : LoopC w A env L h₀ x body Q E s₂ it) : LoopN w A env L h₀ x body Q E s₂ it := by
  obtain ⟨I, o, N, P, val, R, xs, m, news, Inv, e, W, S, hP, hI, hR, step, done⟩ := h
  refine ⟨I, o, N, P, val, R, xs, m, m, news, fun k b news g q => b = m ∧ Inv k news g q, e, W, S, fun _ _ => rfl, hP, ⟨rfl, hI⟩, fun k b news g q h => hR k news g q h.2, ?_, ?_⟩
  · rintro k v F b news o s' hk hv ⟨rfl, hI⟩ hP S
    refine wpAny_mono (step k v F news o s' hk hv hI hP S) (fun fl s₃ h₃ => ?_) fun _ _ z => z
    cases fl with
    | next => obtain ⟨m', news', S', a, hI'⟩ := h₃; exact ⟨m', _, news', S', a, rfl, hI'⟩
    | cont => obtain ⟨m', news', S', a, hI'⟩ := h₃; exact ⟨m', _, news', S', a, rfl, hI'⟩
    | brk => exact h₃
    | ret v => exact h₃
  · rintro F b news s' ⟨rfl, hI⟩ S; exact done F news s' hI S
theorem forC {w : World} {A : Around} {E : Value → Shared → Prop} {s : Shared} {h₀ : Heap} {env : Env} {L : Addr} {x : Str} {px pos : Pos} {iter : Expr} {body : List Stmt} {Q : Flow → Shared → Prop}
    (hh : A.handled = none) (h : wpAny (model PP w) A (eval iter env) (fun xv s₁ => wpAny (model PP w) A (pyIter xv) (fun it s₂ => LoopC w A env L h₀ x body Q (fun _ _ => False) s₂ it) E s₁) E s)
    (hk : env.scope.kind = .function := by rfl) (hl : env.kindOf x = some .local := by rfl) (hL : env.locals = L := by rfl) (hs : ∀ x, foldedSetIterable iter env x = pure x := by intro _; rfl) :
    wpAny (model PP w) A (exec (.For (.Name x px) iter body [] pos) env) Q E s :=
  forN hh (wpAny_mono h (fun _ _ h => wpAny_mono h (fun _ _ h => h.toN) fun _ _ z => z) fun _ _ z => z) hk hl hL hs
theorem forCR {w : World} {A : Around} {E : Value → Shared → Prop} {s : Shared} {h₀ : Heap} {env : Env} {L : Addr} {x : Str} {px pos : Pos} {iter : Expr} {body : List Stmt} {Q : Flow → Shared → Prop}
    (hh : A.handled = none) (hE : PassesOwn (model PP w) A env E) (h : wpAny (model PP w) A (eval iter env) (fun xv s₁ => wpAny (model PP w) A (pyIter xv) (fun it s₂ => LoopC w A env L h₀ x body Q E s₂ it) E s₁) E s)
    (hk : env.scope.kind = .function := by rfl) (hl : env.kindOf x = some .local := by rfl) (hL : env.locals = L := by rfl) (hs : ∀ x, foldedSetIterable iter env x = pure x := by intro _; rfl) :
    wpAny (model PP w) A (exec (.For (.Name x px) iter body [] pos) env) Q E s :=
  forR hh hE (wpAny_mono h (fun _ _ h => wpAny_mono h (fun _ _ h => h.toN) fun _ _ z => z) fun _ _ z => z) hk hl hL hs
theorem St.put_at {h₀ h : Heap} {L d : Addr} {m : Str → Option Value} {o o' : Obj} {pre post : List (Addr × Obj)} (S : St h₀ L m (put d o (pre ++ (d, o') :: post)) h) : St h₀ L m (pre ++ (d, o) :: post) h := by
  have e : put d o (pre ++ (d, o') :: post) = pre ++ (d, o) :: post := by
    have D := S.D
    rw [put_fst] at D
    rw [put_append, put_cons, if_pos rfl]
    rw [List.map_append, List.map_cons, List.nodup_append] at D
    obtain ⟨_, D2, D3⟩ := D
    rw [List.nodup_cons] at D2
    rw [put_id (l := pre) fun p hp e => D3 _ (List.mem_map.mpr ⟨p, hp, rfl⟩) d (by simp) e, put_id (l := post) fun p hp e => D2.1 (List.mem_map.mpr ⟨p, hp, e⟩)]
  rwa [e] at S
theorem St.put_hd {h₀ h : Heap} {L d : Addr} {m : Str → Option Value} {o o' : Obj} {post : List (Addr × Obj)} (S : St h₀ L m (put d o ((d, o') :: post)) h) : St h₀ L m ((d, o) :: post) h := St.put_at (pre := []) S
theorem St.ovr {h₀ h : Heap} {L : Addr} {m : Str → Option Value} {news : List (Addr × Obj)} (S : St h₀ L m news h) (xs : List Str) : St h₀ L (Mine.ovr xs m m) news h := by
  have := Agree.ovr (xs := xs) (m := m) (base := m) fun _ _ => rfl
  rwa [this] at S
theorem St.agree {h₀ h : Heap} {L : Addr} {m base : Str → Option Value} {news : List (Addr × Obj)} {xs : List Str} (S : St h₀ L m news h) (ha : Agree xs m base) : St h₀ L (Mine.ovr xs m base) news h := by
  have := ha.ovr
  rwa [this] at S
theorem getAppendS {w : World} {A : Around} {E : Value → Shared → Prop} {s : Shared} {h₀ : Heap} {L a : Addr} {m : Str → Option Value} {news l₀ : List (Addr × Obj)} {vs : List Value} {n : Nat} {pl : Sem Bool} {Q : Value × List Value → Shared → Prop} (_h0 : (a, lst vs n) ∈ l₀) (S : St h₀ L m news s.heap) (hm : (a, lst vs n) ∈ news) (h : Q (.builtin "list.append", [.ref a]) s) :
    wpAny (model PP w) A (getMethod (.ref a) "append" pl) Q E s := Calls.getMethod_list_append (S.get hm) rfl rfl h
end Mine
end
section
open PySem PySem.W PySem.Calls PyProof.Rows
set_option maxRecDepth 100000
namespace Mine
section
variable {w : World} {A : Around} {E : Value → Shared → Prop} {s : Shared} {h₀ : Heap} {L c : Addr} {m : Str → Option Value} {news l₀ : List (Addr × Obj)} {env : Env} {x : Str} {pos : Pos} {v : Value} {o : Obj} {Q : Value → Shared → Prop}
/-! names, in any frame -/
theorem nmL (S : St h₀ L m news s.heap) (hv : m x = some v) (h : Q v s) (hk : env.scope.kind = .function := by rfl) (hx : env.kindOf x = some .local := by rfl) (hL : env.locals = L := by rfl)
    (hd : (x == ("__debug__" : Str)) = false := by decide) : wpAny (model PP w) A (eval (.Name x pos) env) Q E s := by
  subst hL; exact wpAny_Name (wpAny_loadName_local hk hx S.F.ns hv h) hd
theorem ldL (S : St h₀ L m news s.heap) (hv : m x = some v) (h : Q v s) (hk : env.scope.kind = .function := by rfl) (hx : env.kindOf x = some .local := by rfl) (hL : env.locals = L := by rfl) :
    wpAny (model PP w) A (loadName env x) Q E s := by
  subst hL; exact wpAny_loadName_local hk hx S.F.ns hv h
theorem nmC (S : St h₀ L m news s.heap) (hc : env.cells.lookup x = some c) (hm : (c, o) ∈ news) (hd : o.data = .cell (some v)) (h : Q v s) (hk : env.scope.kind = .function := by rfl) (hx : env.kindOf x = some .cell := by rfl)
    (hb : (x == ("__debug__" : Str)) = false := by decide) : wpAny (model PP w) A (eval (.Name x pos) env) Q E s := wpAny_Name (wpAny_loadName_cell hk hx hc ⟨o, S.get hm, hd⟩ h) hb
theorem nmF (S : St h₀ L m news s.heap) (hc : env.cells.lookup x = some c) (hm : (c, o) ∈ news) (hd : o.data = .cell (some v)) (h : Q v s) (hk : env.scope.kind = .function := by rfl) (hx : env.kindOf x = some .free := by rfl)
    (hb : (x == ("__debug__" : Str)) = false := by decide) (hn : (x == ("__classdict__" : Str)) = false := by decide) : wpAny (model PP w) A (eval (.Name x pos) env) Q E s := wpAny_Name (wpAny_loadName_free hk hx hc ⟨o, S.get hm, hd⟩ h hn) hb
theorem nmG (C : Cx w A env L h₀) (S : St h₀ L m news s.heap) (e : nsIn (hd.heap_39 w.params) mainGlobals x = some (some v)) (h : Q v s) (hg : env.globals = mainGlobals := by rfl) (hx : env.kindOf x = some .globalImplicit := by rfl)
    (hd : (x == ("__debug__" : Str)) = false := by decide) : wpAny (model PP w) A (eval (.Name x pos) env) Q E s := by
  obtain ⟨mean, mg, mb, T⟩ := C.T
  exact Name_function_global C.kind hx (loadGlobal_global (env := env) (hg ▸ T.g.keeps S.F.keep) (mg_of C.X T.g e) h) hd
theorem nmB (C : Cx w A env L h₀) (S : St h₀ L m news s.heap) (e : nsIn (hd.heap_39 w.params) mainGlobals x = some none) (hv : bootBuiltins x = some v) (hn : x ≠ "__name__") (h : Q v s)
    (hg : env.globals = mainGlobals := by rfl) (hbb : env.builtins = builtinsNs := by rfl) (hx : env.kindOf x = some .globalImplicit := by rfl)
    (hd : (x == ("__debug__" : Str)) = false := by decide) : wpAny (model PP w) A (eval (.Name x pos) env) Q E s := by
  obtain ⟨mean, mg, mb, T⟩ := C.T
  exact Name_function_global C.kind hx (loadGlobal_builtin (env := env) (hg ▸ T.g.keeps S.F.keep) (mg_none_of C.X T.g e) (hbb ▸ T.b.keeps S.F.keep) ((T.builtins x hn).trans hv) h) hd
/-! a store to a cell -/
theorem storeC {Q : Unit → Shared → Prop} {v₀ : Option Value} (S : St h₀ L m news s.heap) (hc : env.cells.lookup x = some c) (hm : (c, o) ∈ news) (hd : o.data = .cell v₀)
    (h : ∀ s' o', Rest s s' → St h₀ L m (put c o' news) s'.heap → o'.data = .cell (some v) → (c, o') ∈ put c o' news → Q () s') (hk : env.scope.kind = .function := by rfl) (hx : env.kindOf x = some .cell := by rfl) :
    wpAny (model PP w) A (storeName env x v) Q E s := by
  refine wpAny_storeName_cell hk hx hc ⟨o, S.get hm, hd⟩ fun h' hv hs => ?_
  obtain ⟨o', ho', hd'⟩ := hv
  exact h { s with heap := h' } o' ⟨rfl, rfl⟩ (S.change hm hs ho') hd' (mem_put_self hm)
end

/-! entering a def with cells -/
theorem cells_names {names : List (Str × NameKind)} {cn : List Str} (h : (cellsFrom 0 names []).map (·.1) = cn) (n : Nat) : (cellsFrom n names []).map (·.1) = cn := by
  rw [cellsFrom_names names n 0 [] [] rfl]; exact h
theorem cellsFrom_app (names : List (Str × NameKind)) : ∀ (n : Nat) (acc : List (Str × Addr)), cellsFrom n names acc = cellsFrom n names [] ++ acc := by
  induction names with
  | nil => intro n acc; rfl
  | cons p r ih =>
    intro n acc
    obtain ⟨x, k⟩ := p
    unfold cellsFrom
    split
    · rw [ih, ih (n + 1) [(x, n)], List.append_assoc]; rfl
    · exact ih n acc
theorem CellsAre.fst {cm : Str → Option Value} {cs : List (Str × Addr)} {cells : List (Addr × Obj)} (x : CellsAre cm cs cells) : cells.map (·.1) = cs.map (·.2) := by
  induction x with
  | nil => rfl
  | cons _ _ ih => rw [List.map_cons, List.map_cons, ih]

theorem enterC {w : World} {A : Around} {s : Shared} {h₀ : Heap} {env : Env} {L f : Addr} {m : Str → Option Value} {news : List (Addr × Obj)} {R : Result → Shared → Prop}
    {name qual : Str} {params : Arguments} {body : List Stmt} {scope : Scope} {dV kV doc pm cdv ct oc : Value} {an od : Option Addr} {osl : Array (Option Value)} {args : Args} {binds : List (Str × Value)} {cn : List Str}
    (C : Cx w A env L h₀) (S : St h₀ L m news s.heap)
    (ho : (hd.heap_39 w.params).lookup f = some ⟨oc, od, .func (fnOf name qual params body scope dV kV doc pm an cdv ct), osl⟩) (hcd : codeIn (hd.heap_39 w.params) cdv qual = true)
    (hbind : BindsTo s (fnOf name qual params body scope dV kV doc pm an cdv ct) args binds)
    (hkind : ∀ n, ∀ x ∈ binds, scope.names.lookup x.1 = some .local ∨ (scope.names.lookup x.1 = some .cell ∧ ((cellsFrom n scope.names []).lookup x.1).isSome = true))
    (hcn : (cellsFrom 0 scope.names []).map (·.1) = cn) (hnd : cn.Nodup)
    (h : ∀ g L' s₁ cs cells, Rest s s₁ → Cx w (A.deeper (envX qual scope L' f cdv cs)) (envX qual scope L' f cdv cs) L' g → cs.map (·.1) = cn →
      CellsAre (bindC (fun x => scope.names.lookup x) binds fun _ => none) cs cells →
      St g L' (bindL (fun x => scope.names.lookup x) binds fun _ => none) (cells ++ news) s₁.heap → (∀ p ∈ cells, ∀ q ∈ news, q.1 < p.1) → (∀ q ∈ news, q.1 < L') →
      wpAny (model PySem.Challenge.pw_bs0017_01 w) (A.deeper (envX qual scope L' f cdv cs)) (execs body (envX qual scope L' f cdv cs))
        (fun fl s' => LeaveK h₀ L m g R (match fl with | .ret v => v | _ => .none) s')
        (fun e s' => wpAny (model PySem.Challenge.pw_bs0017_01 w) (A.deeper (envX qual scope L' f cdv cs)) (leaving (envX qual scope L' f cdv cs) e) (fun _ s'' => R (.error e) s'') (fun e' s'' => R (.error e') s'') s')
        s₁)
    (hroom : A.depth < recursionLimit) (hco : scope.isCoroutine = false := by rfl) (hgen : scope.isGenerator = false := by rfl) (hk : scope.kind = .function := by rfl) :
    codeAny (model PySem.Challenge.pw_bs0017_01 w) A (.call (.ref f) args) R s := by
  obtain ⟨mean, mg, mb, T⟩ := C.T
  obtain ⟨FG, st⟩ := hideS S
  refine codeAny_call_function hroom ((C.X.keeps S.F.keep) _ _ ho) rfl hco hgen rfl (codeRec_of (C.X.keeps S.F.keep) hcd) (hbind _ _ _ _ ?_)
  refine wpAny_newFunctionEnv_cells hk (hkind _) fun env' he s' x => ?_
  subst he
  have hk₁ := x.toInCall.keep
  have T' := T.keeps st
  have X' := C.X.keeps st
  refine ⟨(T.nolimit.keeps S.F.keep).keeps hk₁, codeAny_func ?_⟩
  obtain ⟨h₁, tk, rfl, _⟩ := x.done
  obtain ⟨cells, NC, Y⟩ := Cl.news (h₀ := s.heap) (Nat.le_refl _) fun n c hm => ⟨x.cell n c (lookup_of_mem_nodup (by show ((cellsFrom (s.heap.objs.size + 1) scope.names []).map (·.1)).Nodup; rw [cells_names hcn]; exact hnd) hm), x.above n c hm⟩
  have Fg : Fr (hideAll s.heap (news.map (·.1))) s.heap.objs.size h₁ _ := ⟨x.toInCall.ns, fun b o e => hk₁ b o (of_hideAll _ e), Nat.le_of_eq (hideAll_size _ _)⟩
  have lo : 1 < s.heap.objs.size := Nat.lt_of_lt_of_le (modules_low T'.nolimit) Fg.above
  have cab : ∀ p ∈ cells, s.heap.objs.size < p.1 := fun p hp => by
    have : p.1 ∈ cells.map (·.1) := List.mem_map.mpr ⟨p, hp, rfl⟩
    rw [CellsAre.fst Y] at this
    obtain ⟨q, hq, e⟩ := List.mem_map.mp this
    rw [← e]; exact x.above q.1 q.2 hq
  refine wpAny_mono (h _ s.heap.objs.size { s with heap := h₁, toks := tk } _ cells ⟨rfl, rfl⟩ ⟨X', ⟨mean, mg, mb, T'⟩, C.hh, hk, rfl⟩ (cells_names hcn _) Y
    ⟨Fg, fun p hp => ?_, ?_, lo, fun p hp => ?_⟩ (fun p hp q hq => Nat.lt_trans (S.lt q hq) (cab p hp)) S.lt) (fun fl s' hl => leaveH FG st hl) fun _ _ y => y
  · rcases List.mem_append.mp hp with hp | hp
    · refine ⟨(NC p hp).1, (NC p hp).2.1, ?_⟩
      cases q : (hideAll s.heap (news.map (·.1))).get? p.1 with
      | none => rfl
      | some o => have := of_hideAll _ q; rw [(NC p hp).2.2] at this; cases this
    · exact ⟨hk₁ _ _ (S.N p hp).1, Nat.ne_of_lt (Heap.lt_size (S.N p hp).1), hideAll_none _ (List.mem_map_of_mem hp)⟩
  · rw [List.map_append, CellsAre.fst Y, List.nodup_append]
    refine ⟨List.pairwise_map.mpr x.apart, S.D, fun a ha b hb e => ?_⟩
    rw [← CellsAre.fst Y] at ha
    obtain ⟨p, hp, rfl⟩ := List.mem_map.mp ha
    obtain ⟨q, hq, rfl⟩ := List.mem_map.mp hb
    exact absurd (Nat.lt_trans (S.lt q hq) (cab p hp)) (by rw [e]; exact Nat.lt_irrefl _)
  · rcases List.mem_append.mp hp with hp | hp
    · exact Nat.lt_trans lo (cab p hp)
    · exact S.low.2 p hp
end Mine
end
section
open PySem PySem.W PySem.Calls PyProof.Rows
set_option maxRecDepth 100000
namespace Mine
/-- the frame of a comprehension -/
def cEnv (scope : Scope) (cl : List (Str × Addr)) (C : Addr) (env : Env) : Env :=
  { scope := relabel scope env, locals := C, globals := env.globals, cells := cl, qual := env.qual, func := none, code := env.code, frame := env.frame, builtins := env.builtins }
/-- what a comprehension asks of its iterator besides -/
structure IterX (w : World) (I : Addr) (N : Nat) (P : Nat → Obj → Prop) (val : Nat → Value → Prop) (R : List (Addr × Obj) → Prop) : Prop extends Iter w I N P val R where
  self : ∀ {A : Around} {E : Value → Shared → Prop} {s : Shared} {h₀ : Heap} {L : Addr} {m : Str → Option Value} {news : List (Addr × Obj)} {o : Obj} {k : Nat} {Q : Value → Shared → Prop},
    St h₀ L m ((I, o) :: news) s.heap → P k o → Q (.ref I) s → wpAny (model PP w) A (pyIter (.ref I)) Q E s
  go : ∀ {A : Around} {E : Value → Shared → Prop} {s : Shared} {h₀ : Heap} {L : Addr} {m : Str → Option Value} {news : List (Addr × Obj)} {o : Obj} {k : Nat} {v : Value} {t : PySem.Expr} {Q : Unit → Shared → Prop},
    St h₀ L m ((I, o) :: news) s.heap → P k o → Q () s → wpAny (model PP w) A (letOwnedTupleGo t (.ref I) v) Q E s
theorem go_of {w : World} {A : Around} {E : Value → Shared → Prop} {s : Shared} {I : Addr} {o : Obj} {n : String} {vs : Array Value} {v : Value} {t : PySem.Expr} {Q : Unit → Shared → Prop} (ho : s.heap.get? I = some o) (hc : o.cls = .type n) (hd : o.data = .fields vs)
    (hn : ["enumerate", "zip", "dict_itemiterator", "dict_reverseitemiterator", "odict_iterator", "itertools.zip_longest", "itertools.pairwise"].contains n = false) (h : Q () s) : wpAny (model PP w) A (letOwnedTupleGo t (.ref I) v) Q E s := by
  unfold letOwnedTupleGo
  have key : ∀ a : Addr, wpAny (model PP w) A (load I >>= fun o => (match o.cls, o.data with
    | .type n, .fields vs =>
      if ["enumerate", "zip", "dict_itemiterator", "dict_reverseitemiterator", "odict_iterator", "itertools.zip_longest", "itertools.pairwise"].contains n && vs[0]? == some (rawInt a) then do
        rule "for.unpacks-the-owned-tuple"
        updateField I 0 .none
      else pure ()
    | _, _ => pure () : Sem Unit)) Q E s := fun a => by
    refine wpAny_bind (wpAny_load ho ?_)
    rw [hc, hd]
    dsimp only
    rw [hn, Bool.false_and, if_neg Bool.false_ne_true]
    exact wpAny_pure h
  cases t <;> first | exact wpAny_pure h | (cases v <;> first | exact wpAny_pure h | exact key _)
theorem IterX.range {w : World} (I : Addr) (a : Int) (N : Nat) : IterX w I N (rangeP a N) (fun k v => ∃ t, v = .int (a + k) t) (fun _ => True) where
  toIter := Iter.range I a N
  self := by
    intro A E s h₀ L m news o k Q S hP h
    exact wpAny_pyIter_rangeiter (show IsRangeIter _ I _ _ 1 from (S.get List.mem_cons_self).trans (congrArg some hP)) h
  go := by
    intro A E s h₀ L m news o k v t Q S hP h
    refine go_of (n := "range_iterator") ((S.get List.mem_cons_self).trans (congrArg some hP)) rfl rfl (by decide) h
theorem IterX.list {w : World} (I l : Addr) (vs : List Value) (n : Nat) : IterX w I vs.length (listP l) (fun k v => vs[k]? = some v) (fun news => (l, PySem.W.listOf vs.toArray n) ∈ news) where
  toIter := Iter.list I l vs n
  self := by
    intro A E s h₀ L m news o k Q S hP h
    exact wpAny_pyIter_listiter (show Heap.IsListIter _ I l _ from ⟨_, S.get List.mem_cons_self, hP.1, hP.2⟩) h
  go := by
    intro A E s h₀ L m news o k v t Q S hP h
    exact go_of (S.get List.mem_cons_self) hP.1 hP.2 (by decide) h

section
variable {w : World} {A : Around} {E : Value → Shared → Prop} {s : Shared} {h₀ : Heap} {env : Env} {L : Addr}
theorem newCompEnv {M : Model} {scope : Scope} {globals : Addr} {cl : List (Str × Addr)} {qual : Str} {Q : Env → Shared → Prop} (hnd : ((cellsFrom 0 scope.names []).map (·.1)).Nodup)
    (h : ∀ h' own, h'.Ns s.heap.objs.size (fun _ => none) → (∀ b o, s.heap.get? b = some o → h'.get? b = some o) → CellsAre (fun _ => none) (cellsFrom (s.heap.objs.size + 1) scope.names []) own →
      (∀ p ∈ own, h'.get? p.1 = some p.2 ∧ s.heap.objs.size < p.1) → (own.map (·.1)).Nodup →
      Q { scope, locals := s.heap.objs.size, globals, cells := cellsFrom (s.heap.objs.size + 1) scope.names [] ++ cl, qual, func := none, code := env.code, frame := env.frame, builtins := env.builtins } { s with heap := h' }) :
    wpAny M A (newFunctionEnv scope globals cl [] qual none .none (some env)) Q E s := by
  simp only [newFunctionEnv, Option.isSome_some, if_true]
  refine wpAny_bind (wpAny_alloc ?_)
  refine wpAny_bind (wpAny_layCells _ (fun name kind cells => by cases hkc : kind == NameKind.cell <;> simp [hkc]) _ _ _ _ ?_)
  have ok := cellsFrom_ok scope.names (s.heap.push { cls := .type "dict", data := .dict #[] }) (s.heap.objs.size + 1) [] ⟨fun _ _ hm => (nomatch hm), List.Pairwise.nil⟩ (by rw [Heap.size_push]; exact Nat.le_refl _)
  rw [Heap.size_push] at ok
  rw [show ({ s with heap := s.heap.push { cls := .type "dict", data := .dict #[] } } : Shared).heap.objs.size = s.heap.objs.size + 1 from Heap.size_push ..]
  rw [List.forIn_nil]
  refine wpAny_bind (wpAny_pure ?_)
  rw [cellsFrom_app]
  obtain ⟨own, NC, Y⟩ := Cl.news (h₀ := s.heap) (h := pushCells (s.heap.push { cls := .type "dict", data := .dict #[] }) scope.names) (cm := fun _ => none) (Nat.le_refl _) (cs := cellsFrom (s.heap.objs.size + 1) scope.names []) fun n c hm => ok.empty n c hm
  refine wpAny_pure (h _ own ((Heap.Ns.new s.heap (.type "dict")).keeps (pushCells_keeps _ _)) (fun b o e => pushCells_keeps _ _ b o (Heap.get?_push_of_some _ e)) Y (fun p hp => ⟨(NC p hp).1, ?_⟩) ?_)
  · have : p.1 ∈ own.map (·.1) := List.mem_map.mpr ⟨p, hp, rfl⟩
    rw [CellsAre.fst Y] at this
    obtain ⟨q, hq, e⟩ := List.mem_map.mp this
    rw [← e]; exact (ok.empty q.1 q.2 hq).2
  · rw [CellsAre.fst Y]; exact List.pairwise_map.mpr ok.apart
/-- back out of the frame of a comprehension -/
theorem St.back {g h h' : Heap} {C : Addr} {m m' : Str → Option Value} {news : List (Addr × Obj)} (FG : Fr h₀ L g m) (st : h₀.StaysIn g) (hL : 1 < L) (S : St g C m' news h) (hs : Heap.SameBut C h h') : St h₀ L m news h' := by
  have hC : ∀ b o, g.get? b = some o → b ≠ C := fun b o e q => absurd (Nat.lt_of_lt_of_le (Heap.lt_size e) S.F.above) (by rw [q]; exact Nat.lt_irrefl _)
  obtain ⟨a, b⟩ := backS (news' := news) FG st (h' := h') (fun b o e => (hs.2 b (hC b o e)).trans (S.F.keep b o e)) (fun p hp => ⟨(hs.2 p.1 (S.N p hp).2.1).trans (S.N p hp).1, (S.N p hp).2.2⟩)
  exact ⟨a, b, S.D, hL, S.low.2⟩

def Tests (w : World) (A : Around) (ifs : List PySem.Expr) (env : Env) (Q : Bool → Shared → Prop) (s : Shared) : Prop :=
  wpAny (model PP w) A (forIn ifs true fun c r => if r = true then do let ok ← isTrue c env (eval c env); pure (ForInStep.yield ok) else pure (ForInStep.yield r)) Q (fun _ _ => False) s

/-- the loop of one clause, the last: what it fills -/
structure CompTurn (w : World) (A : Around) (cenv : Env) (C D I : Addr) (N : Nat) (P : Nat → Obj → Prop) (val : Nat → Value → Prop) (R : List (Addr × Obj) → Prop) (target : PySem.Expr) (ifs : List PySem.Expr) (elt : PySem.Expr) (g : Heap) (s₂ : Shared)
    (Inv : Nat → List Value → List (Addr × Obj) → Prop) : Prop where
  r : ∀ k outs l x, Inv k outs l → R (x :: l)
  b : ∀ k outs l, Inv k outs l → outs.length ≤ 1000000
  step : ∀ k outs l v o c mk s', k < N → val k v → Inv k outs l → P (k + 1) o → Rest s₂ s' → St g C mk ((I, o) :: (D, lst outs c) :: l) s'.heap →
    wpAny (model PP w) A (assign target cenv v) (fun _ s₃ => Tests w A ifs cenv (fun ok s₄ => if ok = true then wpAny (model PP w) A (eval elt cenv) (fun x s₅ =>
        ∃ m' l', Rest s₂ s₅ ∧ St g C m' ((I, o) :: (D, lst outs c) :: l') s₅.heap ∧ Inv (k + 1) (outs ++ [x]) l') (fun _ _ => False) s₄
      else ∃ m' l', Rest s₂ s₄ ∧ St g C m' ((I, o) :: (D, lst outs c) :: l') s₄.heap ∧ Inv (k + 1) outs l') s₃) (fun _ _ => False) s'

/-- the text of a turn at the last clause -/
def TurnIs (elt target iter : PySem.Expr) (ifs : List PySem.Expr) (e : PySem.Expr) (dep : Nat) : Prop := ∀ (it acc : Value) (env : Env), compTurn e dep it acc env = (do
      standAt iter.pos
      match ← pyNext it with
      | none => pure (.done .next)
      | some v =>
        letOwnedTupleGo target it v
        assign target env v
        let mut ok := true
        for c in ifs do
          if ok then ok ← isTrue c env (eval c env)
        if ok then
          (do let _ ← call (.builtin "list.append") [acc, ← eval elt env])
        again (.compLoop e dep it acc env))
theorem compLoopG {elt target iter : PySem.Expr} {ifs : List PySem.Expr} {gens : List Comprehension} {dep : Nat} {scope : Scope} {pos : Pos} {cenv : Env} {C D I : Addr} {N : Nat} {P : Nat → Obj → Prop} {val : Nat → Value → Prop} {R : List (Addr × Obj) → Prop} {g : Heap} {s₂ : Shared}
    {Inv : Nat → List Value → List (Addr × Obj) → Prop} {RR : Result → Shared → Prop} (heq : TurnIs elt target iter ifs (.ListComp elt gens scope pos) dep) (hh : A.handled = none) (W : IterX w I N P val R) (T : CompTurn w A cenv C D I N P val R target ifs elt g s₂ Inv)
    {outs : List Value} {l : List (Addr × Obj)} {o : Obj} {c : Nat} {mk : Str → Option Value} (S : St g C mk ((I, o) :: (D, lst outs c) :: l) s.heap) (hP : P 0 o) (hI : Inv 0 outs l) (hr : Rest s₂ s)
    (done : ∀ outs l c mk s', Rest s₂ s' → St g C mk ((D, lst outs c) :: l) s'.heap → Inv N outs l → RR (.ok .next) s') :
    codeAny (model PP w) A (.compLoop (.ListComp elt gens scope pos) dep (.ref I) (.ref D) cenv) RR s := by
  refine codeAny_loop rfl (fun n s' => ∃ k outs l c mk o, n = N - k ∧ k ≤ N ∧ P k o ∧ Rest s₂ s' ∧ Inv k outs l ∧ St g C mk ((I, o) :: (D, lst outs c) :: l) s'.heap) (fun n s' hi => ?_) N ⟨0, outs, l, c, mk, o, rfl, Nat.zero_le _, hP, hr, hI, S⟩
  obtain ⟨k, outs, l, c, mk, o, rfl, hkN, hP, hr, hI, S⟩ := hi
  show wpAny _ A ((compTurn (.ListComp elt gens scope pos) dep (.ref I) (.ref D) cenv).onRaise (fun x => do noteFrame x cenv; theTreesLotGoes x)) _ _ s'
  refine wpAny_noted ?_
  rw [heq]
  refine wpAny_bind (wpAny_standAt (wpAny_bind ?_))
  by_cases hlt : k < N
  · refine W.item hh S hP (T.r _ _ _ _ hI) hlt fun v o' s₁ hr₁ S₁ hP₁ hv => ?_
    refine wpAny_bind (W.go S₁ hP₁ ?_)
    refine wpAny_bind (wpAny_mono (T.step k outs l v o' c mk s₁ hlt hv hI hP₁ (hr.trans hr₁) S₁) (fun _ s₃ h₃ => wpAny_bind (wpAny_mono h₃ (fun ok s₄ h₄ => ?_) fun _ _ e => e.elim)) fun _ _ e => e.elim)
    cases ok with
    | false =>
      rw [if_neg Bool.false_ne_true] at h₄
      obtain ⟨m', l', hr₄, S₄, hI₄⟩ := h₄
      exact wpAny_pure ⟨rfl, N - (k + 1), by omega, k + 1, outs, l', c, m', o', rfl, hlt, hP₁, hr₄, hI₄, S₄⟩
    | true =>
      rw [if_pos rfl] at h₄
      refine wpAny_bind (wpAny_bind (wpAny_mono h₄ (fun x s₅ h₅ => wpAny_bind ?_) fun _ _ e => e.elim))
      obtain ⟨m', l', hr₅, S₅, hI₅⟩ := h₅
      have hb := T.b _ _ _ hI
      refine appendS (l := D) (vs := outs) (n := c) (l₀ := [(D, lst outs c)]) List.mem_cons_self S₅ (List.mem_cons_of_mem _ List.mem_cons_self) hb fun s₆ hr₆ S₆ _ => wpAny_pure (wpAny_pure ⟨rfl, N - (k + 1), by omega, k + 1, outs ++ [x], l', c + 1, m', o', rfl, hlt, hP₁, hr₅.trans hr₆, hI₅, St.put_at (pre := [(_, _)]) S₆⟩)
  · have : k = N := by omega
    subst this
    refine W.done hh S hP (T.r _ _ _ _ hI) fun s₁ hr₁ S₁ => ?_
    exact wpAny_pure (done outs l c mk s₁ (hr.trans hr₁) S₁ hI)

theorem turn1 (elt target iter : PySem.Expr) (ifs : List PySem.Expr) (scope : Scope) (pos : Pos) : TurnIs elt target iter ifs (.ListComp elt [⟨target, iter, ifs, 0⟩] scope pos) 0 := fun it acc env => compTurn_list elt target iter ifs scope pos it acc env
theorem turn2 (elt target iter : PySem.Expr) (ifs : List PySem.Expr) (c0 : Comprehension) (scope : Scope) (pos : Pos) : TurnIs elt target iter ifs (.ListComp elt [c0, ⟨target, iter, ifs, 0⟩] scope pos) 1 := fun it acc env => by rfl
theorem turn20 (elt target iter t1 i1 : PySem.Expr) (ifs1 : List PySem.Expr) (scope : Scope) (pos : Pos) (it acc : Value) (env : Env) : compTurn (.ListComp elt [⟨target, iter, [], 0⟩, ⟨t1, i1, ifs1, 0⟩] scope pos) 0 it acc env = (do
      standAt iter.pos
      match ← pyNext it with
      | none => pure (.done .next)
      | some v =>
        letOwnedTupleGo target it v
        assign target env v
        let mut ok := true
        for c in ([] : List PySem.Expr) do
          if ok then ok ← isTrue c env (eval c env)
        if ok then
          let x ← eval i1 env
          standAt i1.pos
          let x ← foldedSetIterable i1 env x
          let _ ← runOwn (.compStart (.ListComp elt [⟨target, iter, [], 0⟩, ⟨t1, i1, ifs1, 0⟩] scope pos) 1 (← holding [x] (pyIter x)) acc env) env
        again (.compLoop (.ListComp elt [⟨target, iter, [], 0⟩, ⟨t1, i1, ifs1, 0⟩] scope pos) 0 it acc env)) := by rfl
theorem compStart_at {elt : PySem.Expr} {gens : List Comprehension} {dep : Nat} {scope : Scope} {pos : Pos} {it acc : Value} {env : Env} {R : Result → Shared → Prop} (ha : (gens[dep]?).elim false (·.is_async != 0) = false)
    (h0 : codeAny (model PP w) A (.compLoop (.ListComp elt gens scope pos) dep it acc env) R s)
    (h : wpAny (model PP w) A (pyIter it) (fun it' s' => codeAny (model PP w) A (.compLoop (.ListComp elt gens scope pos) dep it' acc env) R s') (fun _ _ => False) s) :
    codeAny (model PP w) A (.compStart (.ListComp elt gens scope pos) dep it acc env) R s := by
  refine codeAny_of_tree ?_
  show wpAny _ _ ((compStart (.ListComp elt gens scope pos) dep it acc env).onRaise (fun x => do noteFrame x env; standAt theWindowsPlace)) _ _ s
  refine wpAny_notedAt ?_
  unfold compStart
  rw [show clausesOf (.ListComp elt gens scope pos) = gens from rfl, ha]
  show wpAny _ _ (ask >>= _) _ _ s
  refine wpAny_bind (wpAny_askSetting (wpAny_ite ?_))
  have hlp : wpAny (model PP w) A (pyIter it >>= fun it' => again (.compLoop (.ListComp elt gens scope pos) dep it' acc env)) (fun fin s' => match fin with | .done f => R (.ok f) s' | .again c' => c'.quiet = true ∧ codeAny (model PP w) A c' R s') (notedBy (model PP w) A env fun e s' => R (.error e) s') s :=
    wpAny_bind (wpAny_mono h (fun it' s' h' => wpAny_pure (And.intro rfl h')) fun _ _ x => x.elim)
  split
  · first
      | exact wpAny_bind (wpAny_pure (wpAny_pure (And.intro rfl h0)))
      | exact wpAny_pure (And.intro rfl h0)
  · refine wpAny_bind (wpAny_rule ?_)
    cases gens[dep]? with
    | none => exact hlp
    | some g => exact wpAny_bind (wpAny_standAt hlp)
/-- into a comprehension: the frame -/
theorem compIn {elt : PySem.Expr} {gens : List Comprehension} {target iter : PySem.Expr} {ifs : List PySem.Expr} {scope : Scope} {pos : Pos} {clo : List (Str × Addr)} {cn : List Str} {Q : Value → Shared → Prop} {m : Str → Option Value}
    (C : Cx w A env L h₀) {news₀ : List (Addr × Obj)} (_S : St h₀ L m news₀ s.heap) (hclos : closureFor scope env = pure clo) (hcn : (cellsFrom 0 scope.names []).map (·.1) = cn) (hnd : cn.Nodup) (hkind : scope.kind = .function) (hnames : ∀ x ∈ scope.names, x.2 = .local → scope.names.lookup x.1 = some .local)
    (h : wpAny (model PP w) A (eval iter env) (fun xv s₁ => wpAny (model PP w) A (pyIter xv) (fun it s₂ => ∃ news, St h₀ L m news s₂.heap ∧
      ∀ g CL D cs own s₄, cs.map (·.1) = cn → CellsAre (fun _ => none) cs own → Rest s₂ s₄ → Fr h₀ L g m → h₀.StaysIn g → Cx w A (cEnv scope (cs ++ clo) CL env) CL g → St g CL (fun _ => none) (own ++ (D, lst [] 0) :: news) s₄.heap → (∀ p ∈ news, p.1 < D) → (∀ p ∈ own, D < p.1) →
        codeAny (model PP w) A (.compStart (.ListComp elt (⟨target, iter, ifs, 0⟩ :: gens) scope pos) 0 it (.ref D) (cEnv scope (cs ++ clo) CL env))
          (fun r s' => r = .ok .next ∧ ∃ mk l, St g CL mk l s'.heap ∧ ∀ s'', Rest s' s'' → St h₀ L m l s''.heap → Q (.ref D) s'') s₄) E s₁) E s)
    (hs : ∀ x, foldedSetIterable iter env x = pure x := by intro _; rfl) :
    wpAny (model PP w) A (eval (.ListComp elt (⟨target, iter, ifs, 0⟩ :: gens) scope pos) env) Q E s := by
  rw [eval_ListComp]
  refine wpAny_comprehension_free (use := none) rfl hs hclos hkind hnames (wpAny_mono h (fun xv s₁ h₁ => wpAny_mono h₁ (fun it s₂ h₂ => ?_) fun _ _ e => e) fun _ _ e => e)
  obtain ⟨news, S, k⟩ := h₂
  refine listS S fun D s₃ hr₃ S₃ hab => ?_
  obtain ⟨mean, mg, mb, T⟩ := C.T
  obtain ⟨FG, st⟩ := hideS S₃
  have T' := T.keeps st
  have X' := C.X.keeps st
  refine newCompEnv (by rw [hcn]; exact hnd) fun h₄ own hns hk₄ Y hown hond => ?_
  have Fg : Fr (hideAll s₃.heap (((D, lst [] 0) :: news).map (·.1))) s₃.heap.objs.size h₄ (fun _ => none) := ⟨hns, fun b o e => hk₄ b o (of_hideAll _ e), Nat.le_of_eq (hideAll_size _ _)⟩
  have lo : 1 < s₃.heap.objs.size := Nat.lt_of_lt_of_le (modules_low T'.nolimit) Fg.above
  have hDlt := S₃.lt _ List.mem_cons_self
  have S₄ : St (hideAll s₃.heap (((D, lst [] 0) :: news).map (·.1))) s₃.heap.objs.size (fun _ => none) (own ++ (D, lst [] 0) :: news) h₄ := by
    refine ⟨Fg, fun p hp => ?_, ?_, lo, fun p hp => ?_⟩
    · rcases List.mem_append.mp hp with hp | hp
      · obtain ⟨h1, h2⟩ := hown p hp
        refine ⟨h1, Nat.ne_of_gt h2, ?_⟩
        exact Heap.get?_none_of_le (by rw [hideAll_size]; exact Nat.le_of_lt h2)
      · exact ⟨hk₄ _ _ (S₃.N p hp).1, Nat.ne_of_lt (Heap.lt_size (S₃.N p hp).1), hideAll_none _ (List.mem_map_of_mem hp)⟩
    · rw [List.map_append, List.nodup_append]
      refine ⟨hond, S₃.D, fun a ha b hb e => ?_⟩
      obtain ⟨p, hp, rfl⟩ := List.mem_map.mp ha
      obtain ⟨q, hq, rfl⟩ := List.mem_map.mp hb
      exact absurd (Nat.lt_trans (S₃.lt q hq) (hown p hp).2) (by rw [e]; exact Nat.lt_irrefl _)
    · rcases List.mem_append.mp hp with hp | hp
      · exact Nat.lt_trans lo (hown p hp).2
      · exact S₃.low.2 p hp
  have := k _ s₃.heap.objs.size D (cellsFrom (s₃.heap.objs.size + 1) scope.names []) own { s₃ with heap := h₄ } (cells_names hcn _) Y (Rest.comp hr₃ (Rest.refl _)) FG st
    ⟨X', ⟨mean, mg, mb, T'⟩, C.hh, hkind, rfl⟩ S₄ (fun p hp => hab p hp) (fun p hp => Nat.lt_trans hDlt (hown p hp).2)
  refine codeAny_mono this fun r s' hx => ?_
  obtain ⟨rfl, mk, l, S', hq⟩ := hx
  exact ⟨mk, S'.F.ns, fun h' hs' => hq { s' with heap := h' } ⟨rfl, rfl⟩ (S'.back FG st S.low.1 hs')⟩

/-- a comprehension of one clause -/
theorem compS {elt : PySem.Expr} {target iter : PySem.Expr} {ifs : List PySem.Expr} {scope : Scope} {pos : Pos} {clo : List (Str × Addr)} {cn : List Str} {Q : Value → Shared → Prop} {m : Str → Option Value}
    (C : Cx w A env L h₀) {news₀ : List (Addr × Obj)} (_S : St h₀ L m news₀ s.heap) (hclos : closureFor scope env = pure clo) (hcn : (cellsFrom 0 scope.names []).map (·.1) = cn) (hnd : cn.Nodup) (hkind : scope.kind = .function) (hnames : ∀ x ∈ scope.names, x.2 = .local → scope.names.lookup x.1 = some .local)
    (h : wpAny (model PP w) A (eval iter env) (fun xv s₁ => wpAny (model PP w) A (pyIter xv) (fun it s₂ => ∃ I o N P val R news, it = .ref I ∧ IterX w I N P val R ∧ St h₀ L m ((I, o) :: news) s₂.heap ∧ P 0 o ∧
      ∀ g CL D cs own, cs.map (·.1) = cn → CellsAre (fun _ => none) cs own → Cx w A (cEnv scope (cs ++ clo) CL env) CL g → (∀ p ∈ news, p.1 < D) → I < D → (∀ p ∈ own, D < p.1) →
        ∃ Inv, Inv 0 [] (own ++ news) ∧ CompTurn w A (cEnv scope (cs ++ clo) CL env) CL D I N P val R target ifs elt g s₂ Inv ∧
        ∀ outs l c s', Inv N outs l → Rest s₂ s' → St h₀ L m ((D, lst outs c) :: l) s'.heap → Q (.ref D) s') E s₁) E s)
    (hs : ∀ x, foldedSetIterable iter env x = pure x := by intro _; rfl) :
    wpAny (model PP w) A (eval (.ListComp elt [⟨target, iter, ifs, 0⟩] scope pos) env) Q E s := by
  refine compIn C _S hclos hcn hnd hkind hnames (wpAny_mono h (fun xv s₁ h₁ => wpAny_mono h₁ (fun it s₂ h₂ => ?_) fun _ _ e => e) fun _ _ e => e) hs
  obtain ⟨I, o, N, P, val, R, news, rfl, W, S, hP, k⟩ := h₂
  refine ⟨(I, o) :: news, S, fun g CL D cs own s₄ hcs Y hr₄ FG st C₄ S₄ hab hown => ?_⟩
  obtain ⟨Inv, hI, T, done⟩ := k g CL D cs own hcs Y C₄ (fun p hp => hab p (.tail _ hp)) (hab _ (.head _)) hown
  have S₅ : St g CL (fun _ => none) ((I, o) :: (D, lst [] 0) :: (own ++ news)) s₄.heap := S₄.perm ((List.perm_append_comm_assoc own [(D, lst [] 0), (I, o)] news).trans (List.Perm.swap _ _ _))
  have loop := compLoopG (elt := elt) (iter := iter) (scope := scope) (pos := pos) (RR := fun r s' => r = .ok .next ∧ ∃ mk l, St g CL mk l s'.heap ∧ ∀ s'', Rest s' s'' → St h₀ L m l s''.heap → Q (.ref D) s'') (turn1 _ _ _ _ _ _) C.hh W T S₅ hP hI hr₄
    (fun outs l c mk s' hr S' hI' => ⟨rfl, mk, _, S', fun s'' hr'' S'' => done outs l c s'' hI' (hr.trans hr'') S''⟩)
  exact codeAny_compStart_list loop (W.self S₅ hP loop)
/-- a comprehension of two clauses -/
theorem comp2S {elt : PySem.Expr} {target iter t1 i1 : PySem.Expr} {ifs1 : List PySem.Expr} {scope : Scope} {pos : Pos} {clo : List (Str × Addr)} {cn : List Str} {Q : Value → Shared → Prop} {m : Str → Option Value}
    (C : Cx w A env L h₀) {news₀ : List (Addr × Obj)} (_S : St h₀ L m news₀ s.heap) (hclos : closureFor scope env = pure clo) (hcn : (cellsFrom 0 scope.names []).map (·.1) = cn) (hnd : cn.Nodup) (hkind : scope.kind = .function) (hnames : ∀ x ∈ scope.names, x.2 = .local → scope.names.lookup x.1 = some .local)
    (h : wpAny (model PP w) A (eval iter env) (fun xv s₁ => wpAny (model PP w) A (pyIter xv) (fun it s₂ => ∃ I o N P val R news, it = .ref I ∧ IterX w I N P val R ∧ St h₀ L m ((I, o) :: news) s₂.heap ∧ P 0 o ∧
      ∀ g CL D cs own, cs.map (·.1) = cn → CellsAre (fun _ => none) cs own → Cx w A (cEnv scope (cs ++ clo) CL env) CL g → (∀ p ∈ news, p.1 < D) → I < D → (∀ p ∈ own, D < p.1) →
        ∃ Inv : Nat → List Value → List (Addr × Obj) → Prop, Inv 0 [] (own ++ news) ∧ (∀ k outs l x, Inv k outs l → R (x :: l)) ∧
        (∀ k outs l v o' c mk s', k < N → val k v → Inv k outs l → P (k + 1) o' → Rest s₂ s' → St g CL mk ((I, o') :: (D, lst outs c) :: l) s'.heap →
          wpAny (model PP w) A (assign target (cEnv scope (cs ++ clo) CL env) v) (fun _ s₃ => wpAny (model PP w) A (eval i1 (cEnv scope (cs ++ clo) CL env)) (fun xv1 s₄ => wpAny (model PP w) A (pyIter xv1) (fun it1 s₅ =>
            ∃ I1 o1 N1 P1 val1 R1 m5 l5 Inv1, it1 = .ref I1 ∧ IterX w I1 N1 P1 val1 R1 ∧ Rest s₂ s₅ ∧ St g CL m5 ((I1, o1) :: (D, lst outs c) :: (I, o') :: l5) s₅.heap ∧ P1 0 o1 ∧ Inv1 0 outs ((I, o') :: l5) ∧
              CompTurn w A (cEnv scope (cs ++ clo) CL env) CL D I1 N1 P1 val1 R1 t1 ifs1 elt g s₂ Inv1 ∧ (∀ outs' l', Inv1 N1 outs' l' → ∃ l'', l' = (I, o') :: l'' ∧ Inv (k + 1) outs' l'')) (fun _ _ => False) s₄) (fun _ _ => False) s₃) (fun _ _ => False) s') ∧
        ∀ outs l c s', Inv N outs l → Rest s₂ s' → St h₀ L m ((D, lst outs c) :: l) s'.heap → Q (.ref D) s') E s₁) E s)
    (hs : ∀ x, foldedSetIterable iter env x = pure x := by intro _; rfl) (hs1 : ∀ e x, foldedSetIterable i1 e x = pure x := by intro _ _; rfl) :
    wpAny (model PP w) A (eval (.ListComp elt [⟨target, iter, [], 0⟩, ⟨t1, i1, ifs1, 0⟩] scope pos) env) Q E s := by
  refine compIn C _S hclos hcn hnd hkind hnames (wpAny_mono h (fun xv s₁ h₁ => wpAny_mono h₁ (fun it s₂ h₂ => ?_) fun _ _ e => e) fun _ _ e => e) hs
  obtain ⟨I, o, N, P, val, R, news, rfl, W, S, hP, k⟩ := h₂
  refine ⟨(I, o) :: news, S, fun g CL D cs own s₄ hcs Y hr₄ FG st C₄ S₄ hab hown => ?_⟩
  obtain ⟨Inv, hI, hR, step, done⟩ := k g CL D cs own hcs Y C₄ (fun p hp => hab p (.tail _ hp)) (hab _ (.head _)) hown
  have S₅ : St g CL (fun _ => none) ((I, o) :: (D, lst [] 0) :: (own ++ news)) s₄.heap := S₄.perm ((List.perm_append_comm_assoc own [(D, lst [] 0), (I, o)] news).trans (List.Perm.swap _ _ _))
  generalize cEnv scope (cs ++ clo) CL env = cenv at C₄ step ⊢
  have loop : codeAny (model PP w) A (.compLoop (.ListComp elt [⟨target, iter, [], 0⟩, ⟨t1, i1, ifs1, 0⟩] scope pos) 0 (.ref I) (.ref D) cenv) (fun r s' => r = .ok .next ∧ ∃ mk l, St g CL mk l s'.heap ∧ ∀ s'', Rest s' s'' → St h₀ L m l s''.heap → Q (.ref D) s'') s₄ := by
    refine codeAny_loop rfl (fun n s' => ∃ k outs l c mk o, n = N - k ∧ k ≤ N ∧ P k o ∧ Rest s₂ s' ∧ Inv k outs l ∧ St g CL mk ((I, o) :: (D, lst outs c) :: l) s'.heap) (fun n s' hi => ?_) N ⟨0, [], own ++ news, 0, _, o, rfl, Nat.zero_le _, hP, hr₄, hI, S₅⟩
    obtain ⟨k, outs, l, c, mk, o, rfl, hkN, hP, hr, hI, S⟩ := hi
    show wpAny _ A ((compTurn (.ListComp elt [⟨target, iter, [], 0⟩, ⟨t1, i1, ifs1, 0⟩] scope pos) 0 (.ref I) (.ref D) cenv).onRaise (fun x => do noteFrame x cenv; theTreesLotGoes x)) _ _ s'
    refine wpAny_noted ?_
    rw [turn20]
    refine wpAny_bind (wpAny_standAt (wpAny_bind ?_))
    by_cases hlt : k < N
    · refine W.item C₄.hh S hP (hR _ _ _ _ hI) hlt fun v o' s₁ hr₁ S₁ hP₁ hv => ?_
      refine wpAny_bind (W.go S₁ hP₁ ?_)
      refine wpAny_bind (wpAny_mono (step k outs l v o' c mk s₁ hlt hv hI hP₁ (hr.trans hr₁) S₁) (fun _ s₃ h₃ => ?_) fun _ _ e => e.elim)
      refine wpAny_bind (wpAny_pure ?_)
      rw [if_pos rfl]
      refine wpAny_bind (wpAny_mono h₃ (fun xv1 s₄ h₄ => wpAny_bind (wpAny_standAt (wpAny_bind (wpAny_of_eq (hs1 cenv xv1) (wpAny_bind (wpAny_holding (wpAny_mono h₄ (fun it1 s₅ h₅ => ?_) fun _ _ e => e.elim))))))) fun _ _ e => e.elim)
      obtain ⟨I1, o1, N1, P1, val1, R1, m5, l5, Inv1, rfl, W1, hr₅, S₅, hP1, hI1, T1, out⟩ := h₅
      have lp := compLoopG (elt := elt) (iter := i1) (scope := scope) (pos := pos) (RR := fun r s' => r = .ok .next ∧ ∃ mk outs' l'' c', Rest s₂ s' ∧ St g CL mk ((I, o') :: (D, lst outs' c') :: l'') s'.heap ∧ Inv (k + 1) outs' l'') (turn2 elt t1 i1 ifs1 ⟨target, iter, [], 0⟩ scope pos) C₄.hh W1 T1 S₅ hP1 hI1 hr₅
        (fun outs' l' c' mk' s' hr' S' hI' => by
          obtain ⟨l'', rfl, hI''⟩ := out outs' l' hI'
          exact ⟨rfl, mk', outs', l'', c', hr', S'.perm (List.Perm.swap _ _ _), hI''⟩)
      refine wpAny_bind ?_
      unfold runOwn
      refine wpAny_onRaise (wpAny_run ?_)
      refine codeAny_mono (compStart_at rfl lp (W1.self S₅ hP1 lp)) fun r s' hx => ?_
      obtain ⟨rfl, mk', outs', l'', c', hr', S', hI'⟩ := hx
      exact wpAny_pure ⟨rfl, N - (k + 1), by omega, k + 1, outs', l'', c', mk', o', rfl, hlt, hP₁, hr', hI', S'⟩
    · have : k = N := by omega
      subst this
      refine W.done C₄.hh S hP (hR _ _ _ _ hI) fun s₁ hr₁ S₁ => ?_
      exact wpAny_pure ⟨rfl, mk, _, S₁, fun s'' hr'' S'' => done outs l c s'' hI ((hr.trans hr₁).trans hr'') S''⟩
  exact codeAny_compStart_list loop (W.self S₅ hP loop)
end
end Mine
end
section
open PySem PySem.W PySem.Calls PyProof.Rows
set_option maxRecDepth 100000
namespace Mine
section
variable {w : World} {A : Around} {E : Value → Shared → Prop} {s : Shared} {h₀ : Heap} {L l : Addr} {m : Str → Option Value} {news l₀ : List (Addr × Obj)} {vs : List Value} {n : Nat} {k : Int} {u : Tok} {v : Value}
theorem getL {Q : Value → Shared → Prop} (_h0 : (l, lst vs n) ∈ l₀) (S : St h₀ L m news s.heap) (hm : (l, lst vs n) ∈ news) (hx : vs[k.toNat]? = some v) (h0 : 0 ≤ k) (hhi : k < 2 ^ 63) (h : Q v s) :
    wpAny (model PP w) A (getItem (.ref l) (.int k u)) Q E s := wpAny_getItem_list (S.list hm) h0 hhi (by simpa using hx) h
theorem subL {Q : Value → Shared → Prop} {value slice : Expr} (_h0 : (l, lst vs n) ∈ l₀) (S : St h₀ L m news s.heap) (hm : (l, lst vs n) ∈ news) (hx : vs[k.toNat]? = some v) (h0 : 0 ≤ k) (hhi : k < 2 ^ 63) (h : Q v s)
    (hs : subscripted slice false (.ref l) (.int k u) = operate [.ref l, .int k u] (getItem (.ref l) (.int k u)) := by with_unfolding_all rfl) :
    wpAny (model PP w) A (subscriptTail value slice (.ref l) (.int k u)) Q E s :=
  tail_any (S.list hm).typeIs slot_list_getitem.lookup (getL _h0 S hm hx h0 hhi h) hs
theorem setL {Q : Unit → Shared → Prop} {vs' : List Value} (_h0 : (l, lst vs n) ∈ l₀) (S : St h₀ L m news s.heap) (hm : (l, lst vs n) ∈ news) (h0 : 0 ≤ k) (hhi : k < 2 ^ 63) (hk : k < vs.length) (hvs : vs.set k.toNat v = vs')
    (h : ∀ s', Rest s s' → St h₀ L m (put l (lst vs' n) news) s'.heap → (l, lst vs' n) ∈ put l (lst vs' n) news → Q () s') : wpAny (model PP w) A (setItem (.ref l) (.int k u) v) Q E s := by
  subst hvs
  have e : ki_setL vs.toArray.toList k.toNat v = some (vs.set k.toNat v) := by
    have : ∀ (l : List Value) (j : Nat), j < l.length → ki_setL l j v = some (l.set j v) := fun l => by
      induction l with
      | nil => intro j hj; simp at hj
      | cons x r ih =>
        intro j hj
        cases j with
        | zero => rfl
        | succ j => rw [ki_setL, ih j (by simpa using hj)]; rfl
    exact this vs _ (show k.toNat < vs.length by omega)
  refine ki_set (n := n) S.F S.N h0 hhi e (upd_put S.D hm) fun h' F' N' => ?_
  refine h { s with heap := h' } ⟨rfl, rfl⟩ ⟨F', N', put_nodup S.D, S.low.1, fun p hp => ?_⟩ (mem_put_self hm)
  obtain ⟨a, y⟩ := p
  rcases of_mem_put hp with ⟨rfl, rfl⟩ | ⟨_, hq⟩
  · exact (S.low.2 _ hm : 1 < a)
  · exact S.low.2 _ hq
end

section
variable {w : World} {A : Around} {E : Value → Shared → Prop} {s : Shared} {h₀ : Heap} {L l b : Addr} {m : Str → Option Value} {news l₀ l₁ : List (Addr × Obj)} {vs ws : List Value} {n n' : Nat}
theorem addLS {Q : Value → Shared → Prop} (_h0 : (l, lst vs n) ∈ l₀) (_h1 : (b, lst ws n') ∈ l₁) (S : St h₀ L m news s.heap) (hm : (l, lst vs n) ∈ news) (hn : (b, lst ws n') ∈ news) (hz : vs.length + ws.length ≤ 1000000)
    (h : ∀ t s', Rest s s' → St h₀ L m ((t, lst (vs ++ ws) 0) :: news) s'.heap → Above news t → Q (.ref t) s') : wpAny (model PP w) A (binaryOp .Add (.ref l) (.ref b)) Q E s := by
  refine add_lists (hsz := by rw [sizeLine_eq]; omega) S.F S.N (S.list hm) (S.list hn) fun h' F' N' => ?_
  refine h _ { s with heap := h' } ⟨rfl, rfl⟩ ⟨F', N', ?_, S.low.1, fun p hp => ?_⟩ S.lt
  · rw [List.map_cons, List.nodup_cons]
    refine ⟨fun hx => ?_, S.D⟩
    obtain ⟨p, hp, e⟩ := List.mem_map.mp hx
    exact absurd (S.lt p hp) (by rw [e]; exact Nat.lt_irrefl _)
  · rcases List.mem_cons.mp hp with rfl | hp
    · exact Nat.lt_trans S.low.1 S.F.ns.lt
    · exact S.low.2 p hp
end
/-! a loop with any target -/
def LoopX (w : World) (A : Around) (env : Env) (L : Addr) (h₀ : Heap) (target : Expr) (body : List Stmt) (Q : Flow → Shared → Prop) (E : Value → Shared → Prop) (s₂ : Shared) (it : Value) : Prop :=
  ∃ (I : Addr) (o : Obj) (N : Nat) (P : Nat → Obj → Prop) (val : Nat → Value → Prop) (R : List (Addr × Obj) → Prop) (xs : List Str) (m base : Str → Option Value) (news : List (Addr × Obj))
    (Inv : Nat → (Str → Option Value) → List (Addr × Obj) → Array GenState → OsState → Prop),
    it = .ref I ∧ IterX w I N P val R ∧ St h₀ L m ((I, o) :: news) s₂.heap ∧ Agree xs m base ∧ P 0 o ∧ Inv 0 base news s₂.gens s₂.os ∧ (∀ k m news g q, Inv k m news g q → R news) ∧
    (∀ k v F base news o s', k < N → val k v → Inv k base news s'.gens s'.os → P (k + 1) o → St h₀ L (ovr xs F base) ((I, o) :: news) s'.heap →
      wpAny (model PP w) A (assign target env v) (fun _ s₁ => wpAny (model PP w) A (execs body env) (fun fl s₃ => match fl with
        | .next | .cont => ∃ m' base' news', St h₀ L m' ((I, o) :: news') s₃.heap ∧ Agree xs m' base' ∧ Inv (k + 1) base' news' s₃.gens s₃.os
        | .brk => Q .next s₃
        | .ret v => Q (.ret v) s₃) E s₁) E s') ∧
    ∀ F base news s', Inv N base news s'.gens s'.os → St h₀ L (ovr xs F base) news s'.heap → Q .next s'
theorem forXE {w : World} {A : Around} {E : Value → Shared → Prop} {s : Shared} {h₀ : Heap} {env : Env} {L : Addr} {target iter : Expr} {pos : Pos} {body : List Stmt} {Q : Flow → Shared → Prop} {E' : Value → Shared → Prop} (hE : ∀ e s', E' e s' → notedBy (model PP w) A env (cameBackBy (model PP w) A env E) e s')
    (hh : A.handled = none) (h : wpAny (model PP w) A (eval iter env) (fun xv s₁ => wpAny (model PP w) A (pyIter xv) (fun it s₂ => LoopX w A env L h₀ target body Q E' s₂ it) E s₁) E s)
    (hs : ∀ x, foldedSetIterable iter env x = pure x := by intro _; rfl) :
    wpAny (model PP w) A (exec (.For target iter body [] pos) env) Q E s := by
  refine wpAny_For (wpAny_mono h (fun xv s₁ h₁ => wpAny_mono h₁ (fun it s₂ h₂ => ?_) fun _ _ e => e) fun _ _ e => e) hs
  obtain ⟨I, o, N, P, val, R, xs, m, base, news, Inv, rfl, W, S, hm, hP, hI, hR, step, done⟩ := h₂
  refine codeAny_forLoop_any (fun n s' => ∃ k m base news o, n = N - k ∧ k ≤ N ∧ P k o ∧ Inv k base news s'.gens s'.os ∧ Agree xs m base ∧ St h₀ L m ((I, o) :: news) s'.heap) (fun n s' hi => ?_) N ⟨0, m, base, news, o, rfl, Nat.zero_le _, hP, hI, hm, S⟩
  obtain ⟨k, m, base, news, o, rfl, hkN, hP, hI, hm, S⟩ := hi
  by_cases hlt : k < N
  · refine W.item hh S hP (hR _ _ _ _ _ hI) hlt fun v o' s₁ hr S' hP' hv => ?_
    refine W.go S' hP' ?_
    rw [hm.ovr] at S'
    refine wpAny_mono (step k v m base news o' s₁ hlt hv (by rw [hr.1, hr.2]; exact hI) hP' S') (fun _ s₂ h₂ => wpAny_mono h₂ (fun fl s₃ h₃ => ?_) hE) hE
    cases fl with
    | next => obtain ⟨m', base', news', S₃, a₃, hI₃⟩ := h₃; exact ⟨N - (k + 1), by omega, k + 1, m', base', news', o', rfl, hlt, hP', hI₃, a₃, S₃⟩
    | cont => obtain ⟨m', base', news', S₃, a₃, hI₃⟩ := h₃; exact ⟨N - (k + 1), by omega, k + 1, m', base', news', o', rfl, hlt, hP', hI₃, a₃, S₃⟩
    | brk => exact h₃
    | ret v => exact h₃
  · have : k = N := by omega
    subst this
    refine W.done hh S hP (hR _ _ _ _ _ hI) fun s₁ hr S' => ?_
    rw [hm.ovr] at S'
    exact wpAny_execs_nil (done m base news s₁ (by rw [hr.1, hr.2]; exact hI) S')
theorem forX {w : World} {A : Around} {E : Value → Shared → Prop} {s : Shared} {h₀ : Heap} {env : Env} {L : Addr} {target iter : Expr} {pos : Pos} {body : List Stmt} {Q : Flow → Shared → Prop}
    (hh : A.handled = none) (h : wpAny (model PP w) A (eval iter env) (fun xv s₁ => wpAny (model PP w) A (pyIter xv) (fun it s₂ => LoopX w A env L h₀ target body Q (fun _ _ => False) s₂ it) E s₁) E s)
    (hs : ∀ x, foldedSetIterable iter env x = pure x := by intro _; rfl) :
    wpAny (model PP w) A (exec (.For target iter body [] pos) env) Q E s := forXE (fun _ _ h => h.elim) hh h hs

section
variable {w : World} {A : Around} {E : Value → Shared → Prop} {s : Shared} {h₀ : Heap} {L r l : Addr} {m : Str → Option Value} {news l₀ : List (Addr × Obj)} {a b : Int} {t u v : Tok} {n : Nat}
abbrev rngO (a b : Int) (t u v : Tok) : Obj := { cls := .type "range", dict := none, data := .fields #[.int a t, .int b u, .int 1 v], slots := #[] }
theorem rangeS1 {Q : Value → Shared → Prop} (S : St h₀ L m news s.heap) (h : ∀ r t u v s', Rest s s' → St h₀ L m ((r, rngO 0 b t u v) :: news) s'.heap → Above news r → Q (.ref r) s') :
    wpAny (model PP w) A (call (.type "range") [.int b t]) Q E s := call_range_1 (h _ _ _ _ { s with heap := _, toks := _ } ⟨rfl, rfl⟩ (S.push _) S.lt)
theorem rangeS2 {Q : Value → Shared → Prop} (S : St h₀ L m news s.heap) (h : ∀ r t u v s', Rest s s' → St h₀ L m ((r, rngO a b t u v) :: news) s'.heap → Above news r → Q (.ref r) s') :
    wpAny (model PP w) A (call (.type "range") [.int a t, .int b u]) Q E s := call_range_2 (h _ _ _ _ { s with heap := _, toks := _ } ⟨rfl, rfl⟩ (S.push _) S.lt)
theorem iter_rng {N : Nat} {Q : Value → Shared → Prop} (S : St h₀ L m news s.heap) (hm : (r, rngO a b t u v) ∈ news) (hab : b = a + N) (ha : 0 ≤ a) (ha2 : a ≤ 100000) (hN : N ≤ 100000)
    (h : ∀ I o s', Rest s s' → St h₀ L m ((I, o) :: news) s'.heap → rangeP a N 0 o → Q (.ref I) s') : wpAny (model PP w) A (pyIter (.ref r)) Q E s := by
  subst hab
  have hsz : Builtin.Range.rangeSize a (a + N) 1 = (N : Int) := by
    unfold Builtin.Range.rangeSize
    rw [if_pos (by decide)]
    split <;> omega
  refine wpAny_pyIter_range (S.get hm) ?_ ?_
  · unfold Builtin.Range.small Builtin.Range.rangeFitsLong
    rw [hsz, if_pos (by decide)]
    simp only [Bool.and_eq_true, Bool.or_eq_true, decide_eq_true_eq, beq_iff_eq]
    omega
  · rw [hsz]
    exact h _ _ { s with heap := _ } ⟨rfl, rfl⟩ (S.push _) (by unfold rangeP; simp)
theorem truthBools (bs : List Bool) : TruthOf PP w A.in1 (fun i v => (bs.map Value.bool).toArray[i]? = some v) (fun i => bs[i]?.getD true) := by
  intro i v s Q E hP hQ
  simp only [List.getElem?_toArray, List.getElem?_map] at hP
  cases e : bs[i]? with
  | none => rw [e] at hP; cases hP
  | some b =>
    rw [e] at hP
    simp only [Option.map_some, Option.some.injEq] at hP
    subst hP
    refine wpAny_truthy_bool ?_
    simp only [e] at hQ; exact hQ
theorem range_all : ∀ (bs : List Bool), (List.range bs.length).all (fun i => bs[i]?.getD true) = bs.all id := fun bs => by
  rw [Bool.eq_iff_iff, List.all_eq_true, List.all_eq_true]
  constructor
  · intro h b hb
    obtain ⟨i, hi, rfl⟩ := List.getElem_of_mem hb
    have := h i (List.mem_range.mpr hi)
    rwa [List.getElem?_eq_getElem hi] at this
  · intro h i hi
    have hi := List.mem_range.mp hi
    rw [List.getElem?_eq_getElem hi]
    exact h _ (List.getElem_mem hi)
theorem range_any : ∀ (bs : List Bool), (List.range bs.length).any (fun i => bs[i]?.getD true) = bs.any id := fun bs => by
  rw [Bool.eq_iff_iff, List.any_eq_true, List.any_eq_true]
  constructor
  · rintro ⟨i, hi, h⟩
    have hi := List.mem_range.mp hi
    rw [List.getElem?_eq_getElem hi] at h
    exact ⟨_, List.getElem_mem hi, h⟩
  · rintro ⟨b, hb, h⟩
    obtain ⟨i, hi, rfl⟩ := List.getElem_of_mem hb
    exact ⟨i, List.mem_range.mpr hi, by rw [List.getElem?_eq_getElem hi]; exact h⟩
theorem allBools {bs : List Bool} {Q : Value → Shared → Prop} (hh : A.handled = none) (_h0 : (l, lst (bs.map .bool) n) ∈ l₀) (S : St h₀ L m news s.heap) (hm : (l, lst (bs.map .bool) n) ∈ news) (h : ∀ s', Rest s s' → St h₀ L m news s'.heap → Q (.bool (bs.all id)) s') :
    wpAny (model PP w) A (call (.builtin "all") [.ref l]) Q E s := by
  have hlt : l < s.heap.objs.size := S.lt _ hm
  have hh1 : A.in1.handled = none := hh
  refine call_all_walk (wpAny_pyIter_list (S.list hm) ⟨s.heap.objs.size, [s.heap.objs.size, l], [s.heap.objs.size], (bs.map Value.bool).toArray.size, fun i v => (bs.map Value.bool).toArray[i]? = some v, fun i h => h.IsListIter s.heap.objs.size l i ∧ h.IsList l (bs.map Value.bool).toArray, fun i => bs[i]?.getD true, rfl, Walks.list hh1 _ _ (Nat.ne_of_lt hlt) _, ⟨⟨_, Heap.get?_push_size _ rfl, rfl, rfl⟩, (S.list hm).push _⟩, truthBools bs, fun h' tk hk => ?_⟩)
  rw [show ((bs.map Value.bool).toArray).size = bs.length by simp, range_all]
  exact h { s with heap := h', toks := tk } ⟨rfl, rfl⟩ ((S.push _).ext_tl fun b o hb e => hk b o (by simp [hb]) e)
theorem anyBools {bs : List Bool} {Q : Value → Shared → Prop} (hh : A.handled = none) (_h0 : (l, lst (bs.map .bool) n) ∈ l₀) (S : St h₀ L m news s.heap) (hm : (l, lst (bs.map .bool) n) ∈ news) (h : ∀ s', Rest s s' → St h₀ L m news s'.heap → Q (.bool (bs.any id)) s') :
    wpAny (model PP w) A (call (.builtin "any") [.ref l]) Q E s := by
  have hlt : l < s.heap.objs.size := S.lt _ hm
  have hh1 : A.in1.handled = none := hh
  refine call_any_walk (wpAny_pyIter_list (S.list hm) ⟨s.heap.objs.size, [s.heap.objs.size, l], [s.heap.objs.size], (bs.map Value.bool).toArray.size, fun i v => (bs.map Value.bool).toArray[i]? = some v, fun i h => h.IsListIter s.heap.objs.size l i ∧ h.IsList l (bs.map Value.bool).toArray, fun i => bs[i]?.getD true, rfl, Walks.list hh1 _ _ (Nat.ne_of_lt hlt) _, ⟨⟨_, Heap.get?_push_size _ rfl, rfl, rfl⟩, (S.list hm).push _⟩, truthBools bs, fun h' tk hk => ?_⟩)
  rw [show ((bs.map Value.bool).toArray).size = bs.length by simp, range_any]
  exact h { s with heap := h', toks := tk } ⟨rfl, rfl⟩ ((S.push _).ext_tl fun b o hb e => hk b o (by simp [hb]) e)
end
end Mine
end
section
open PySem PySem.W PySem.Calls PyProof.Rows
set_option maxRecDepth 100000
namespace Mine
theorem noTabs_K (w : World) : noTabs (hd.heap_39 w.params) = true := by kernel_rfl
theorem law_at (w : World) : nsIn (hd.heap_39 w.params) mainGlobals (Str.ofString "law") = some (some (.ref 341)) := by with_unfolding_all rfl
theorem tab_num (w : World) : tabIn (hd.heap_39 w.params) (Str.ofString "number_connected_components") = some (34, 30) := by with_unfolding_all rfl
theorem tab_col (w : World) : tabIn (hd.heap_39 w.params) (Str.ofString "color") = some (73, 69) := by with_unfolding_all rfl
theorem ghost_thin {h₁ : Heap} {tabs : List (Addr × Addr)} {mean : ExcName → Option Value} {mg mb : Str → Option Value} (hT : TabsAt tabs h₁) (T : Top thinP thinL mean mg mb h₁) : Top thinP thinL mean mg mb (ghostOf h₁ tabs) :=
  let T' := ghost_top hT T
  { g := T'.g, b := T'.b, nolimit := T'.nolimit, nodigits := T'.nodigits
    fn := fun d hd => by simp [recsOf, thinP] at hd
    own := fun d hd => by simp [ownsOf, thinP, ownStep] at hd
    const := fun x d hx => by simp [valOf, thinP, valAt] at hx
    free := fun x h1 h2 h3 h4 h5 => T.free x h1 h2 h3 h4 h5
    builtins := T'.builtins
    tab := fun d hd => by simp [recsOf, thinP] at hd
    bmain := T'.bmain
    seer := fun e => by simp [importsNone, thinP] at e }
/-- entering the law -/
theorem enterTop {w : World} {A : Around} {s : Shared} {f : Addr} {R : Result → Shared → Prop} {mean : ExcName → Option Value} {mg mb : Str → Option Value} {tabs : List (Addr × Addr)}
    {name qual : Str} {params : Arguments} {body : List Stmt} {scope : Scope} {dV kV doc pm cdv ct oc : Value} {an od : Option Addr} {osl : Array (Option Value)} {args : Args} {binds : List (Str × Value)} {cn : List Str}
    (hT : TabsAt tabs s.heap) (hlow : ∀ q ∈ tabs, 1 < q.2) (htn : (tabs.map (·.2)).Nodup) (X : (hd.heap_39 w.params).In s.heap) (T : Top thinP thinL mean mg mb s.heap) (hh : A.handled = none)
    (ho : (hd.heap_39 w.params).lookup f = some ⟨oc, od, .func (fnOf name qual params body scope dV kV doc pm an cdv ct), osl⟩) (hcd : codeIn (hd.heap_39 w.params) cdv qual = true)
    (hbind : BindsTo s (fnOf name qual params body scope dV kV doc pm an cdv ct) args binds)
    (hkind : ∀ n, ∀ x ∈ binds, scope.names.lookup x.1 = some .local ∨ (scope.names.lookup x.1 = some .cell ∧ ((cellsFrom n scope.names []).lookup x.1).isSome = true))
    (hcn : (cellsFrom 0 scope.names []).map (·.1) = cn) (hnd : cn.Nodup)
    (h : ∀ L' s₁ cs cells, Rest s s₁ → Cx w (A.deeper (envX qual scope L' f cdv cs)) (envX qual scope L' f cdv cs) L' (ghostOf s.heap tabs) → cs.map (·.1) = cn →
      CellsAre (bindC (fun x => scope.names.lookup x) binds fun _ => none) cs cells →
      St (ghostOf s.heap tabs) L' (bindL (fun x => scope.names.lookup x) binds fun _ => none) (cells ++ tabNews tabs) s₁.heap → (∀ p ∈ cells, ∀ q ∈ tabNews tabs, q.1 < p.1) →
      wpAny (model PySem.Challenge.pw_bs0017_01 w) (A.deeper (envX qual scope L' f cdv cs)) (execs body (envX qual scope L' f cdv cs))
        (fun fl s' => R (.ok (.ret (match fl with | .ret v => v | _ => .none))) s')
        (fun e s' => wpAny (model PySem.Challenge.pw_bs0017_01 w) (A.deeper (envX qual scope L' f cdv cs)) (leaving (envX qual scope L' f cdv cs) e) (fun _ s'' => R (.error e) s'') (fun e' s'' => R (.error e') s'') s')
        s₁)
    (hroom : A.depth < recursionLimit) (hco : scope.isCoroutine = false := by rfl) (hgen : scope.isGenerator = false := by rfl) (hk : scope.kind = .function := by rfl) :
    codeAny (model PySem.Challenge.pw_bs0017_01 w) A (.call (.ref f) args) R s := by
  refine codeAny_call_function hroom (X _ _ ho) rfl hco hgen rfl (codeRec_of X hcd) (hbind _ _ _ _ ?_)
  refine wpAny_newFunctionEnv_cells hk (hkind _) fun env' he s' x => ?_
  subst he
  have hk₁ := x.toInCall.keep
  have T' := ghost_thin hT T
  have X' : (hd.heap_39 w.params).In (ghostOf s.heap tabs) := ghost_K hT X (noTabs_K w)
  refine ⟨T.nolimit.keeps hk₁, codeAny_func ?_⟩
  obtain ⟨h₁, tk, rfl, _⟩ := x.done
  obtain ⟨cells, NC, Y⟩ := Cl.news (h₀ := s.heap) (Nat.le_refl _) fun n c hm => ⟨x.cell n c (lookup_of_mem_nodup (by show ((cellsFrom (s.heap.objs.size + 1) scope.names []).map (·.1)).Nodup; rw [cells_names hcn]; exact hnd) hm), x.above n c hm⟩
  have F0 : Fr s.heap s.heap.objs.size h₁ _ := ⟨x.toInCall.ns, hk₁, Nat.le_refl _⟩
  have lo : 1 < s.heap.objs.size := modules_low T.nolimit
  have cab : ∀ p ∈ cells, s.heap.objs.size < p.1 := fun p hp => by
    have : p.1 ∈ cells.map (·.1) := List.mem_map.mpr ⟨p, hp, rfl⟩
    rw [CellsAre.fst Y] at this
    obtain ⟨q, hq, e⟩ := List.mem_map.mp this
    rw [← e]; exact x.above q.1 q.2 hq
  have tlt : ∀ q ∈ tabNews tabs, q.1 < s.heap.objs.size := fun q hq => ghost_lt hT F0 q hq
  have hN := ghost_news hT F0 NC
  have hF := ghost_fr hT F0
  have key := h s.heap.objs.size { s with heap := h₁, toks := tk } _ cells ⟨rfl, rfl⟩ ⟨X', ⟨mean, mg, mb, T'⟩, hh, hk, rfl⟩ (cells_names hcn _) Y
    ⟨hF, hN, ?_, lo, fun p hp => ?_⟩ (fun p hp q hq => Nat.lt_trans (tlt q hq) (cab p hp))
  · exact key
  · rw [List.map_append, CellsAre.fst Y, List.nodup_append]
    refine ⟨List.pairwise_map.mpr x.apart, by rw [List.map_map]; exact htn, fun a ha b hb e => ?_⟩
    rw [← CellsAre.fst Y] at ha
    obtain ⟨p, hp, rfl⟩ := List.mem_map.mp ha
    obtain ⟨q, hq, rfl⟩ := List.mem_map.mp hb
    exact absurd (Nat.lt_trans (tlt q hq) (cab p hp)) (by rw [e]; exact Nat.lt_irrefl _)
  · rcases List.mem_append.mp hp with hp | hp
    · exact Nat.lt_trans lo (cab p hp)
    · obtain ⟨r, hr, rfl⟩ := List.mem_map.mp hp
      exact hlow r hr
/-- what stands, but for the code tables -/
theorem old_tabs {h₁ h' : Heap} {tabs : List (Addr × Addr)} (hT : TabsAt tabs h₁) (hk : ∀ b o, (ghostOf h₁ tabs).get? b = some o → h'.get? b = some o) (hg : ∀ q ∈ tabs, ∃ ps, h'.get? q.2 = some (tabObj ps)) : OldK h₁ h' := by
  have out : ∀ b o, b ∉ tabs.map (·.2) → h₁.get? b = some o → h'.get? b = some o := fun b o hb e => hk b o (ghost_ne e hb)
  have inn : ∀ b o, b ∈ tabs.map (·.2) → h₁.get? b = some o → isCodeTable h₁ b ∧ o = tabObj #[] ∧ ∃ ps, h'.get? b = some (tabObj ps) := fun b o hb e => by
    obtain ⟨q, hq, rfl⟩ := List.mem_map.mp hb
    have e2 := (hT q hq).2
    rw [e] at e2
    exact ⟨((hT q hq).1.tab (hT q hq).2).isCodeTable, Option.some.inj e2, hg q hq⟩
  refine ⟨fun b o e => ?_, fun b o e => ?_⟩
  · by_cases hb : b ∈ tabs.map (·.2)
    · obtain ⟨a, rfl, ps, c⟩ := inn b o hb e
      exact .inr (.inl ⟨a, rfl, #[], ps, rfl, by rw [Array.empty_append]; exact c⟩)
    · exact .inl (out b o hb e)
  · by_cases hb : b ∈ tabs.map (·.2)
    · obtain ⟨_, _, ps, c⟩ := inn b o hb e
      exact ⟨_, c⟩
    · exact ⟨o, out b o hb e⟩
end Mine
end
section
open PySem PySem.W PySem.Calls PyProof.Rows
set_option maxRecDepth 100000
namespace Mine

/-! laying out small numbers -/
def genL : Nat → List Nat → List (List Nat)
  | 0, _ => [[]]
  | k + 1, av => [] :: av.flatMap fun x => (genL k (av.filter (· ≠ x))).map (x :: ·)
theorem mem_genL : ∀ (k : Nat) (av H : List Nat), H.length ≤ k → H.Nodup → (∀ x ∈ H, x ∈ av) → H ∈ genL k av
  | 0, av, H, hl, _, _ => by
    cases H with
    | nil => simp [genL]
    | cons a t => simp at hl
  | k + 1, av, H, hl, hn, ha => by
    cases H with
    | nil => simp [genL]
    | cons a t =>
      rw [List.nodup_cons] at hn
      refine List.mem_cons_of_mem _ (List.mem_flatMap.mpr ⟨a, ha a (.head _), List.mem_map.mpr ⟨t, mem_genL k _ t (by simp at hl; exact hl) hn.2 fun x hx => ?_, rfl⟩⟩)
      exact List.mem_filter.mpr ⟨ha x (.tail _ hx), by simp; rintro rfl; exact hn.1 hx⟩
def layOk (mask : Nat) (H : List Nat) : Bool :=
  match SetTable.layClean mask (H.map fun x : Nat => (x : Int)).toArray with
  | none => false
  | some owner =>
    let live := (List.range (mask + 1)).filterMap fun j => (owner.getD j none).map (j, ·)
    (live.map (·.2)).isPerm (List.range H.length) && decide (live.length = H.length) && decide (H.length ≤ mask)
def layB (H : List Nat) : Bool := layOk 7 H && layOk 15 H
theorem layOk_0 : ((genL 4 [1, 2, 3, 4]).all fun t => layB (0 :: t)) = true := by decide +kernel
theorem layOk_1 : ((genL 4 [0, 2, 3, 4]).all fun t => layB (1 :: t)) = true := by decide +kernel
theorem layOk_2 : ((genL 4 [0, 1, 3, 4]).all fun t => layB (2 :: t)) = true := by decide +kernel
theorem layOk_3 : ((genL 4 [0, 1, 2, 4]).all fun t => layB (3 :: t)) = true := by decide +kernel
theorem layOk_4 : ((genL 4 [0, 1, 2, 3]).all fun t => layB (4 :: t)) = true := by decide +kernel
theorem layOk_nil : layB [] = true := by decide +kernel
theorem all_cons_map {a : Nat} {L : List (List Nat)} (f : List Nat → Bool) (h : (L.all fun t => f (a :: t)) = true) : (L.map (a :: ·)).all f = true := by
  rw [List.all_map]; exact h
theorem layOk_all : ((genL 5 [0, 1, 2, 3, 4]).all layB) = true := by
  have e : genL 5 [0, 1, 2, 3, 4] = [] :: ((genL 4 [1, 2, 3, 4]).map (0 :: ·) ++ ((genL 4 [0, 2, 3, 4]).map (1 :: ·) ++ ((genL 4 [0, 1, 3, 4]).map (2 :: ·) ++ ((genL 4 [0, 1, 2, 4]).map (3 :: ·) ++ ((genL 4 [0, 1, 2, 3]).map (4 :: ·) ++ []))))) := by
    rw [genL]; rfl
  rw [e]
  simp only [List.all_cons, List.all_append, List.all_nil, layOk_nil, all_cons_map _ layOk_0, all_cons_map _ layOk_1, all_cons_map _ layOk_2, all_cons_map _ layOk_3, all_cons_map _ layOk_4, Bool.and_self]
theorem layOk_of {H : List Nat} {mask : Nat} (hn : H.Nodup) (hl : ∀ x ∈ H, x < 5) (hm : mask = 7 ∨ mask = 15) : layOk mask H = true := by
  have h5 : H.length ≤ 5 := nodup_lt_length 5 H hn hl
  have h := List.all_eq_true.mp layOk_all H (mem_genL 5 _ H h5 hn fun x hx => by have := hl x hx; simp; omega)
  simp only [layB, Bool.and_eq_true] at h
  rcases hm with rfl | rfl
  · exact h.1
  · exact h.2
theorem laid_of {H : List Nat} {mask finger moves : Nat} {led plain : Bool} (h : layOk mask H = true) : ∃ t order, SetTable.laid mask finger moves led plain (H.map fun x : Nat => (x : Int)).toArray = some (t, order) ∧ List.Perm order.toList (List.range H.length) ∧ t.fits H.length = true ∧ t.mask = mask := by
  unfold layOk at h
  cases e : SetTable.layClean mask (H.map fun x : Nat => (x : Int)).toArray with
  | none => rw [e] at h; cases h
  | some owner =>
    rw [e] at h
    simp only [Bool.and_eq_true, decide_eq_true_eq] at h
    obtain ⟨⟨h1, h2⟩, h3⟩ := h
    refine ⟨_, _, by unfold SetTable.laid; rw [e]; rfl, ?_, ?_, rfl⟩
    · simpa using List.isPerm_iff.mp h1
    · unfold SetTable.fits SetTable.fill
      simp only [List.size_toArray, List.length_map, Bool.and_eq_true, beq_iff_eq, decide_eq_true_eq]
      exact ⟨h2, by rw [h2]; simpa using h3⟩
/-- the elements laid anew -/
theorem laid_perm {es : Array (Int × Value)} {order : Array Nat} (h : List.Perm order.toList (List.range es.size)) : List.Perm (order.filterMap (es[·]?)).toList es.toList := by
  rw [Array.toList_filterMap]
  exact (h.filterMap _).trans (by rw [filterMap_getElem?_range])

/-! the keys of a set of small numbers -/
theorem hashInt_small {x : Nat} (h : x < 5) : hashInt (x : Int) = (x : Int) := by
  have : x = 0 ∨ x = 1 ∨ x = 2 ∨ x = 3 ∨ x = 4 := by omega
  rcases this with rfl | rfl | rfl | rfl | rfl <;> decide
theorem nodup_sub_len : ∀ (l H : List Nat), l.Nodup → (∀ x ∈ l, x ∈ H) → l.length ≤ H.length
  | [], H, _, _ => by simp
  | a :: l, H, hn, hs => by
    rw [List.nodup_cons] at hn
    obtain ⟨p, q, rfl⟩ := List.append_of_mem (hs a (.head _))
    have := nodup_sub_len l (p ++ q) hn.2 fun x hx => by
      have h1 := hs x (.tail _ hx)
      have hne : x ≠ a := fun e => hn.1 (e ▸ hx)
      simp [hne] at h1 ⊢; exact h1
    simp at this ⊢; omega
theorem nodup_of_cover : ∀ (H l : List Nat), l.Nodup → (∀ x ∈ l, x ∈ H) → H.length ≤ l.length → H.Nodup
  | [], _, _, _, _ => List.nodup_nil
  | a :: t, l, hn, hs, hl => by
    rw [List.nodup_cons]
    refine ⟨fun ha => ?_, nodup_of_cover t (l.erase a) (hn.erase a) (fun x hx => ?_) ?_⟩
    · have := nodup_sub_len l t hn fun x hx => by
        rcases List.mem_cons.mp (hs x hx) with rfl | h
        · exact ha
        · exact h
      simp at hl; omega
    · obtain ⟨h1, h2⟩ := hn.mem_erase_iff.mp hx
      rcases List.mem_cons.mp (hs x h2) with rfl | h
      · exact absurd rfl h1
      · exact h
    · rw [List.length_erase]; simp at hl; split <;> omega

/-- the keys that a set object stores -/
theorem keys_of {w : World} {o : Obj} {l : List Nat} {es : Array (Int × Value)} {ep : Nat} {t : SetTable} (hs : SetIs w o l) (hd : o.data = .set es ep t) (hn : l.Nodup) (hl : ∀ x ∈ l, x < 5) :
    ∃ H : List Nat, es.map (·.1) = (H.map fun x : Nat => (x : Int)).toArray ∧ H.Nodup ∧ (∀ x ∈ H, x < 5) ∧ H.length = es.size := by
  obtain ⟨hex, es', ep', t', hd', hel, hmem, hsz, hf⟩ := hs
  rw [hd] at hd'
  obtain ⟨rfl, rfl, rfl⟩ : es = es' ∧ ep = ep' ∧ t = t' := by injection hd' with a b c; exact ⟨a, b, c⟩
  have key : ∀ e ∈ es.toList, ∃ x ∈ l, e.1 = ((x : Nat) : Int) := fun e he => by
    obtain ⟨⟨k, hk, hh⟩, _⟩ := hel e he
    have hS := (hmem k).mpr ⟨e, he, hk⟩
    obtain ⟨x, hx, rfl⟩ := of_decide_eq_true hS
    refine ⟨x, hx, ?_⟩
    rw [hh]; exact hashInt_small (hl x hx)
  have hH : (es.toList.map fun e => e.1.toNat).map (fun x : Nat => (x : Int)) = es.toList.map (·.1) := by
    rw [List.map_map]
    apply List.map_congr_left
    intro e he
    obtain ⟨x, hx, e1⟩ := key e he
    simp only [Function.comp]; rw [e1]; simp
  refine ⟨es.toList.map fun e => e.1.toNat, ?_, nodup_of_cover _ l hn (fun x hx => ?_) (by simp [hsz]), fun x hx => ?_, by simp⟩
  · rw [hH]; apply Array.ext'; simp
  · have hS : decide (∃ y ∈ l, (y : Int) = (x : Int)) = true := decide_eq_true ⟨x, hx, rfl⟩
    obtain ⟨e, he, hk⟩ := (hmem x).mp hS
    obtain ⟨⟨k, hk', hh⟩, _⟩ := hel e he
    have := (intKind PP w).inj _ _ _ hk hk'
    refine List.mem_map.mpr ⟨e, he, ?_⟩
    rw [hh, ← this]
    have := hashInt_small (hl x hx)
    show (hashInt (x : Int)).toNat = x
    rw [this]; simp
  · obtain ⟨e, he, rfl⟩ := List.mem_map.mp hx
    obtain ⟨y, hy, e1⟩ := key e he
    rw [e1]; simpa using hl y hy

theorem setRelay_eq (a : Addr) (wanted : Nat) : setRelay a wanted = (do
    let (es, _, t) ← setState a
    if SetTable.sizeAbove wanted > sizeLine then unsupported "set:memory"
    let (es, t) ← (do
      let some (t, order) := t.relaid (es.map (·.1)) wanted | unsupported "internal:set-table-without-room"
      let es' := order.filterMap (es[·]?)
      if es'.size != es.size then unsupported "internal:set-table-lost-an-element"
      pure (es', t) : Sem (Array (Int × Value) × SetTable))
    storeSet a es t) := by rfl
section
variable {w : World} {A : Around} {E : Value → Shared → Prop} {s : Shared}
/-- a set object stored anew with the same elements in another order -/
theorem restore {o : Obj} {a : Addr} {l : List Nat} {es es' : Array (Int × Value)} {ep : Nat} {t t' : SetTable} {h : Heap} (ho : h.get? a = some o) (hs : SetIs w o l) (hd : o.data = .set es ep t) (hl : l.length ≤ 1000)
    (hp : List.Perm es'.toList es.toList) (hf : t'.fits es'.size = true) : ∃ o', (h.update a (Obj.putSet es' t')).get? a = some o' ∧ SetIs w o' l ∧ o'.data = .set es' (ep + 1) t' := by
  obtain ⟨hex, es0, ep0, t0, hd0, hel, hmem, hsz, hf0⟩ := hs
  rw [hd] at hd0
  obtain ⟨rfl, rfl, rfl⟩ : es = es0 ∧ ep = ep0 ∧ t = t0 := by injection hd0 with a b c; exact ⟨a, b, c⟩
  have hz : es'.size = es.size := by rw [← Array.length_toList, hp.length_eq, Array.length_toList]
  have hmem' : ∀ k, decide (∃ x ∈ l, (x : Int) = k) = true ↔ ∃ e ∈ es'.toList, (intKind PP w).is k e.2 = true := fun k => (hmem k).trans ⟨fun ⟨e, he, q⟩ => ⟨e, hp.mem_iff.mpr he, q⟩, fun ⟨e, he, q⟩ => ⟨e, hp.mem_iff.mp he, q⟩⟩
  obtain ⟨hg, _⟩ := SetOf_store (knd := intKind PP w) ho hex hd (hel.perm hp) hmem' (by rw [hz, hsz]; unfold scanBound; omega) hf
  exact ⟨_, hg, ⟨hex, es', ep + 1, t', rfl, hel.perm hp, hmem', by rw [hz, hsz], hf⟩, rfl⟩
theorem setRelay_of {a : Addr} {o : Obj} {l : List Nat} {es : Array (Int × Value)} {ep : Nat} {t : SetTable} {wanted : Nat} {Q : Unit → Shared → Prop} (ho : s.heap.get? a = some o) (hs : SetIs w o l) (hd : o.data = .set es ep t) (hn : l.Nodup) (hl : ∀ x ∈ l, x < 5) (hw : wanted ≤ 10)
    (h : ∀ h' o' es' t', Heap.SameBut a s.heap h' → h'.get? a = some o' → SetIs w o' l → o'.data = .set es' (ep + 1) t' → t'.fits es'.size = true → es'.size = es.size → (t'.mask = 7 ∨ t'.mask = 15) → Q () { s with heap := h' }) :
    wpAny (model PP w) A (setRelay a wanted) Q E s := by
  have h5 : l.length ≤ 5 := nodup_lt_length 5 l hn hl
  have hf := (let ⟨_, es0, ep0, t0, hd0, _, _, _, hf0⟩ := hs; (by rw [hd] at hd0; injection hd0 with a b c; rw [a, c]; exact hf0 : t.fits es.size = true))
  have hsz : es.size = l.length := (let ⟨_, es0, ep0, t0, hd0, _, _, hz, _⟩ := hs; (by rw [hd] at hd0; injection hd0 with a b c; rw [a]; exact hz))
  obtain ⟨H, hH, Hn, Hl, Hz⟩ := keys_of hs hd hn hl
  have hsa : SetTable.sizeAbove wanted = 8 ∨ SetTable.sizeAbove wanted = 16 := by
    have : ∀ n, n ≤ 10 → SetTable.sizeAbove n = 8 ∨ SetTable.sizeAbove n = 16 := by decide
    exact this _ hw
  have hmask : SetTable.sizeAbove wanted - 1 = 7 ∨ SetTable.sizeAbove wanted - 1 = 15 := by omega
  obtain ⟨t', order, hlaid, hperm, hfit, hmk⟩ := laid_of (finger := t.finger) (moves := t.movedTo (SetTable.sizeAbove wanted - 1)) (led := t.led) (plain := t.plain) (layOk_of Hn Hl hmask)
  rw [setRelay_eq]
  refine wpAny_bind (wpAny_setState_of ho hd hf ?_)
  dsimp only
  rw [if_neg (by rw [sizeLine_eq]; omega)]
  refine wpAny_bind ?_
  have hr : t.relaid (es.map (·.1)) wanted = some (t', order) := by unfold SetTable.relaid; rw [hH]; exact hlaid
  rw [hr]
  dsimp only
  have hp := laid_perm (es := es) (order := order) (by rw [← Hz]; exact hperm)
  have hz : (order.filterMap (es[·]?)).size = es.size := by rw [← Array.length_toList, hp.length_eq, Array.length_toList]
  have hfit' : t'.fits (order.filterMap (es[·]?)).size = true := by rw [hz, ← Hz]; exact hfit
  obtain ⟨o', ho', hs', hd'⟩ := restore ho hs hd (by omega) hp hfit'
  rw [if_neg (by rw [hz]; simp)]
  refine wpAny_pure ?_
  exact wpAny_storeSet_of ho hd (h _ o' _ t' (Heap.SameBut.update s.heap a _) ho' hs' hd' hfit' hz (by rw [hmk]; exact hmask)) (by rw [hz, hsz, sizeLine_eq]; omega)
end

section
variable {w : World} {A : Around} {E : Value → Shared → Prop} {s : Shared}
theorem setRoomFor_of {a : Addr} {o : Obj} {l : List Nat} {es : Array (Int × Value)} {ep : Nat} {t : SetTable} {k : Nat} {Q : Unit → Shared → Prop} (ho : s.heap.get? a = some o) (hs : SetIs w o l) (hd : o.data = .set es ep t) (hn : l.Nodup) (hl : ∀ x ∈ l, x < 5) (hk : l.length + k ≤ 5)
    (h0 : es.size = 0 → t.mask = 7)
    (h : ∀ h' o' es' ep' t', Heap.SameBut a s.heap h' → h'.get? a = some o' → SetIs w o' l → o'.data = .set es' ep' t' → t'.fits es'.size = true → es'.size = es.size → (es.size = 0 → t'.mask = 7 ∨ t'.mask = 15) → Q () { s with heap := h' }) :
    wpAny (model PP w) A (setRoomFor a k) Q E s := by
  have hf := (let ⟨_, es0, ep0, t0, hd0, _, _, _, hf0⟩ := hs; (by rw [hd] at hd0; injection hd0 with a b c; rw [a, c]; exact hf0 : t.fits es.size = true))
  have hsz : es.size = l.length := (let ⟨_, es0, ep0, t0, hd0, _, _, hz, _⟩ := hs; (by rw [hd] at hd0; injection hd0 with a b c; rw [a]; exact hz))
  have hpl : t.place.size = es.size := by unfold SetTable.fits at hf; simp at hf; exact hf.1
  unfold setRoomFor
  refine wpAny_bind (wpAny_setState_of ho hd hf ?_)
  dsimp only
  unfold SetTable.roomFor
  split
  · rename_i wanted he
    split at he
    · injection he with he
      refine setRelay_of ho hs hd hn hl (by omega) fun h' o' es' t' a1 a2 a3 a4 a5 a6 a7 => h h' o' es' _ t' a1 a2 a3 a4 a5 a6 fun _ => a7
    · cases he
  · exact wpAny_pure (h s.heap o es ep t (Heap.SameBut.refl a s.heap) ho hs hd hf rfl fun e => .inl (h0 e))
end

theorem pickGo_perm {α : Type} (next : Nat → Nat) : ∀ (fuel k : Nat) (left : List α) (out : Array α), left.length ≤ fuel → List.Perm (pickOrder.go next fuel k left out).toList (out.toList ++ left)
  | 0, k, left, out, h => by
    cases left with
    | nil => simp [pickOrder.go]
    | cons a t => simp at h
  | fuel + 1, k, left, out, h => by
    unfold pickOrder.go
    cases hx : left[next k % left.length]? with
    | none =>
      dsimp only
      cases left with
      | nil => simp
      | cons a t => rw [List.getElem?_eq_none_iff] at hx; have := Nat.mod_lt (next k) (show 0 < (a :: t).length by simp); omega
    | some x =>
      dsimp only
      obtain ⟨hi, e⟩ := List.getElem?_eq_some_iff.mp hx
      refine (pickGo_perm next fuel (k + 1) _ _ (by rw [List.length_eraseIdx_of_lt hi]; omega)).trans ?_
      rw [Array.toList_push, List.append_assoc]
      refine List.Perm.append_left _ ?_
      rw [List.singleton_append, ← e]
      rw [List.eraseIdx_eq_take_drop_succ]
      have e2 : left = left.take (next k % left.length) ++ left[next k % left.length] :: left.drop (next k % left.length + 1) := by
        rw [← List.drop_eq_getElem_cons hi, List.take_append_drop]
      exact List.perm_middle.symm.trans (by rw [← e2])
theorem pickOrder_perm {α : Type} (next : Nat → Nat) (xs : Array α) : List.Perm (pickOrder next xs).toList xs.toList := by
  unfold pickOrder
  simpa using pickGo_perm next xs.size 0 xs.toList #[] (by simp)
theorem setWalk_eq (a : Addr) : setWalk a = (do
  let (es, epoch, t) ← setState a
  if ← setsByText then return pickOrder ((← ask).params.setOrder a epoch) es
  if !t.plain && es.size > 1 then return (← drawOrder es.size es.toList).toArray
  (if !t.led && es.size > 1 then unsupported "set:maker-not-led" else pure () : Sem Unit)
  return es) := by rfl
section
variable {w : World} {A : Around} {E : Value → Shared → Prop} {s : Shared}
theorem setsByText_any {Q : Bool → Shared → Prop} (h : Q (w.params.followText "set-order") s) : wpAny (model PP w) A setsByText Q E s := by
  unfold setsByText
  exact wpAny_bind (wpAny_askSetting (wpAny_pure h))
theorem setWalk_of {a : Addr} {o : Obj} {es : Array (Int × Value)} {ep : Nat} {t : SetTable} {Q : Array (Int × Value) → Shared → Prop} (ho : s.heap.get? a = some o) (hd : o.data = .set es ep t) (hf : t.fits es.size = true)
    (hled : w.params.followText "set-order" = true ∨ (t.led = true ∧ t.plain = true) ∨ es.size ≤ 1) (h : ∀ es', List.Perm es'.toList es.toList → Q es' s) : wpAny (model PP w) A (setWalk a) Q E s := by
  rw [setWalk_eq]
  refine wpAny_bind (wpAny_setState_of ho hd hf ?_)
  dsimp only
  refine wpAny_bind (setsByText_any ?_)
  cases hb : w.params.followText "set-order" with
  | true =>
    rw [if_pos rfl]
    exact wpAny_bind (wpAny_askSetting (wpAny_pure (h _ (pickOrder_perm _ _))))
  | false =>
    rw [if_neg Bool.false_ne_true]
    rw [hb] at hled
    have h1 : (!t.plain && decide (es.size > 1)) = false := by
      rcases hled with e | ⟨_, e⟩ | e
      · cases e
      · rw [e]; rfl
      · rw [decide_eq_false (by omega)]; simp
    have h2 : (!t.led && decide (es.size > 1)) = false := by
      rcases hled with e | ⟨e, _⟩ | e
      · cases e
      · rw [e]; rfl
      · rw [decide_eq_false (by omega)]; simp
    rw [h1, if_neg Bool.false_ne_true, h2, if_neg Bool.false_ne_true]
    exact wpAny_bind (wpAny_pure (wpAny_pure (h es .rfl)))
theorem setsQuiet_of {sets : List Addr} {Q : Bool → Shared → Prop} (hq : ∀ a ∈ sets, ∃ o l, s.heap.get? a = some o ∧ SetIs w o l) (h : Q true s) : wpAny (model PP w) A (setsQuiet sets) Q E s := by
  unfold setsQuiet
  dsimp only
  refine wpAny_bind (wpAny_forIn_list _ (fun rest b s' => s' = s ∧ b = (none, ()) ∧ ∀ a ∈ rest, a ∈ sets) _ ?_ ?_ sets _ ⟨rfl, rfl, fun _ h => h⟩)
  · rintro a rest b s' ⟨rfl, rfl, hr⟩
    obtain ⟨o, l, ho, hex, es, ep, t, hd, hel, _, _, hf⟩ := hq a (hr a (.head _))
    refine wpAny_bind (wpAny_setEntries_of ho hd hf ?_)
    refine wpAny_bind ?_
    rw [← Array.forIn_toList]
    refine (wpAny_forIn_list _ (fun rest b s'' => s'' = s' ∧ b = (none, ()) ∧ ∀ e ∈ rest, e ∈ es.toList) _ ?_ ?_ es.toList _ ⟨rfl, rfl, fun _ h => h⟩)
    · rintro e rest b s'' ⟨rfl, rfl, hre⟩
      obtain ⟨⟨k, hk, _⟩, _⟩ := hel e (hre e (.head _))
      obtain ⟨tk, hv⟩ := Value.isInt_shape hk
      rw [hv]
      exact wpAny_pure ⟨rfl, rfl, fun e he => hre e (.tail _ he)⟩
    · rintro b s'' ⟨rfl, rfl, _⟩
      exact wpAny_pure ⟨rfl, rfl, fun a ha => hr a (.tail _ ha)⟩
  · rintro b s' ⟨rfl, rfl, _⟩
    exact wpAny_pure h
theorem walkUnseen_of {a f : Addr} (hne : f ≠ a) {o : Obj} {l lf : List Nat} {of : Obj} {es : Array (Int × Value)} {ep : Nat} {t : SetTable} {Q : Array (Int × Value) → Shared → Prop} (ho : s.heap.get? a = some o) (hs : SetIs w o l) (hd : o.data = .set es ep t)
    (hof : s.heap.get? f = some of) (hsf : SetIs w of lf) (hlf : lf.length ≤ 1000)
    (h : ∀ es' h' of', List.Perm es'.toList es.toList → Heap.SameBut f s.heap h' → h'.get? f = some of' → SetIs w of' lf → Q es' { s with heap := h' }) : wpAny (model PP w) A (setWalkUnseen a [f] (some f)) Q E s := by
  have hf := (let ⟨_, es0, ep0, t0, hd0, _, _, _, hf0⟩ := hs; (by rw [hd] at hd0; injection hd0 with a b c; rw [a, c]; exact hf0 : t.fits es.size = true))
  unfold setWalkUnseen
  refine wpAny_bind (wpAny_setState_of ho hd hf ?_)
  dsimp only
  refine wpAny_bind (setsByText_any ?_)
  have h0 := fun es' hp => h es' s.heap of hp (Heap.SameBut.refl f s.heap) hof hsf
  split
  · rename_i hc
    refine setWalk_of ho hd hf ?_ fun es' hp => h0 es' hp
    simp only [Bool.or_eq_true, Bool.and_eq_true, decide_eq_true_eq] at hc
    rcases hc with (hc | hc) | hc
    · exact .inl hc
    · exact .inr (.inl hc)
    · exact .inr (.inr hc)
  · refine wpAny_bind (setsQuiet_of (fun b hb => ?_) ?_)
    · simp at hb
      rcases hb with rfl | rfl
      · exact ⟨o, l, ho, hs⟩
      · exact ⟨of, lf, hof, hsf⟩
    · rw [if_neg (by simp)]
      refine wpAny_bind (wpAny_rule ?_)
      obtain ⟨hexf, ef, epf, tf, hdf, helf, hmemf, hszf, hff⟩ := id hsf
      refine wpAny_bind (wpAny_setState_of hof hdf hff ?_)
      dsimp only
      split
      · obtain ⟨o', ho', hs', _⟩ := restore (t' := { tf with led := tf.led && t.led, plain := tf.plain && t.plain }) hof hsf hdf hlf (.refl _) (by cases tf; exact hff)
        exact wpAny_bind (wpAny_storeSet_of hof hdf (wpAny_pure (h es _ o' .rfl (Heap.SameBut.update s.heap f _) ho' hs')) (by rw [hszf, sizeLine_eq]; omega))
      · exact wpAny_pure (h0 es .rfl)
end
end Mine
end
section
open PySem PySem.W PySem.Calls PyProof.Rows PySem.SetTable
set_option maxRecDepth 100000
namespace Mine
/-! plain: the path of a search in a set's table -/
def adv (mask : Nat) (p : Probe) : Probe :=
  if p.more > 0 then { p with j := p.j + 1, more := p.more - 1 } else
  let (i, perturb) := leap mask p.i p.perturb
  { p with j := i, more := runEnd mask i - i, i, perturb }
theorem adv_eq (t : SetTable) (p : Probe) : t.advance p = adv t.mask p := rfl
def start (mask b : Nat) : Probe := { j := b % (mask + 1), more := runEnd mask (b % (mask + 1)) - b % (mask + 1), i := b % (mask + 1), perturb := b, dummy := none }
theorem start_eq (t : SetTable) (h : Int) : t.probeStart h = start t.mask (bits h) := rfl
def stp (mask : Nat) : Nat → Probe → Probe
  | 0, p => p
  | k + 1, p => stp mask k (adv mask p)
theorem stp_add (mask : Nat) : ∀ (a b : Nat) (p : Probe), stp mask (a + b) p = stp mask b (stp mask a p)
  | 0, b, p => by rw [Nat.zero_add]; rfl
  | a + 1, b, p => by rw [show a + 1 + b = (a + b) + 1 by omega, stp, stp_add mask a b, stp]
theorem runEnd_le {mask i : Nat} (h : i ≤ mask) : i ≤ runEnd mask i ∧ runEnd mask i ≤ mask := by
  unfold runEnd; split <;> omega
theorem adv_in {mask : Nat} {p : Probe} (h : p.j + p.more ≤ mask) : (adv mask p).j + (adv mask p).more ≤ mask := by
  unfold adv
  split
  · show p.j + 1 + (p.more - 1) ≤ mask; omega
  · show (leap mask p.i p.perturb).1 + (runEnd mask (leap mask p.i p.perturb).1 - (leap mask p.i p.perturb).1) ≤ mask
    have : (leap mask p.i p.perturb).1 ≤ mask := Nat.le_of_lt_succ (Nat.mod_lt _ (Nat.succ_pos _))
    have := runEnd_le this
    omega
theorem stp_in {mask : Nat} : ∀ (k : Nat) {p : Probe}, p.j + p.more ≤ mask → (stp mask k p).j + (stp mask k p).more ≤ mask
  | 0, _, h => h
  | k + 1, _, h => stp_in k (adv_in h)
theorem start_in (mask b : Nat) : (start mask b).j + (start mask b).more ≤ mask := by
  have : b % (mask + 1) ≤ mask := Nat.le_of_lt_succ (Nat.mod_lt _ (Nat.succ_pos _))
  have := runEnd_le this
  show b % (mask + 1) + (runEnd mask (b % (mask + 1)) - b % (mask + 1)) ≤ mask
  omega
theorem path_le (mask b k : Nat) : (stp mask k (start mask b)).j ≤ mask := by have := stp_in k (start_in mask b); omega

/-! how many places a path meets -/
def cover (mask : Nat) : Nat → Probe → Nat → Nat
  | 0, _, acc => acc
  | k + 1, p, acc => cover mask k (adv mask p) (acc ||| 2 ^ p.j)
def popc (mask acc : Nat) : Nat := ((List.range (mask + 1)).filter fun j => acc.testBit j).length
theorem cover_bit (mask i : Nat) : ∀ (K : Nat) (p : Probe) (acc : Nat), (cover mask K p acc).testBit i = true → acc.testBit i = true ∨ ∃ k, k < K ∧ (stp mask k p).j = i
  | 0, _, _, h => .inl h
  | K + 1, p, acc, h => by
    rcases cover_bit mask i K _ _ h with h | ⟨k, hk, e⟩
    · rw [Nat.testBit_or, Bool.or_eq_true, Nat.testBit_two_pow] at h
      rcases h with h | h
      · exact .inl h
      · exact .inr ⟨0, by omega, (by simpa using h : p.j = i)⟩
    · exact .inr ⟨k + 1, by omega, e⟩
def chk (mask K b N : Nat) : Bool := decide (N < popc mask (cover mask K (start mask b) 0))
theorem esc {mask K b N : Nat} (hc : chk mask K b N = true) {F : List Nat} (hF : F.length ≤ N) : ∃ k, k < K ∧ (stp mask k (start mask b)).j ∉ F := by
  refine Classical.byContradiction fun hn => ?_
  have hall : ∀ k, k < K → (stp mask k (start mask b)).j ∈ F := fun k hk => Classical.byContradiction fun q => hn ⟨k, hk, q⟩
  have := of_decide_eq_true hc
  have := nodup_sub_len ((List.range (mask + 1)).filter fun j => (cover mask K (start mask b) 0).testBit j) F (List.nodup_range.filter _) fun x hx => by
    obtain ⟨_, hx⟩ := List.mem_filter.mp hx
    rcases cover_bit mask x K _ _ hx with h | ⟨k, hk, rfl⟩
    · simp at h
    · exact hall k hk
  unfold popc at *
  omega
/-! the binary search -/
def At (xs : Array Nat) (j lo hi : Nat) : Prop := lo ≤ hi ∧ hi ≤ xs.size ∧ (∀ i, i < lo → xs.getD i 0 < j) ∧ ∀ i, hi ≤ i → i < xs.size → j ≤ xs.getD i 0
theorem below_go {xs : Array Nat} {j : Nat} (hs : ∀ a b, a < b → b < xs.size → xs.getD a 0 < xs.getD b 0) : ∀ (fuel lo hi : Nat), hi - lo ≤ fuel → At xs j lo hi → At xs j (below.go xs j fuel lo hi) (below.go xs j fuel lo hi)
  | 0, lo, hi, hf, h => by
    have e : lo = hi := by have := h.1; omega
    subst e; exact h
  | fuel + 1, lo, hi, hf, h => by
    obtain ⟨h1, h2, h3, h4⟩ := h
    rw [below.go]
    by_cases hl : lo < hi
    · rw [if_pos hl]
      dsimp only
      have e0 : xs.getD ((lo + hi) / 2) j = xs.getD ((lo + hi) / 2) 0 := by
        have : (lo + hi) / 2 < xs.size := by omega
        simp [Array.getD, this]
      rw [e0]
      by_cases hm : xs.getD ((lo + hi) / 2) 0 < j
      · rw [if_pos hm]
        refine below_go hs fuel _ _ (by omega) ⟨by omega, h2, fun i hi' => ?_, h4⟩
        rcases Nat.lt_or_ge i ((lo + hi) / 2) with q | q
        · have := hs i ((lo + hi) / 2) q (by omega); omega
        · have e : i = (lo + hi) / 2 := by omega
          rw [e]; exact hm
      · rw [if_neg hm]
        refine below_go hs fuel _ _ (by omega) ⟨by omega, by omega, h3, fun i hi' hi2 => ?_⟩
        rcases Nat.lt_or_ge ((lo + hi) / 2) i with q | q
        · have := hs _ i q hi2; omega
        · have e : i = (lo + hi) / 2 := by omega
          rw [e]; omega
    · rw [if_neg hl]
      have e : lo = hi := by omega
      subst e; exact ⟨h1, h2, h3, h4⟩
theorem inc_at {xs : Array Nat} (h : xs.toList.Pairwise (· < ·)) : ∀ a b, a < b → b < xs.size → xs.getD a 0 < xs.getD b 0 := fun a b hab hb => by
  have := List.pairwise_iff_getElem.mp h a b (by simpa using by omega) (by simpa using hb) hab
  simp only [Array.getElem_toList] at this
  simpa [Array.getD, hb, show a < xs.size by omega] using this
theorem below_at {xs : Array Nat} (h : xs.toList.Pairwise (· < ·)) (j : Nat) : At xs j (below xs j) (below xs j) :=
  below_go (inc_at h) xs.size 0 xs.size (by omega) ⟨by omega, by omega, fun i hi => absurd hi (Nat.not_lt_zero _), fun i h1 h2 => by omega⟩
theorem below_of {xs : Array Nat} (h : xs.toList.Pairwise (· < ·)) {i j : Nat} (hx : xs[i]? = some j) : below xs j = i := by
  obtain ⟨_, h2, h3, h4⟩ := below_at h j
  obtain ⟨hi, e⟩ := Array.getElem?_eq_some_iff.mp hx
  have ed : xs.getD i 0 = j := by simp [Array.getD, hi, e]
  rcases Nat.lt_trichotomy (below xs j) i with q | q | q
  · have h5 := inc_at h (below xs j) i q hi
    have h6 := h4 (below xs j) (Nat.le_refl _) (by omega)
    omega
  · exact q
  · have := h3 i q; omega
theorem slot_live {t : SetTable} (h : t.place.toList.Pairwise (· < ·)) {i j : Nat} (hx : t.place[i]? = some j) : t.slot j = .live i := by
  unfold SetTable.slot
  rw [below_of h hx]
  show (if (t.place[i]? == some j) = true then _ else _) = _
  rw [hx]; simp
theorem slot_empty {t : SetTable} (hd : t.dummies = #[]) {j : Nat} (hj : j ∉ t.place.toList) : t.slot j = .empty := by
  unfold SetTable.slot
  show (if (t.place[below t.place j]? == some j) = true then _ else _) = _
  have : ¬ (t.place[below t.place j]? == some j) = true := fun e => by
    have e := eq_of_beq e
    exact hj (by rw [← Array.getElem?_toList] at e; exact List.mem_of_getElem? e)
  rw [if_neg this]
  have : ¬ SetTable.has t.dummies j = true := by unfold SetTable.has; rw [hd]; simp
  rw [if_neg this]
/-! the search -/
theorem adv_dummy {mask : Nat} {p : Probe} : (adv mask p).dummy = p.dummy := by unfold adv; split <;> rfl
theorem probe_spec {t : SetTable} {hashAt : Nat → Int} {h : Int} (inc : t.place.toList.Pairwise (· < ·)) (dm : t.dummies = #[]) : ∀ (fuel : Nat) (p : Probe), p.dummy = none → (∃ k, k < fuel ∧ (stp t.mask k p).j ∉ t.place.toList) →
    (∃ k j, probe.go t hashAt h fuel p = some (.empty j none) ∧ (stp t.mask k p).j = j ∧ j ∉ t.place.toList ∧ ∀ k', k' < k → ∃ i, t.place[i]? = some (stp t.mask k' p).j ∧ hashAt i ≠ h) ∨
    ∃ i j nx, probe.go t hashAt h fuel p = some (.candidate j i nx) ∧ t.place[i]? = some j ∧ hashAt i = h
  | 0, p, _, ⟨k, hk, _⟩ => absurd hk (Nat.not_lt_zero _)
  | fuel + 1, p, hd, ⟨k, hk, hn⟩ => by
    rw [probe.go]
    by_cases hj : p.j ∈ t.place.toList
    · obtain ⟨i, hi⟩ := List.getElem?_of_mem hj
      rw [Array.getElem?_toList] at hi
      rw [slot_live inc hi]
      dsimp only
      by_cases hh : hashAt i = h
      · rw [if_pos (by simp [hh])]
        exact .inr ⟨i, p.j, _, rfl, hi, hh⟩
      · rw [if_neg (by simp [hh])]
        have hk0 : k ≠ 0 := fun e => hn (by rw [e]; exact hj)
        obtain ⟨k1, rfl⟩ : ∃ k1, k = k1 + 1 := ⟨k - 1, by omega⟩
        rcases probe_spec inc dm fuel (t.advance p) (by rw [adv_eq, adv_dummy]; exact hd) ⟨k1, by omega, hn⟩ with ⟨k2, j, e, e2, e3, e4⟩ | ⟨i, j, nx, e⟩
        · refine .inl ⟨k2 + 1, j, e, e2, e3, fun k' hk' => ?_⟩
          cases k' with
          | zero => exact ⟨i, hi, hh⟩
          | succ k' => exact e4 k' (by omega)
        · exact .inr ⟨i, j, nx, e⟩
    · rw [slot_empty dm hj, hd]
      exact .inl ⟨0, p.j, rfl, rfl, hj, fun k' hk' => absurd hk' (Nat.not_lt_zero _)⟩
def ReachS (mask : Nat) (F : List Nat) (b j : Nat) : Prop := ∃ k, (stp mask k (start mask b)).j = j ∧ ∀ k', k' < k → (stp mask k' (start mask b)).j ∈ F
theorem ReachS.mono {mask b j : Nat} {F F' : List Nat} (h : ReachS mask F b j) (hs : ∀ x ∈ F, x ∈ F') : ReachS mask F' b j := let ⟨k, a, c⟩ := h; ⟨k, a, fun k' hk => hs _ (c k' hk)⟩
end Mine
end
section
set_option autoImplicit false
namespace Mine
/-! plain: joined nodes, pieces -/
abbrev Eds := List (Nat × Nat)
inductive Jn (C : Eds) (u : Nat) : Nat → Prop
  | refl : Jn C u u
  | step {v w : Nat} : Jn C u v → ((v, w) ∈ C ∨ (w, v) ∈ C) → Jn C u w
theorem Jn.trans {C : Eds} {u v w : Nat} (h : Jn C u v) (h' : Jn C v w) : Jn C u w := by
  induction h' with
  | refl => exact h
  | step _ e ih => exact ih.step e
theorem Jn.symm {C : Eds} {u v : Nat} (h : Jn C u v) : Jn C v u := by
  induction h with
  | refl => exact .refl
  | step _ e ih => exact (Jn.refl.step e.symm).trans ih
theorem Jn.more {C : Eds} {e : Nat × Nat} {u v : Nat} (h : Jn C u v) : Jn (e :: C) u v := by
  induction h with
  | refl => exact .refl
  | step _ e ih => exact ih.step (e.imp (.tail _) (.tail _))
theorem Jn.new {C : Eds} {a b : Nat} : Jn ((a, b) :: C) a b := Jn.refl.step (.inl (.head _))
theorem jn_cons {C : Eds} {a b u v : Nat} : Jn ((a, b) :: C) u v ↔ Jn C u v ∨ (Jn C u a ∧ Jn C b v) ∨ (Jn C u b ∧ Jn C a v) := by
  constructor
  · intro h
    induction h with
    | refl => exact .inl .refl
    | step _ e ih =>
      rcases e with e | e <;> rcases List.mem_cons.mp e with q | q
      · injection q with q1 q2
        subst q1 q2
        rcases ih with h | ⟨h, _⟩ | ⟨h, _⟩
        · exact .inr (.inl ⟨h, .refl⟩)
        · exact .inr (.inl ⟨h, .refl⟩)
        · exact .inl h
      · rcases ih with h | ⟨h, k⟩ | ⟨h, k⟩
        · exact .inl (h.step (.inl q))
        · exact .inr (.inl ⟨h, k.step (.inl q)⟩)
        · exact .inr (.inr ⟨h, k.step (.inl q)⟩)
      · injection q with q1 q2
        subst q1 q2
        rcases ih with h | ⟨h, _⟩ | ⟨h, _⟩
        · exact .inr (.inr ⟨h, .refl⟩)
        · exact .inl h
        · exact .inr (.inr ⟨h, .refl⟩)
      · rcases ih with h | ⟨h, k⟩ | ⟨h, k⟩
        · exact .inl (h.step (.inr q))
        · exact .inr (.inl ⟨h, k.step (.inr q)⟩)
        · exact .inr (.inr ⟨h, k.step (.inr q)⟩)
  · rintro (h | ⟨h, k⟩ | ⟨h, k⟩)
    · exact h.more
    · exact (h.more.trans .new).trans k.more
    · exact (h.more.trans Jn.new.symm).trans k.more
theorem jn_same {C : Eds} {a b u v : Nat} (hj : Jn C a b) : Jn ((a, b) :: C) u v ↔ Jn C u v := by
  rw [jn_cons]
  constructor
  · rintro (h | ⟨h, k⟩ | ⟨h, k⟩)
    · exact h
    · exact (h.trans hj).trans k
    · exact (h.trans hj.symm).trans k
  · exact .inl
/-- the lowest of its piece -/
def Lw (C : Eds) (i : Nat) : Prop := ∀ y, y < i → ¬ Jn C y i
theorem lw_ex {C : Eds} : ∀ (a : Nat), ∃ r, r ≤ a ∧ Jn C r a ∧ Lw C r := by
  intro a
  induction a using Nat.strongRecOn with
  | _ a ih =>
    by_cases h : Lw C a
    · exact ⟨a, Nat.le_refl _, .refl, h⟩
    · unfold Lw at h
      simp only [Classical.not_forall, Classical.not_not] at h
      obtain ⟨y, hy, hj⟩ := h
      obtain ⟨r, h1, h2, h3⟩ := ih y hy
      exact ⟨r, by omega, h2.trans hj, h3⟩
theorem lw_uniq {C : Eds} {r r' : Nat} (h : Lw C r) (h' : Lw C r') (hj : Jn C r r') : r = r' := by
  rcases Nat.lt_trichotomy r r' with q | q | q
  · exact absurd hj (h' r q)
  · exact q
  · exact absurd hj.symm (h r' q)
open Classical in
noncomputable def pcs (n : Nat) (C : Eds) : Nat := ((List.range n).filter fun i => decide (Lw C i)).length
theorem lw_congr {C C' : Eds} (h : ∀ u v, Jn C u v ↔ Jn C' u v) (i : Nat) : Lw C i ↔ Lw C' i :=
  ⟨fun k y hy hj => k y hy ((h y i).mpr hj), fun k y hy hj => k y hy ((h y i).mp hj)⟩
theorem pcs_congr {n : Nat} {C C' : Eds} (h : ∀ u v, Jn C u v ↔ Jn C' u v) : pcs n C = pcs n C' := by
  unfold pcs
  congr 1
  exact List.filter_congr fun i _ => decide_eq_decide.mpr (lw_congr h i)
theorem pcs_same {n a b : Nat} {C : Eds} (hj : Jn C a b) : pcs n ((a, b) :: C) = pcs n C := pcs_congr fun _ _ => jn_same hj
theorem filter_one {l : List Nat} {p p' : Nat → Bool} {x : Nat} (hn : l.Nodup) (hx : x ∈ l) (hp : p x = true) (h : ∀ i, p' i = (p i && decide (i ≠ x))) : (l.filter p).length = (l.filter p').length + 1 := by
  induction l with
  | nil => cases hx
  | cons y r ih =>
    rw [List.nodup_cons] at hn
    rcases List.mem_cons.mp hx with rfl | hx
    · have e : r.filter p' = r.filter p := List.filter_congr fun i hi => by
        rw [h i]
        have : i ≠ x := fun q => hn.1 (q ▸ hi)
        simp [this]
      rw [List.filter_cons, List.filter_cons, if_pos hp, if_neg (by rw [h x]; simp), e]; rfl
    · have hy : y ≠ x := fun q => hn.1 (q ▸ hx)
      have := ih hn.2 hx
      rw [List.filter_cons, List.filter_cons, h y]
      simp only [ne_eq, hy, not_false_eq_true, decide_true, Bool.and_true]
      split <;> simp [this]
theorem pcs_drop {n a b : Nat} {C : Eds} (ha : a < n) (hb : b < n) (hj : ¬ Jn C a b) : pcs n C = pcs n ((a, b) :: C) + 1 := by
  obtain ⟨ra, la, ja, wa⟩ := lw_ex (C := C) a
  obtain ⟨rb, lb, jb, wb⟩ := lw_ex (C := C) b
  have hne : ra ≠ rb := fun q => hj (ja.symm.trans (q ▸ jb))
  have hnab : ¬ Jn C ra rb := fun q => hne (lw_uniq wa wb q)
  obtain ⟨x, hx⟩ : ∃ x, x = max ra rb := ⟨_, rfl⟩
  have hxn : x < n := by omega
  have hwx : Lw C x := by
    rcases Nat.le_total ra rb with q | q
    · have : x = rb := by omega
      rw [this]; exact wb
    · have : x = ra := by omega
      rw [this]; exact wa
  have key : ∀ i, Lw ((a, b) :: C) i ↔ Lw C i ∧ i ≠ x := by
    intro i
    constructor
    · intro h
      refine ⟨fun y hy k => h y hy k.more, fun q => ?_⟩
      subst q
      rcases Nat.lt_or_gt_of_ne hne with q | q
      · have e : max ra rb = rb := by omega
        rw [e] at hx; subst hx
        exact h ra q (jn_cons.mpr (.inr (.inl ⟨ja, jb.symm⟩)))
      · have e : max ra rb = ra := by omega
        rw [e] at hx; subst hx
        exact h rb q (jn_cons.mpr (.inr (.inr ⟨jb, ja.symm⟩)))
    · rintro ⟨h, hix⟩ y hy k
      rcases jn_cons.mp k with k | ⟨k1, k2⟩ | ⟨k1, k2⟩
      · exact h y hy k
      · -- i joined to b, so i = rb; y joined to a, ra ≤ y
        have hi : i = rb := lw_uniq h wb (k2.symm.trans jb.symm)
        have hy' : ra ≤ y := by
          rcases Nat.lt_or_ge y ra with q | q
          · exact absurd (k1.trans ja.symm) (wa y q)
          · exact q
        omega
      · have hi : i = ra := lw_uniq h wa (k2.symm.trans ja.symm)
        have hy' : rb ≤ y := by
          rcases Nat.lt_or_ge y rb with q | q
          · exact absurd (k1.trans jb.symm) (wb y q)
          · exact q
        omega
  unfold pcs
  refine filter_one (x := x) List.nodup_range (List.mem_range.mpr hxn) (by simpa using hwx) fun i => ?_
  rw [Bool.eq_iff_iff]
  simp only [Bool.and_eq_true, decide_eq_true_eq]
  exact key i
end Mine
end
section
set_option autoImplicit false
namespace Mine
/-! plain: sign patterns -/
def Fits (h : Nat → Int) : Eds → List Bool → Prop
  | [], [] => True
  | (a, b) :: E, s :: σ => (if s = true then h a < h b else h b < h a) ∧ Fits h E σ
  | _, _ => False
def Eqs (h : Nat → Int) (C : Eds) : Prop := ∀ p ∈ C, h p.1 = h p.2
def Real (C E : Eds) (σ : List Bool) : Prop := ∃ h, Eqs h C ∧ Fits h E σ
def pats : Nat → List (List Bool)
  | 0 => [[]]
  | m + 1 => (pats m).map (true :: ·) ++ (pats m).map (false :: ·)
open Classical in
noncomputable def Acy (C E : Eds) : Nat := ((pats E.length).filter fun σ => decide (Real C E σ)).length
theorem Eqs.jn {h : Nat → Int} {C : Eds} (x : Eqs h C) {u v : Nat} (j : Jn C u v) : h u = h v := by
  induction j with
  | refl => rfl
  | step _ e ih =>
    rcases e with e | e
    · exact ih.trans (x _ e)
    · exact ih.trans (x _ e).symm
open Classical in
theorem two_counts {α : Type} (l : List α) (P Q U W : α → Prop) (h1 : ∀ x, U x ↔ (P x ∨ Q x)) (h2 : ∀ x, W x ↔ (P x ∧ Q x)) :
    (l.filter fun x => decide (P x)).length + (l.filter fun x => decide (Q x)).length = (l.filter fun x => decide (U x)).length + (l.filter fun x => decide (W x)).length := by
  induction l with
  | nil => rfl
  | cons x r ih =>
    simp only [List.filter_cons]
    have e1 := h1 x
    have e2 := h2 x
    by_cases p : P x <;> by_cases q : Q x
    · have u : U x := e1.mpr (.inl p)
      have w : W x := e2.mpr ⟨p, q⟩
      simp only [p, q, u, w, decide_true, if_true, List.length_cons]; omega
    · have u : U x := e1.mpr (.inl p)
      have w : ¬ W x := fun k => q (e2.mp k).2
      simp only [p, q, u, w, decide_true, decide_false, if_true, Bool.false_eq_true, if_false, List.length_cons]; omega
    · have u : U x := e1.mpr (.inr q)
      have w : ¬ W x := fun k => p (e2.mp k).1
      simp only [p, q, u, w, decide_true, decide_false, if_true, Bool.false_eq_true, if_false, List.length_cons]; omega
    · have u : ¬ U x := fun k => (e1.mp k).elim p q
      have w : ¬ W x := fun k => p (e2.mp k).1
      simp only [p, q, u, w, decide_false, Bool.false_eq_true, if_false]; exact ih
theorem Fits.mul {h : Nat → Int} {g : Nat → Int} (hg : ∀ u v, h u < h v → g u < g v) : ∀ {E : Eds} {σ : List Bool}, Fits h E σ → Fits g E σ
  | [], [], _ => trivial
  | (a, b) :: E, s :: σ, x => by
    refine ⟨?_, Fits.mul hg x.2⟩
    have := x.1
    split <;> rename_i hs
    · rw [if_pos hs] at this; exact hg _ _ this
    · rw [if_neg hs] at this; exact hg _ _ this
  | [], _ :: _, x => x.elim
  | _ :: _, [], x => x.elim
theorem Fits.comb {h g k : Nat → Int} (hk : ∀ u v, h u < h v → g u < g v → k u < k v) : ∀ {E : Eds} {σ : List Bool}, Fits h E σ → Fits g E σ → Fits k E σ
  | [], [], _, _ => trivial
  | (a, b) :: E, s :: σ, x, y => by
    refine ⟨?_, Fits.comb hk x.2 y.2⟩
    have h1 := x.1
    have h2 := y.1
    split <;> rename_i hs
    · rw [if_pos hs] at h1 h2; exact hk _ _ h1 h2
    · rw [if_neg hs] at h1 h2; exact hk _ _ h1 h2
  | [], _ :: _, x, _ => x.elim
  | _ :: _, [], x, _ => x.elim
open Classical in
/-- a little push of the piece of b -/
theorem push {C E : Eds} {σ : List Bool} {h : Nat → Int} {a b : Nat} (x : Eqs h C) (y : Fits h E σ) (hj : ¬ Jn C a b) (hab : h a = h b) : ∃ g, Eqs g C ∧ Fits g E σ ∧ g a < g b := by
  refine ⟨fun u => 2 * h u + if Jn C u b then 1 else 0, fun p hp => ?_, y.mul fun u v q => ?_, ?_⟩
  · have e := x p hp
    have j : Jn C p.1 b ↔ Jn C p.2 b := ⟨fun k => (Jn.refl.step (.inr hp)).trans k, fun k => (Jn.refl.step (.inl hp)).trans k⟩
    show 2 * h p.1 + (if Jn C p.1 b then 1 else 0) = 2 * h p.2 + (if Jn C p.2 b then 1 else 0)
    rw [e]
    by_cases k : Jn C p.1 b
    · rw [if_pos k, if_pos (j.mp k)]
    · rw [if_neg k, if_neg fun q => k (j.mpr q)]
  · show 2 * h u + (if Jn C u b then 1 else 0) < 2 * h v + (if Jn C v b then 1 else 0)
    split <;> split <;> omega
  · show 2 * h a + (if Jn C a b then 1 else 0) < 2 * h b + (if Jn C b b then 1 else 0)
    rw [if_neg hj, if_pos .refl]; omega
theorem real_t {C E : Eds} {σ : List Bool} {a b : Nat} : Real C ((a, b) :: E) (true :: σ) ↔ ∃ h, Eqs h C ∧ Fits h E σ ∧ h a < h b :=
  ⟨fun ⟨h, x, y⟩ => ⟨h, x, y.2, by have := y.1; rwa [if_pos rfl] at this⟩, fun ⟨h, x, y, z⟩ => ⟨h, x, by rw [if_pos rfl]; exact z, y⟩⟩
theorem real_f {C E : Eds} {σ : List Bool} {a b : Nat} : Real C ((a, b) :: E) (false :: σ) ↔ ∃ h, Eqs h C ∧ Fits h E σ ∧ h b < h a :=
  ⟨fun ⟨h, x, y⟩ => ⟨h, x, y.2, by have := y.1; rwa [if_neg Bool.false_ne_true] at this⟩, fun ⟨h, x, y, z⟩ => ⟨h, x, by rw [if_neg Bool.false_ne_true]; exact z, y⟩⟩
theorem real_or {C E : Eds} {σ : List Bool} {a b : Nat} (hj : ¬ Jn C a b) : Real C E σ ↔ (Real C ((a, b) :: E) (true :: σ) ∨ Real C ((a, b) :: E) (false :: σ)) := by
  rw [real_t, real_f]
  constructor
  · rintro ⟨h, x, y⟩
    rcases Int.lt_trichotomy (h a) (h b) with q | q | q
    · exact .inl ⟨h, x, y, q⟩
    · obtain ⟨g, x', y', z'⟩ := push x y hj q
      exact .inl ⟨g, x', y', z'⟩
    · exact .inr ⟨h, x, y, q⟩
  · rintro (⟨h, x, y, _⟩ | ⟨h, x, y, _⟩) <;> exact ⟨h, x, y⟩
theorem real_and {C E : Eds} {σ : List Bool} {a b : Nat} (hj : ¬ Jn C a b) : Real ((a, b) :: C) E σ ↔ (Real C ((a, b) :: E) (true :: σ) ∧ Real C ((a, b) :: E) (false :: σ)) := by
  rw [real_t, real_f]
  constructor
  · rintro ⟨h, x, y⟩
    have x' : Eqs h C := fun p hp => x p (.tail _ hp)
    have e : h a = h b := x (a, b) (.head _)
    refine ⟨push x' y hj e, push x' y (fun k => hj k.symm) e.symm⟩
  · rintro ⟨⟨h, x, y, z⟩, ⟨g, x', y', z'⟩⟩
    refine ⟨fun u => (g a - g b) * h u + (h b - h a) * g u, fun p hp => ?_, Fits.comb (fun u v q r => ?_) y y'⟩
    · rcases List.mem_cons.mp hp with rfl | hp
      · show (g a - g b) * h a + (h b - h a) * g a = (g a - g b) * h b + (h b - h a) * g b
        simp only [Int.sub_mul, Int.mul_comm (h b), Int.mul_comm (h a)]; omega
      · show (g a - g b) * h p.1 + (h b - h a) * g p.1 = (g a - g b) * h p.2 + (h b - h a) * g p.2
        rw [x p hp, x' p hp]
    · show (g a - g b) * h u + (h b - h a) * g u < (g a - g b) * h v + (h b - h a) * g v
      have h1 : (g a - g b) * h u < (g a - g b) * h v := Int.mul_lt_mul_of_pos_left q (by omega)
      have h2 : (h b - h a) * g u < (h b - h a) * g v := Int.mul_lt_mul_of_pos_left r (by omega)
      omega
theorem acy_nil (C : Eds) : Acy C [] = 1 := by
  unfold Acy
  have : Real C [] [] := ⟨fun _ => 0, fun _ _ => rfl, trivial⟩
  simp [pats, this]
open Classical in
theorem acy_cons (C E : Eds) (a b : Nat) : Acy C ((a, b) :: E) = ((pats E.length).filter fun σ => decide (Real C ((a, b) :: E) (true :: σ))).length + ((pats E.length).filter fun σ => decide (Real C ((a, b) :: E) (false :: σ))).length := by
  unfold Acy
  show (((pats E.length).map (true :: ·) ++ (pats E.length).map (false :: ·)).filter _).length = _
  rw [List.filter_append, List.length_append, List.filter_map, List.filter_map, List.length_map, List.length_map]
  rfl
theorem acy_split {C E : Eds} {a b : Nat} (hj : ¬ Jn C a b) : Acy C ((a, b) :: E) = Acy C E + Acy ((a, b) :: C) E := by
  rw [acy_cons]
  exact two_counts _ _ _ _ _ (fun σ => real_or hj) fun σ => real_and hj
theorem acy_zero {C E : Eds} {a b : Nat} (hj : Jn C a b) : Acy C ((a, b) :: E) = 0 := by
  rw [acy_cons]
  have h1 : ∀ σ, ¬ Real C ((a, b) :: E) (true :: σ) := fun σ k => by
    obtain ⟨h, x, _, z⟩ := real_t.mp k
    rw [x.jn hj] at z; omega
  have h2 : ∀ σ, ¬ Real C ((a, b) :: E) (false :: σ) := fun σ k => by
    obtain ⟨h, x, _, z⟩ := real_f.mp k
    rw [x.jn hj] at z; omega
  simp [h1, h2]
end Mine
end
section
set_option autoImplicit false
namespace Mine
/-! plain: signed sums over the subsets of the edges -/
def SS (φ : Eds → Int) : Eds → Eds → Int
  | [], C => φ C
  | e :: E, C => SS φ E C - SS φ E (e :: C)
theorem eqs_same {h : Nat → Int} {C : Eds} {a b : Nat} (hj : Jn C a b) : Eqs h ((a, b) :: C) ↔ Eqs h C :=
  ⟨fun x p hp => x p (.tail _ hp), fun x p hp => by
    rcases List.mem_cons.mp hp with rfl | hp
    · exact x.jn hj
    · exact x p hp⟩
theorem acy_same {C E : Eds} {a b : Nat} (hj : Jn C a b) : Acy ((a, b) :: C) E = Acy C E := by
  unfold Acy
  congr 1
  refine List.filter_congr fun σ _ => decide_eq_decide.mpr ?_
  exact ⟨fun ⟨h, x, y⟩ => ⟨h, (eqs_same hj).mp x, y⟩, fun ⟨h, x, y⟩ => ⟨h, (eqs_same hj).mpr x, y⟩⟩
theorem ss_acy {n : Nat} : ∀ (E : Eds), (∀ p ∈ E, p.1 < n ∧ p.2 < n) → ∀ C, SS (fun C => (-1) ^ pcs n C) E C = (-1) ^ pcs n C * (Acy C E : Int)
  | [], _, C => by rw [acy_nil]; simp [SS]
  | (a, b) :: E, hE, C => by
    have hE' : ∀ p ∈ E, p.1 < n ∧ p.2 < n := fun p hp => hE p (.tail _ hp)
    obtain ⟨ha, hb⟩ := hE (a, b) (.head _)
    rw [SS, ss_acy E hE' C, ss_acy E hE' ((a, b) :: C)]
    by_cases hj : Jn C a b
    · rw [acy_zero hj, pcs_same hj, acy_same hj]; simp
    · rw [acy_split hj, pcs_drop ha hb hj, Int.pow_succ]
      generalize (-1 : Int) ^ pcs n ((a, b) :: C) = x
      push_cast
      rw [Int.mul_add]
      have e : x * -1 = -x := by omega
      rw [e, Int.neg_mul, Int.neg_mul]
      omega
theorem pcs_nil (n : Nat) : pcs n [] = n := by
  unfold pcs
  have : ∀ i, Lw [] i := fun i y hy j => by
    have : ∀ {v}, Jn [] y v → v = y := fun j => by
      induction j with
      | refl => rfl
      | step _ e _ => rcases e with e | e <;> cases e
    have := this j; omega
  have e : ((List.range n).filter fun i => @decide (Lw [] i) (Classical.propDecidable _)) = List.range n := List.filter_eq_self.mpr fun i _ => @decide_eq_true _ (Classical.propDecidable _) (this i)
  rw [e, List.length_range]
/-- the signed sum at -1 -/
theorem ss_dirs {n : Nat} {E : Eds} (hE : ∀ p ∈ E, p.1 < n ∧ p.2 < n) : SS (fun C => (-1) ^ pcs n C) E [] * (-1) ^ n = (Acy [] E : Int) := by
  rw [ss_acy E hE [], pcs_nil, Int.mul_comm, ← Int.mul_assoc, ← Int.pow_add]
  have : ∀ k : Nat, (-1 : Int) ^ (k + k) = 1 := fun k => by
    induction k with
    | zero => rfl
    | succ k ih => rw [show k + 1 + (k + 1) = (k + k) + 1 + 1 by omega, Int.pow_succ, Int.pow_succ, ih]; rfl
  rw [this]; simp
end Mine
end
section
set_option autoImplicit false
namespace Mine
/-! plain: colourings -/
def fns (q : Nat) : Nat → List (List Nat)
  | 0 => [[]]
  | n + 1 => (fns q n).flatMap fun l => (List.range q).map fun x => l ++ [x]
def SameOn (l : List Nat) (C : Eds) : Prop := ∀ p ∈ C, l[p.1]? = l[p.2]?
def DiffOn (l : List Nat) (E : Eds) : Prop := ∀ p ∈ E, l[p.1]? ≠ l[p.2]?
def Okc (C E : Eds) (l : List Nat) : Prop := SameOn l C ∧ DiffOn l E
open Classical in
noncomputable def NC (q n : Nat) (C E : Eds) : Nat := ((fns q n).filter fun l => decide (Okc C E l)).length
theorem nc_cons (q n : Nat) (C E : Eds) (e : Nat × Nat) : NC q n C (e :: E) + NC q n (e :: C) E = NC q n C E := by
  have h := two_counts (fns q n) (Okc C (e :: E)) (Okc (e :: C) E) (Okc C E) (fun _ => False)
    (fun l => ⟨fun ⟨x, y⟩ => by
      by_cases k : l[e.1]? = l[e.2]?
      · exact .inr ⟨fun p hp => by rcases List.mem_cons.mp hp with rfl | hp; exact k; exact x p hp, y⟩
      · exact .inl ⟨x, fun p hp => by rcases List.mem_cons.mp hp with rfl | hp; exact k; exact y p hp⟩,
     fun k => by
      rcases k with ⟨x, y⟩ | ⟨x, y⟩
      · exact ⟨x, fun p hp => y p (.tail _ hp)⟩
      · exact ⟨fun p hp => x p (.tail _ hp), y⟩⟩)
    (fun l => ⟨False.elim, fun ⟨⟨_, y⟩, ⟨x, _⟩⟩ => y e (.head _) (x e (.head _))⟩)
  unfold NC
  rw [h]
  have : ∀ (l : List (List Nat)), (l.filter fun _ => @decide False (Classical.propDecidable _)).length = 0 := fun l => by
    rw [List.length_eq_zero_iff, List.filter_eq_nil_iff]; intro x _; simp
  rw [this]; rfl
theorem ss_cols (q n : Nat) : ∀ (E C : Eds), SS (fun C => (NC q n C [] : Int)) E C = (NC q n C E : Int)
  | [], C => rfl
  | e :: E, C => by
    rw [SS, ss_cols q n E C, ss_cols q n E (e :: C), ← nc_cons q n C E e]; omega
end Mine
end
section
set_option autoImplicit false
namespace Mine
noncomputable def rp (C : Eds) (i : Nat) : Nat := Classical.choose (lw_ex (C := C) i)
theorem rp_le (C : Eds) (i : Nat) : rp C i ≤ i := (Classical.choose_spec (lw_ex (C := C) i)).1
theorem rp_jn (C : Eds) (i : Nat) : Jn C (rp C i) i := (Classical.choose_spec (lw_ex (C := C) i)).2.1
theorem rp_lw (C : Eds) (i : Nat) : Lw C (rp C i) := (Classical.choose_spec (lw_ex (C := C) i)).2.2
theorem rp_self {C : Eds} {i : Nat} (h : Lw C i) : rp C i = i := lw_uniq (rp_lw C i) h (rp_jn C i)
theorem rp_lt {C : Eds} {i : Nat} (h : ¬ Lw C i) : rp C i < i := by
  rcases Nat.lt_or_ge (rp C i) i with q | q
  · exact q
  · have e : rp C i = i := Nat.le_antisymm (rp_le C i) q
    exact absurd (e ▸ rp_lw C i) h
theorem same_jn {l : List Nat} {C : Eds} (x : SameOn l C) {u v : Nat} (j : Jn C u v) : l[u]? = l[v]? := by
  induction j with
  | refl => rfl
  | step _ e ih =>
    rcases e with e | e
    · exact ih.trans (x _ e)
    · exact ih.trans (x _ e).symm
def Rpd (C : Eds) (k : Nat) (l : List Nat) : Prop := ∀ i, i < k → l[i]? = l[rp C i]?
theorem same_iff {l : List Nat} {C : Eds} {n : Nat} (hC : ∀ p ∈ C, p.1 < n ∧ p.2 < n) : SameOn l C ↔ Rpd C n l := by
  constructor
  · exact fun x i _ => (same_jn x (rp_jn C i)).symm
  · intro x p hp
    have e : rp C p.1 = rp C p.2 := lw_uniq (rp_lw C _) (rp_lw C _) (((rp_jn C p.1).trans (Jn.refl.step (.inl hp))).trans (rp_jn C p.2).symm)
    rw [x p.1 (hC p hp).1, x p.2 (hC p hp).2, e]
theorem fns_len {q : Nat} : ∀ {n : Nat} {l : List Nat}, l ∈ fns q n → l.length = n ∧ ∀ x ∈ l, x < q
  | 0, l, h => by
    rw [fns, List.mem_singleton] at h; subst h; exact ⟨rfl, fun _ h => nomatch h⟩
  | n + 1, l, h => by
    rw [fns, List.mem_flatMap] at h
    obtain ⟨l', h1, h2⟩ := h
    obtain ⟨x, hx, rfl⟩ := List.mem_map.mp h2
    obtain ⟨e, hq⟩ := fns_len h1
    refine ⟨by rw [List.length_append, e]; rfl, fun y hy => ?_⟩
    rcases List.mem_append.mp hy with hy | hy
    · exact hq y hy
    · rw [List.mem_singleton.mp hy]; exact List.mem_range.mp hx
theorem rpd_snoc {C : Eds} {k x : Nat} {l : List Nat} (hl : l.length = k) : Rpd C (k + 1) (l ++ [x]) ↔ Rpd C k l ∧ (Lw C k ∨ l[rp C k]? = some x) := by
  have g : ∀ i, i < k → (l ++ [x])[i]? = l[i]? := fun i hi => List.getElem?_append_left (by omega)
  have gk : (l ++ [x])[k]? = some x := by rw [← hl]; simp
  constructor
  · intro h
    refine ⟨fun i hi => ?_, ?_⟩
    · have := h i (by omega)
      rwa [g i hi, g _ (Nat.lt_of_le_of_lt (rp_le C i) hi)] at this
    · by_cases hw : Lw C k
      · exact .inl hw
      · have := h k (by omega)
        rw [gk, g _ (rp_lt hw)] at this
        exact .inr this.symm
  · rintro ⟨h, hk⟩ i hi
    rcases Nat.lt_succ_iff_lt_or_eq.mp hi with q | rfl
    · rw [g i q, g _ (Nat.lt_of_le_of_lt (rp_le C i) q)]; exact h i q
    · rcases hk with hw | hw
      · rw [rp_self hw]
      · by_cases hw' : Lw C i
        · rw [rp_self hw']
        · rw [gk, g _ (rp_lt hw'), hw]
theorem one_of {q y : Nat} (h : y < q) : ((List.range q).filter fun x => decide (y = x)).length = 1 := by
  induction q with
  | zero => omega
  | succ q ih =>
    rw [List.range_succ, List.filter_append, List.length_append]
    by_cases e : y = q
    · subst e
      have : (List.range y).filter (fun x => decide (y = x)) = [] := by
        rw [List.filter_eq_nil_iff]; intro x hx; have := List.mem_range.mp hx; simp; omega
      rw [this]; simp
    · rw [ih (by omega)]; simp [e]
open Classical in
theorem sum_if {α : Type} (L : List α) (P : α → Prop) (v : Nat) (f : α → Nat) (h1 : ∀ l ∈ L, P l → f l = v) (h0 : ∀ l ∈ L, ¬ P l → f l = 0) : (L.map f).sum = (L.filter fun l => decide (P l)).length * v := by
  induction L with
  | nil => simp
  | cons x r ih =>
    have := ih (fun l hl => h1 l (.tail _ hl)) (fun l hl => h0 l (.tail _ hl))
    rw [List.map_cons, List.sum_cons, this, List.filter_cons]
    by_cases p : P x
    · rw [h1 x (.head _) p, if_pos (decide_eq_true p), List.length_cons, Nat.succ_mul, Nat.add_comm]
    · rw [h0 x (.head _) p, if_neg (by simpa using p), Nat.zero_add]
open Classical in
theorem cnt_rp (q : Nat) (C : Eds) : ∀ k, ((fns q k).filter fun l => decide (Rpd C k l)).length = q ^ pcs k C
  | 0 => by
    have : Rpd C 0 [] := fun i h => absurd h (Nat.not_lt_zero i)
    simp [fns, pcs, this]
  | k + 1 => by
    have hp : pcs (k + 1) C = pcs k C + if Lw C k then 1 else 0 := by
      unfold pcs; rw [List.range_succ, List.filter_append, List.length_append]; by_cases h : Lw C k <;> simp [h]
    rw [fns, List.filter_flatMap, List.length_flatMap, hp, Nat.pow_add, ← cnt_rp q C k]
    refine sum_if (fns q k) (Rpd C k) (q ^ if Lw C k then 1 else 0) _ (fun l hl hr => ?_) fun l hl hr => ?_
    · obtain ⟨e, hq⟩ := fns_len hl
      rw [List.filter_map, List.length_map]
      by_cases hw : Lw C k
      · rw [if_pos hw, Nat.pow_one]
        rw [List.filter_eq_self.mpr fun x _ => ?_, List.length_range]
        exact decide_eq_true ((rpd_snoc e).mpr ⟨hr, .inl hw⟩)
      · rw [if_neg hw, Nat.pow_zero]
        have hk : rp C k < l.length := by rw [e]; exact rp_lt hw
        have hy := List.getElem?_eq_getElem hk
        refine Eq.trans (congrArg List.length (List.filter_congr fun x _ => ?_)) (one_of (q := q) (y := l[rp C k]) (hq _ (List.getElem_mem hk)))
        show decide (Rpd C (k + 1) (l ++ [x])) = _
        refine decide_eq_decide.mpr ((rpd_snoc e).trans ⟨fun h => ?_, fun h => ⟨hr, .inr (by rw [hy, h])⟩⟩)
        rcases h.2 with h | h
        · exact absurd h hw
        · rw [hy] at h; exact Option.some.inj h
    · obtain ⟨e, hq⟩ := fns_len hl
      rw [List.filter_map, List.length_map, List.length_eq_zero_iff, List.filter_eq_nil_iff]
      intro x _ h
      exact hr ((rpd_snoc e).mp (of_decide_eq_true h)).1
theorem nc_nil {q n : Nat} {C : Eds} (hC : ∀ p ∈ C, p.1 < n ∧ p.2 < n) : NC q n C [] = q ^ pcs n C := by
  rw [← cnt_rp q C n]
  unfold NC
  congr 1
  refine List.filter_congr fun l _ => decide_eq_decide.mpr ?_
  exact ⟨fun h => (same_iff hC).mp h.1, fun h => ⟨(same_iff hC).mpr h, fun p hp => nomatch hp⟩⟩
end Mine
end
section
set_option autoImplicit false
namespace Mine
def InR (n : Nat) (C : Eds) : Prop := ∀ p ∈ C, p.1 < n ∧ p.2 < n
theorem ss_congr {n : Nat} {φ ψ : Eds → Int} (h : ∀ C, InR n C → φ C = ψ C) : ∀ (E C : Eds), InR n E → InR n C → SS φ E C = SS ψ E C
  | [], C, _, hC => h C hC
  | e :: E, C, hE, hC => by
    have hE' : InR n E := fun p hp => hE p (.tail _ hp)
    have he : InR n (e :: C) := fun p hp => by
      rcases List.mem_cons.mp hp with rfl | hp
      · exact hE _ (.head _)
      · exact hC p hp
    rw [SS, SS, ss_congr h E C hE' hC, ss_congr h E (e :: C) hE' he]
/-- the signed sum at q -/
theorem ss_q {q n : Nat} {E : Eds} (hE : InR n E) : SS (fun C => ((q : Nat) : Int) ^ pcs n C) E [] = (NC q n [] E : Int) := by
  rw [← ss_cols q n E []]
  refine ss_congr (n := n) (fun C hC => ?_) E [] hE (fun _ h => nomatch h)
  rw [nc_nil hC]; push_cast; rfl
end Mine
end
section
open PySem PySem.W PySem.Calls PyProof.Rows
set_option maxRecDepth 100000
namespace Mine
example : (fun (_ : OpenLaw) (_ : Params → Frag) => True) PySem.Challenge.rw_bs0017_01 hd.heap_39 := by k_fill; trivial

local macro_rules | `(tactic| tb_start) => `(tactic| first | with_reducible assumption | with_reducible exact Ne.symm (by assumption) | (refine' fresh_ne ?l ?h0 ?h; (case l => with_reducible assumption); (case h0 => with_reducible assumption); (case h => tb_rel)) | (refine' Ne.symm (fresh_ne ?l ?h0 ?h); (case l => with_reducible assumption); (case h0 => with_reducible assumption); (case h => tb_rel)))
local macro_rules | `(tactic| tb_rel) => `(tactic| first | with_reducible assumption | with_reducible exact List.mem_cons_self | (with_reducible refine List.mem_cons_of_mem _ ?_; tb_rel) | (with_reducible refine mem_put_self (o := ?oo) ?hh; case hh => tb_rel) | (with_reducible refine mem_put_ne ?h1 ?h2; (case h1 => tb_rel); (case h2 => tb_start)) | (with_reducible refine List.mem_append_left _ ?_; tb_rel) | (with_reducible refine List.mem_append_right _ ?_; tb_rel))
local macro_rules | `(tactic| k_mem) => `(tactic| tb_rel)
local macro_rules | `(tactic| walk_at "compareOp In int ref") => `(tactic| (k_here; (with_reducible rename St _ _ _ _ _ => kS); (with_reducible rename Rest _ _ => kR); k_dflt (refine' in_D (knd := intKind PP _) ?h0 kS ?hm ?hd ?hk ?hv ?_; (case h0 => with_reducible assumption); (case hm => tb_rel); (case hd => first | with_reducible assumption | with_reducible exact isDict_nil _); (case hk => exact intKind_is _ _ _ _); (case hv => first | with_reducible assumption | with_reducible exact isSome_node _ (by assumption) | with_reducible exact isSome_node_none _ (by assumption) | with_reducible exact valueAt_adjS _ _)); (intro s' hr' kS'); (have kR' := Rest.comp kR hr'); clear kS kR hr'; (have kF := kS'.F); (have kN := kS'.N); (try k_sweep)))
local macro_rules | `(tactic| walk_at "compareOp NotIn int ref") => `(tactic| (k_here; (with_reducible rename St _ _ _ _ _ => kS); (with_reducible rename Rest _ _ => kR); k_dflt (refine' notin_D (knd := intKind PP _) ?h0 kS ?hm ?hd ?hk ?hv ?_; (case h0 => with_reducible assumption); (case hm => tb_rel); (case hd => first | with_reducible assumption | with_reducible exact isDict_nil _); (case hk => exact intKind_is _ _ _ _); (case hv => first | with_reducible assumption | with_reducible exact isSome_node _ (by assumption) | with_reducible exact isSome_node_none _ (by assumption) | with_reducible exact valueAt_adjS _ _)); (intro s' hr' kS'); (have kR' := Rest.comp kR hr'); clear kS kR hr'; (have kF := kS'.F); (have kN := kS'.N); (try k_sweep)))
local macro_rules | `(tactic| walk_at "subscriptTail Name Name ref int") => `(tactic| (k_here; (with_reducible show wpAny _ _ (subscriptTail _ _ (Value.ref _) (Value.int _ _)) _ _ _); (with_reducible rename St _ _ _ _ _ => kS); (with_reducible rename Rest _ _ => kR); k_dflt (refine' sub_D (knd := intKind PP _) ?h0 kS ?hm ?hd ?hk ?hv ?_; (case h0 => with_reducible assumption); (case hm => tb_rel); (case hd => first | with_reducible assumption | with_reducible exact isDict_nil _); (case hk => exact intKind_is _ _ _ _); (case hv => first | with_reducible assumption | with_reducible exact valueAt_node _ (by assumption) | with_reducible exact valueAt_stored _ _ _)); (intro s' hr' kS'); (have kR' := Rest.comp kR hr'); clear kS kR hr'; (have kF := kS'.F); (have kN := kS'.N); (try k_sweep)))
local macro_rules | `(tactic| walk_at "subscriptTail Attribute Name Name ref int") => `(tactic| (k_here; (with_reducible show wpAny _ _ (subscriptTail _ _ (Value.ref _) (Value.int _ _)) _ _ _); (with_reducible rename St _ _ _ _ _ => kS); (with_reducible rename Rest _ _ => kR); k_dflt (refine' sub_D (knd := intKind PP _) ?h0 kS ?hm ?hd ?hk ?hv ?_; (case h0 => with_reducible assumption); (case hm => tb_rel); (case hd => first | with_reducible assumption | with_reducible exact isDict_nil _); (case hk => exact intKind_is _ _ _ _); (case hv => first | with_reducible assumption | with_reducible exact valueAt_node _ (by assumption) | with_reducible exact valueAt_stored _ _ _)); (intro s' hr' kS'); (have kR' := Rest.comp kR hr'); clear kS kR hr'; (have kF := kS'.F); (have kN := kS'.N); (try k_sweep)))
local macro_rules | `(tactic| walk_at "subscriptTail Subscript Attribute Name Name ref int") => `(tactic| (k_here; (with_reducible show wpAny _ _ (subscriptTail _ _ (Value.ref _) (Value.int _ _)) _ _ _); (with_reducible rename St _ _ _ _ _ => kS); (with_reducible rename Rest _ _ => kR); k_dflt (refine' sub_D (knd := intKind PP _) ?h0 kS ?hm ?hd ?hk ?hv ?_; (case h0 => with_reducible assumption); (case hm => tb_rel); (case hd => first | with_reducible assumption | with_reducible exact isDict_nil _); (case hk => exact intKind_is _ _ _ _); (case hv => first | with_reducible assumption | with_reducible exact valueAt_node _ (by assumption) | with_reducible exact valueAt_stored _ _ _)); (intro s' hr' kS'); (have kR' := Rest.comp kR hr'); clear kS kR hr'; (have kF := kS'.F); (have kN := kS'.N); (try k_sweep)))
local macro_rules | `(tactic| walk_at "subscriptTail Subscript Name ref int") => `(tactic| (k_here; (with_reducible show wpAny _ _ (subscriptTail _ _ (Value.ref _) (Value.int _ _)) _ _ _); (with_reducible rename St _ _ _ _ _ => kS); (with_reducible rename Rest _ _ => kR); k_dflt (refine' sub_D (knd := intKind PP _) ?h0 kS ?hm ?hd ?hk ?hv ?_; (case h0 => with_reducible assumption); (case hm => tb_rel); (case hd => first | with_reducible assumption | with_reducible exact isDict_nil _); (case hk => exact intKind_is _ _ _ _); (case hv => first | with_reducible assumption | with_reducible exact valueAt_node _ (by assumption) | with_reducible exact valueAt_stored _ _ _)); (intro s' hr' kS'); (have kR' := Rest.comp kR hr'); clear kS kR hr'; (have kF := kS'.F); (have kN := kS'.N); (try k_sweep)))
local macro_rules | `(tactic| walk_at "storeName") => `(tactic| (k_here; (with_reducible rename St _ _ _ _ _ => kS); (with_reducible rename Rest _ _ => kR); k_dflt (refine' storeS kS ?_ ?h1 ?h2 ?h3; (case h1 => exact rfl); (case h2 => exact rfl); (case h3 => exact rfl)); (intro s' hr' kS'); (have kR' := Rest.comp kR hr'); clear kS kR hr'; (have kF := kS'.F); (have kN := kS'.N); (try k_sweep)))
local macro_rules | `(tactic| walk_at "eval Dict nil nil") => `(tactic| (k_here; (with_reducible rename St _ _ _ _ _ => kS); (with_reducible rename Rest _ _ => kR); k_dflt (refine' dictS kS ?_); (intro d' s' hr' kS' l1); (have hm' := cons_mem kS'); (have kR' := Rest.comp kR hr'); clear kS kR hr'; (have kF := kS'.F); (have kN := kS'.N); (try k_sweep)))
local macro_rules | `(tactic| walk_at "setItem ref int ref") => `(tactic| (k_here; (with_reducible rename St _ _ _ _ _ => kS); (with_reducible rename Rest _ _ => kR); k_dflt (refine' set_D (knd := intKind PP _) ?h0 kS ?hm ?hd ?hk ?hz ?_; (case h0 => with_reducible assumption); (case hm => tb_rel); (case hd => first | with_reducible assumption | with_reducible exact isDict_nil _); (case hk => exact intKind_is _ _ _ _); (case hz => first | with_reducible assumption | exact Nat.le_of_ble_eq_true rfl)); (intro s' o' hr' kS' hd' hm'); (have kR' := Rest.comp kR hr'); clear kS kR hr'; (have kF := kS'.F); (have kN := kS'.N); (try k_sweep)))
local macro_rules | `(tactic| walk_at "delItem ref") => `(tactic| (k_here; (with_reducible rename St _ _ _ _ _ => kS); (with_reducible rename Rest _ _ => kR); k_dflt (refine' del_D (knd := intKind PP _) ?h0 kS ?hm ?hd ?hk ?hz ?hl ?_; (case h0 => with_reducible assumption); (case hm => tb_rel); (case hd => first | with_reducible assumption | with_reducible exact isDict_nil _); (case hk => exact intKind_is _ _ _ _); (case hz => with_reducible assumption); (case hl => with_reducible assumption)); (intro s' o' hr' kS' hd' hm'); (have kR' := Rest.comp kR hr'); clear kS kR hr'; (have kF := kS'.F); (have kN := kS'.N); (try k_sweep)))
local macro_rules | `(tactic| walk_at "call builtin:dict.update") => `(tactic| (k_here; (with_reducible rename St _ _ _ _ _ => kS); (with_reducible rename Rest _ _ => kR); k_dflt (refine' update_nil (knd := strKind PP _) (knd' := strKind PP _) ?h0 ?h1 kS ?hm ?hd ?hme ?he ?hde ?_; (case h0 => with_reducible assumption); (case h1 => with_reducible assumption); (case hm => tb_rel); (case hd => first | with_reducible assumption | with_reducible exact isDict_nil _); (case hme => tb_rel); (case he => first | with_reducible assumption | with_reducible exact isDict_nil _); (case hde => tb_start)); (intro s' hr' kS'); (have kR' := Rest.comp kR hr'); clear kS kR hr'; (have kF := kS'.F); (have kN := kS'.N); (try k_sweep)))
local macro_rules | `(tactic| walk_at "call builtin:dict.get") => `(tactic| (k_here; (with_reducible show wpAny _ _ (call _ [_, _, _]) _ _ _); (with_reducible rename St _ _ _ _ _ => kS); (with_reducible rename Rest _ _ => kR); k_dflt (refine' get2_D (knd := intKind PP _) ?h0 kS ?hm ?hd ?hk ?hv ?_; (case h0 => with_reducible assumption); (case hm => tb_rel); (case hd => first | with_reducible assumption | with_reducible exact isDict_nil _); (case hk => exact intKind_is _ _ _ _); (case hv => first | exact getD_of_none (by assumption) | exact getD_of_some (by assumption))); (intro s' hr' kS'); (have kR' := Rest.comp kR hr'); clear kS kR hr'; (have kF := kS'.F); (have kN := kS'.N); (try k_sweep)))
local macro_rules | `(tactic| walk_at "getMethod ref") => `(tactic| (k_here; k_dflt (first
  | ((with_reducible show wpAny _ _ (getMethod (Value.ref _) (Str.ofString "update") _) _ _ _); refine' getM_DU (knd := strKind PP _) ?h0 ?S ?hm ?hd ?_; (case h0 => with_reducible assumption); (case S => assumption); (case hm => tb_rel); (case hd => first | with_reducible assumption | with_reducible exact isDict_nil _))
  | ((with_reducible show wpAny _ _ (getMethod (Value.ref _) (Str.ofString "get") _) _ _ _); refine' getM_DG (knd := intKind PP _) ?h0 ?S ?hm ?hd ?_; (case h0 => with_reducible assumption); (case S => assumption); (case hm => tb_rel); (case hd => first | with_reducible assumption | with_reducible exact isDict_nil _)))))
local macro_rules | `(tactic| walk_at "LeaveK") => `(tactic| ((with_reducible rename St _ _ _ _ _ => kS); (refine leaveS (by assumption) kS ?_); (intro kS'); clear kS; (try dsimp only)))
local macro_rules | `(tactic| walk_at "newTuple") => `(tactic| (k_here; (with_reducible rename St _ _ _ _ _ => kS); (with_reducible rename Rest _ _ => kR); k_dflt (refine' tupS kS ?_ ?hz; (case hz => size_fits)); (intro t' s' hr' kS' l1); (have hm' := cons_mem kS'); (have kR' := Rest.comp kR hr'); clear kS kR hr'; (have kF := kS'.F); (have kN := kS'.N); (try k_sweep)))
local macro_rules | `(tactic| walk_at "newList") => `(tactic| (k_here; (with_reducible rename St _ _ _ _ _ => kS); (with_reducible rename Rest _ _ => kR); k_dflt (refine' listS kS ?_ ?hz; (case hz => size_fits)); (intro t' s' hr' kS' l1); (have hm' := cons_mem kS'); (have kR' := Rest.comp kR hr'); clear kS kR hr'; (have kF := kS'.F); (have kN := kS'.N); (try k_sweep)))
local macro_rules | `(tactic| walk_at "unpackItems ref") => `(tactic| (k_here; (with_reducible rename Cx _ _ _ _ _ => kC); (with_reducible rename St _ _ _ _ _ => kS); (with_reducible rename Rest _ _ => kR); k_dflt (refine' unpackS ?h0 kS ?hm (Cx.hh kC) ?hn ?_; (case h0 => with_reducible assumption); (case hm => tb_rel); (case hn => exact rfl)); (intro s' hr' kS'); (have kR' := Rest.comp kR hr'); clear kS kR hr'; (have kF := kS'.F); (have kN := kS'.N); (try k_sweep)))
local macro_rules | `(tactic| walk_at "compareOp NotEq int int") => `(tactic| first | with_reducible refine ne_int_t (by with_reducible assumption) ?_ | with_reducible refine ne_int_f (by with_reducible assumption) ?_)
local macro_rules | `(tactic| walk_at "compareOp Eq int int") => `(tactic| first | with_reducible refine eq_int_t (by with_reducible assumption) ?_ | with_reducible refine eq_int_f (by with_reducible assumption) ?_)
local macro_rules | `(tactic| walk_at "setAttr ref") => `(tactic| (k_here; (with_reducible rename Cx _ _ _ _ _ => kC); (with_reducible rename St _ _ _ _ _ => kS); (with_reducible rename Rest _ _ => kR); k_dflt (refine' setAttrS kC kS ?h1 ?h2 ?k6 ?k7 ?k8 ?k9 ?k10 ?k11 ?k13 ?_; (case h1 => tb_rel); (case h2 => tb_rel); (case k6 => k_is); (case k7 => k_is); (case k8 => k_is); (case k9 => k_is); (case k10 => k_get); (case k11 => k_put); (case k13 => exact Nat.le_of_ble_eq_true rfl)); (intro s' hr' kS' hm'); (have kR' := Rest.comp kR hr'); clear kS kR hr'; (have kF := kS'.F); (have kN := kS'.N); (try k_sweep)))

local macro_rules | `(tactic| walk_at "subscriptTail Name BinOp ref int") => `(tactic| (k_here; (with_reducible rename St _ _ _ _ _ => kS); k_dflt (refine' subL ?h0 kS ?hm ?hx ?hn ?hh ?_; (case h0 => with_reducible assumption); (case hm => tb_rel); (case hx => first | with_reducible assumption | exact rfl); (case hn => first | decide | omega); (case hh => first | decide | omega))))
local macro_rules | `(tactic| walk_at "subscriptTail Name Constant ref int") => `(tactic| (k_here; (with_reducible rename St _ _ _ _ _ => kS); k_dflt (refine' subL ?h0 kS ?hm ?hx ?hn ?hh ?_; (case h0 => with_reducible assumption); (case hm => tb_rel); (case hx => first | with_reducible assumption | exact rfl); (case hn => first | decide | omega); (case hh => first | decide | omega))))
local macro_rules | `(tactic| walk_at "subscriptTail Name Name ref int") => `(tactic| (k_here; (with_reducible rename St _ _ _ _ _ => kS); k_dflt (refine' subL ?h0 kS ?hm ?hx ?hn ?hh ?_; (case h0 => with_reducible assumption); (case hm => tb_rel); (case hx => first | with_reducible assumption | exact rfl); (case hn => first | decide | omega); (case hh => first | decide | omega))))
local macro_rules | `(tactic| walk_at "subscriptTail Subscript Name Constant ref int") => `(tactic| (k_here; (with_reducible rename St _ _ _ _ _ => kS); k_dflt (refine' subL ?h0 kS ?hm ?hx ?hn ?hh ?_; (case h0 => with_reducible assumption); (case hm => tb_rel); (case hx => first | with_reducible assumption | exact rfl); (case hn => first | decide | omega); (case hh => first | decide | omega))))
local macro_rules | `(tactic| walk_at "subscriptTail Subscript Name Constant BinOp ref int") => `(tactic| (k_here; (with_reducible rename St _ _ _ _ _ => kS); k_dflt (refine' subL ?h0 kS ?hm ?hx ?hn ?hh ?_; (case h0 => with_reducible assumption); (case hm => tb_rel); (case hx => first | with_reducible assumption | exact rfl); (case hn => first | decide | omega); (case hh => first | decide | omega))))
local macro_rules | `(tactic| walk_at "subscriptTail Subscript Name Name ref int") => `(tactic| (k_here; (with_reducible rename St _ _ _ _ _ => kS); k_dflt (refine' subL ?h0 kS ?hm ?hx ?hn ?hh ?_; (case h0 => with_reducible assumption); (case hm => tb_rel); (case hx => first | with_reducible assumption | exact rfl); (case hn => first | decide | omega); (case hh => first | decide | omega))))
local macro_rules | `(tactic| walk_at "subscriptTail List Name ref int") => `(tactic| (k_here; (with_reducible rename St _ _ _ _ _ => kS); k_dflt (refine' subL ?h0 kS ?hm ?hx ?hn ?hh ?_; (case h0 => with_reducible assumption); (case hm => tb_rel); (case hx => first | with_reducible assumption | exact rfl); (case hn => first | decide | omega); (case hh => first | decide | omega))))
local macro_rules | `(tactic| walk_at "subscriptTail List cons Name ref int") => `(tactic| (k_here; (with_reducible rename St _ _ _ _ _ => kS); k_dflt (refine' subL ?h0 kS ?hm ?hx ?hn ?hh ?_; (case h0 => with_reducible assumption); (case hm => tb_rel); (case hx => first | with_reducible assumption | exact rfl); (case hn => first | decide | omega); (case hh => first | decide | omega))))
local macro_rules | `(tactic| walk_at "subscriptTail Subscript Name BinOp ref int") => `(tactic| (k_here; (with_reducible rename St _ _ _ _ _ => kS); k_dflt (refine' subL ?h0 kS ?hm ?hx ?hn ?hh ?_; (case h0 => with_reducible assumption); (case hm => tb_rel); (case hx => first | with_reducible assumption | exact rfl); (case hn => first | decide | omega); (case hh => first | decide | omega))))
local macro_rules | `(tactic| walk_at "getItem ref int") => `(tactic| (k_here; (with_reducible rename St _ _ _ _ _ => kS); k_dflt (refine' getL ?h0 kS ?hm ?hx ?hn ?hh ?_; (case h0 => with_reducible assumption); (case hm => tb_rel); (case hx => first | with_reducible assumption | exact rfl); (case hn => first | decide | omega); (case hh => first | decide | omega))))
local macro_rules | `(tactic| walk_at "setItem ref int int") => `(tactic| (k_here; (with_reducible rename St _ _ _ _ _ => kS); (with_reducible rename Rest _ _ => kR); k_dflt (refine' setL ?h0 kS ?hm ?hn ?hh ?hk ?hv ?_; (case h0 => with_reducible assumption); (case hm => tb_rel); (case hn => first | decide | omega); (case hh => first | decide | omega); (case hk => first | decide | (simp; done) | (simp; omega)); (case hv => first | (simp only [Int.toNat_one, Int.toNat_zero, Int.toNat_natCast, List.set_cons_succ, List.set_cons_zero]; exact rfl) | exact rfl)); (intro s' hr' kS' hm'); (have kR' := Rest.comp kR hr'); clear kS kR hr'; (have kF := kS'.F); (have kN := kS'.N); (try k_sweep)))
local macro_rules | `(tactic| walk_at "call builtin:len") => `(tactic| (k_here; (with_reducible rename St _ _ _ _ _ => kS); (with_reducible rename Rest _ _ => kR); k_dflt (refine' lenListS ?h0 kS ?hm ?hz ?_; (case h0 => with_reducible assumption); (case hm => tb_rel); (case hz => first | with_reducible assumption | omega)); (intro s' t' hr' kS'); (have kR' := Rest.comp kR hr'); clear kS kR hr'; (have kF := kS'.F); (have kN := kS'.N); (try k_sweep)))

local macro_rules | `(tactic| walk_at "eval Name") => `(tactic| (k_here; (with_reducible rename Cx _ _ _ _ _ => kC); (with_reducible rename St _ _ _ _ _ => kS); k_dflt (first
  | (refine' nmL kS ?hv ?_ ?hk ?hx ?hL ?hd; (case hx => exact rfl); (case hk => exact rfl); (case hL => exact rfl); (case hd => decide); (case hv => first | with_reducible assumption | exact rfl))
  | (refine' nmC kS ?hc ?hm ?hd ?_ ?hk ?hx ?hb; (case hx => exact rfl); (case hk => exact rfl); (case hb => decide); (case hc => exact rfl); (case hm => tb_rel); (case hd => with_reducible assumption))
  | (refine' nmF kS ?hc ?hm ?hd ?_ ?hk ?hx ?hb ?hn; (case hx => exact rfl); (case hk => exact rfl); (case hb => decide); (case hn => decide); (case hc => exact rfl); (case hm => tb_rel); (case hd => with_reducible assumption))
  | (refine' nmB kC kS ?he ?hv ?hn ?_ ?hg ?hbb ?hx ?hd; (case hx => exact rfl); (case he => exact rfl); (case hg => exact rfl); (case hbb => exact rfl); (case hd => decide); (case hv => first | boot_fast | exact rfl); (case hn => decide))
  | (refine' nmG kC kS ?he ?_ ?hg ?hx ?hd; (case hx => exact rfl); (case he => exact rfl); (case hg => exact rfl); (case hd => decide)))))
local macro_rules | `(tactic| walk_at "binaryOp Add ref ref") => `(tactic| (k_here; (with_reducible rename St _ _ _ _ _ => kS); (with_reducible rename Rest _ _ => kR); k_dflt (refine' addLS ?h0 ?h1 kS ?hm ?hn ?hz ?_; (case h0 => with_reducible assumption); (case h1 => with_reducible assumption); (case hm => tb_rel); (case hn => tb_rel); (case hz => first | with_reducible assumption | (simp only [List.length_cons, List.length_nil]; omega))); (intro t' s' hr' kS' l1); (have hm' := cons_mem kS'); (have kR' := Rest.comp kR hr'); clear kS kR hr'; (have kF := kS'.F); (have kN := kS'.N); (try k_sweep)))
local macro_rules | `(tactic| walk_at "storeName") => `(tactic| (k_here; (with_reducible rename St _ _ _ _ _ => kS); (with_reducible rename Rest _ _ => kR); k_dflt (refine' storeC kS ?hc ?hm ?hd ?_ ?hk ?hx; (case hx => exact rfl); (case hk => exact rfl); (case hc => exact rfl); (case hm => tb_rel); (case hd => with_reducible assumption)); (intro s' o' hr' kS' hd' hm'); (have kR' := Rest.comp kR hr'); clear kS kR hr'; (have kF := kS'.F); (have kN := kS'.N); (try k_sweep)))
local macro_rules | `(tactic| walk_at "call builtin:all") => `(tactic| (k_here; (with_reducible rename Cx _ _ _ _ _ => kC); (with_reducible rename St _ _ _ _ _ => kS); (with_reducible rename Rest _ _ => kR); k_dflt (refine' allBools (Cx.hh kC) ?h0 kS ?hm ?_; (case h0 => with_reducible assumption); (case hm => tb_rel)); (intro s' hr' kS'); (have kR' := Rest.comp kR hr'); clear kS kR hr'; (have kF := kS'.F); (have kN := kS'.N); (try k_sweep)))
local macro_rules | `(tactic| walk_at "call builtin:any") => `(tactic| (k_here; (with_reducible rename Cx _ _ _ _ _ => kC); (with_reducible rename St _ _ _ _ _ => kS); (with_reducible rename Rest _ _ => kR); k_dflt (refine' anyBools (Cx.hh kC) ?h0 kS ?hm ?_; (case h0 => with_reducible assumption); (case hm => tb_rel)); (intro s' hr' kS'); (have kR' := Rest.comp kR hr'); clear kS kR hr'; (have kF := kS'.F); (have kN := kS'.N); (try k_sweep)))
local macro_rules | `(tactic| walk_at "call type:range") => `(tactic| (k_here; (with_reducible rename St _ _ _ _ _ => kS); (with_reducible rename Rest _ _ => kR); k_dflt (first | refine' rangeS1 kS ?_ | refine' rangeS2 kS ?_); (intro r' t1' t2' t3' s' hr' kS' l1); (have hm' := cons_mem kS'); (have kR' := Rest.comp kR hr'); clear kS kR hr'; (have kF := kS'.F); (have kN := kS'.N); (try k_sweep)))
local macro_rules | `(tactic| walk_at "loadName") => `(tactic| (k_here; (with_reducible rename St _ _ _ _ _ => kS); k_dflt (refine' ldL kS ?hv ?_ ?hk ?hx ?hL; (case hx => exact rfl); (case hk => exact rfl); (case hL => exact rfl); (case hv => first | with_reducible assumption | exact rfl))))

def orders : Nat → List Nat → List (List Nat)
  | 0, _ => [[]]
  | f + 1, rest => rest.flatMap fun one => (orders f (rest.filter fun k => decide (k ≠ one))).map (one :: ·)
def LLs (ts : List Addr) (oss : List (List Nat)) (il : List (Addr × Obj)) : Prop := ts.length = oss.length ∧ ∀ (k : Nat) t, ts[k]? = some t → ∃ vs c os, oss[k]? = some os ∧ (t, lst vs c) ∈ il ∧ IntL vs os
def LLIn (l : Addr) (c : Nat) (ts : List Addr) (oss : List (List Nat)) (il : List (Addr × Obj)) : Prop := (l, lst (ts.map .ref) c) ∈ il ∧ LLs ts oss il
theorem LLs.nil (il : List (Addr × Obj)) : LLs [] [] il := ⟨rfl, fun k t h => by simp at h⟩
theorem LLs.mono {ts : List Addr} {oss : List (List Nat)} {il il' : List (Addr × Obj)} (h : LLs ts oss il) (hs : ∀ p ∈ il, p ∈ il') : LLs ts oss il' :=
  ⟨h.1, fun k t hk => let ⟨vs, c, os, a, b, d⟩ := h.2 k t hk; ⟨vs, c, os, a, hs _ b, d⟩⟩
theorem LLs.push {ts : List Addr} {oss : List (List Nat)} {il : List (Addr × Obj)} {t : Addr} {vs : List Value} {c : Nat} {os : List Nat} (h : LLs ts oss il) (hm : (t, lst vs c) ∈ il) (hi : IntL vs os) : LLs (ts ++ [t]) (oss ++ [os]) il := by
  refine ⟨by simp [h.1], fun k u hk => ?_⟩
  rw [List.getElem?_append] at hk ⊢
  rw [← h.1]
  split at hk
  · rename_i hl; rw [if_pos hl]; exact h.2 k u hk
  · rename_i hl; rw [if_neg hl]
    cases e : k - ts.length with
    | zero => rw [e] at hk; simp at hk; subst hk; exact ⟨vs, c, os, by simp, hm, hi⟩
    | succ j => rw [e] at hk; simp at hk
theorem IntL.mem {vs : List Value} {ns : List Nat} (h : IntL vs ns) {k : Nat} {v : Value} (hk : vs[k]? = some v) : ∃ n t, ns[k]? = some n ∧ v = .int (n : Nat) t := h.2 k v hk
theorem IntL.append {vs ws : List Value} {ns ms : List Nat} (h : IntL vs ns) (h' : IntL ws ms) : IntL (vs ++ ws) (ns ++ ms) := by
  refine ⟨by simp [h.1, h'.1], fun k v hk => ?_⟩
  rw [List.getElem?_append] at hk ⊢
  rw [← h.1]
  split at hk
  · rename_i hl; rw [if_pos hl]; exact h.2 k v hk
  · rename_i hl; rw [if_neg hl]; exact h'.2 _ v hk
theorem LLs.append {ts us : List Addr} {os ps : List (List Nat)} {il : List (Addr × Obj)} (h : LLs ts os il) (h' : LLs us ps il) : LLs (ts ++ us) (os ++ ps) il := by
  refine ⟨by simp [h.1, h'.1], fun k t hk => ?_⟩
  rw [List.getElem?_append] at hk ⊢
  rw [← h.1]
  split at hk
  · rename_i hl; rw [if_pos hl]; exact h.2 k t hk
  · rename_i hl; rw [if_neg hl]; exact h'.2 _ t hk
theorem filter_len {rest : List Nat} {one f : Nat} (hnd : rest.Nodup) (hlen : rest.length = f + 1) (h : one ∈ rest) : (rest.filter fun k => decide (k ≠ one)).length = f := by
  have h3 := List.length_eq_countP_add_countP (fun x => decide (x ≠ one)) (l := rest)
  have h4 : rest.countP (fun x => decide ¬ (decide (x ≠ one)) = true) = 1 := by
    have : rest.countP (fun x => decide ¬ (decide (x ≠ one)) = true) = rest.count one := by
      unfold List.count; congr 1; funext x; by_cases e : x = one <;> simp [e]
    rw [this]
    have h1 := List.nodup_iff_count.mp hnd one
    have h2 := List.count_pos_iff.mpr h
    omega
  rw [List.countP_eq_length_filter] at h3
  omega
theorem orders_len : ∀ (f : Nat) (rest : List Nat), rest.Nodup → rest.length = f → f ≤ 5 → (orders f rest).length ≤ 120 ∧ (orders f rest).length = Nat.rec 1 (fun k x => (k + 1) * x) f
  | 0, _, _, _, _ => ⟨by simp [orders], rfl⟩
  | f + 1, rest, hnd, hlen, hf => by
    have key : ∀ one ∈ rest, ((orders f (rest.filter fun k => decide (k ≠ one))).map (one :: ·)).length = Nat.rec 1 (fun k x => (k + 1) * x) f := fun one ho => by
      rw [List.length_map]; exact (orders_len f _ (hnd.filter _) (filter_len hnd hlen ho) (by omega)).2
    have e : (orders (f + 1) rest).length = (f + 1) * Nat.rec 1 (fun k x => (k + 1) * x) f := by
      rw [orders, List.length_flatMap, List.map_congr_left key]
      rw [List.map_const', List.sum_replicate_nat, hlen]
    refine ⟨?_, e⟩
    rw [e]
    have : f = 0 ∨ f = 1 ∨ f = 2 ∨ f = 3 ∨ f = 4 := by omega
    rcases this with rfl | rfl | rfl | rfl | rfl <;> decide
theorem perm3 {α : Type} (a : List α) (x y z : α) (t : List α) : List.Perm (a ++ x :: y :: z :: t) (z :: y :: (a ++ x :: t)) := by
  classical exact List.perm_iff_count.mpr fun q => by simp only [List.count_append, List.count_cons]; omega
theorem perm5 {α : Type} (x y a b c : α) (l t : List α) : List.Perm (x :: y :: a :: b :: c :: (l ++ t)) (a :: b :: c :: ((x :: y :: l) ++ t)) := by
  classical exact List.perm_iff_count.mpr fun q => by simp only [List.count_append, List.count_cons]; omega
theorem LLs.cast {ts : List Addr} {os os' : List (List Nat)} {il : List (Addr × Obj)} (h : LLs ts os il) (e : os = os') : LLs ts os' il := e ▸ h
theorem take_flat {rest : List Nat} {k one : Nat} (F : Nat → List (List Nat)) (h : rest[k]? = some one) : (rest.take (k + 1)).flatMap F = (rest.take k).flatMap F ++ F one := by
  rw [List.take_add_one, h, List.flatMap_append]; simp
theorem flat_len {F : Nat → List (List Nat)} {b : Nat} : ∀ {l : List Nat}, (∀ x ∈ l, (F x).length ≤ b) → (l.flatMap F).length ≤ l.length * b
  | [], _ => by simp
  | x :: r, h => by
    have h1 := flat_len (F := F) (b := b) (l := r) fun y hy => h y (.tail _ hy)
    have h2 := h x (.head _)
    rw [List.flatMap_cons, List.length_append, List.length_cons, Nat.succ_mul]; omega
theorem orders_elem : ∀ (f : Nat) (rest : List Nat), ∀ o ∈ orders f rest, o.length = f
  | 0, _, o, h => by simp [orders] at h; rw [h]; rfl
  | f + 1, rest, o, h => by
    rw [orders, List.mem_flatMap] at h
    obtain ⟨one, _, h⟩ := h
    obtain ⟨p, hp, rfl⟩ := List.mem_map.mp h
    rw [List.length_cons, orders_elem f _ p hp]
theorem take_map_push {α β : Type} (g : α → β) {l : List α} {j : Nat} {x : α} (h : l[j]? = some x) : (l.take (j + 1)).map g = (l.take j).map g ++ [g x] := by
  rw [List.take_add_one, h, List.map_append]; rfl
set_option maxHeartbeats 8000000 in
theorem orders_c : ∀ (f : Nat) {w : World} {A : Around} {s : Shared} {h₀ : Heap} {env : Env} {L : Addr} {m : Str → Option Value} {news : List (Addr × Obj)} {R : Result → Shared → Prop} {rl : Addr} {n : Nat} {vs : List Value} {rest : List Nat},
  Cx w A env L h₀ → St h₀ L m news s.heap → (rl, lst vs n) ∈ news → IntL vs rest → rest.Nodup → rest.length = f → f ≤ 5 → A.depth + f < recursionLimit →
  (∀ s' D c ts il, Rest s s' → St h₀ L m (il ++ news) s'.heap → LLIn D c ts (orders f rest) il → R (.ok (.ret (.ref D))) s') →
  codeAny (model PP w) A (.call (.ref 331) ⟨[.ref rl], []⟩) R s := by
  intro f
  induction f with
  | zero =>
    intro w A s h₀ env L m news R rl n vs rest C S hrl hi hnd hlen hf hroom h
    refine enterC (binds := [(Str.ofString "rest", .ref rl)]) (cn := [Str.ofString "rest"]) C S (by k_is) (by k_is) (BindsTo.of_eq rfl) (fun _ => kinds_of (by kinds_ok)) rfl (by decide) (fun g₀ L' s₁ cs cells hr C' hcs Y S' hab hlo => ?_) (by omega)
    obtain ⟨c1, rfl⟩ : ∃ c1, cs = [(Str.ofString "rest", c1)] := by
      match cs, hcs with
      | [(x, c1)], h => simp at h; exact ⟨c1, by rw [h]⟩
    obtain ⟨oc, rfl, hoc⟩ := Y.one
    replace hoc : oc.data = .cell (some (.ref rl)) := hoc
    clear Y
    have hL := S.low.1
    clear C S
    have F := S'.F
    have N := S'.N
    have X := C'.X
    obtain ⟨mean, mg, mb, T⟩ := C'.T
    have hz : vs.length ≤ 1000000 := by rw [hi.1]; omega
    have he : ((vs.length : Nat) : Int) = 0 := by rw [hi.1, hlen]; rfl
    iterate 25 (first | walk1 | (dsimp only; walk1))
    rename St _ _ _ _ _ => kS
    refine h _ _ 0 [_] [(_, _), (_, _), (c1, oc)] (by assumption) kS ⟨List.mem_cons_self, ?_⟩
    exact (LLs.nil _).push (vs := []) (c := 0) (os := []) (.tail _ (.head _)) IntL.nil
  | succ f ih =>
    intro w A s h₀ env L m news R rl n vs rest C S hrl hi hnd hlen hf hroom h
    refine enterC (binds := [(Str.ofString "rest", .ref rl)]) (cn := [Str.ofString "rest"]) C S (by k_is) (by k_is) (BindsTo.of_eq rfl) (fun _ => kinds_of (by kinds_ok)) rfl (by decide) (fun g₀ L' s₁ cs cells hr C' hcs Y S' hab hlo => ?_) (by omega)
    obtain ⟨c1, rfl⟩ : ∃ c1, cs = [(Str.ofString "rest", c1)] := by
      match cs, hcs with
      | [(x, c1)], h => simp at h; exact ⟨c1, by rw [h]⟩
    obtain ⟨oc, rfl, hoc⟩ := Y.one
    replace hoc : oc.data = .cell (some (.ref rl)) := hoc
    clear Y
    have hL := S.low.1
    clear C S
    have F := S'.F
    have N := S'.N
    have X := C'.X
    obtain ⟨mean, mg, mb, T⟩ := C'.T
    have hz : vs.length ≤ 1000000 := by rw [hi.1]; omega
    have he : ((vs.length : Nat) : Int) ≠ 0 := by rw [hi.1, hlen]; omega
    iterate 18 (first | walk1 | (dsimp only; walk1))
    rename St _ _ _ _ _ => kS
    rename Cx _ _ _ _ _ => C'
    rename Rest _ _ => kR
    refine comp2S (cn := [Str.ofString "one"]) (clo := [(Str.ofString "rest", c1)]) C' kS rfl rfl (by decide) rfl (by decide) ?_
    iterate 1 (first | walk1 | (dsimp only; walk1))
    rename St _ _ _ _ _ => kS
    rename Cx _ _ _ _ _ => C'
    rename Rest _ _ => kR
    refine iter_listS kS (.tail _ hrl) fun I o s₂ hr₂ S₂ hP => ?_
    have kR₂ := Rest.comp kR hr₂
    clear kR kS
    refine ⟨I, o, _, _, _, _, (c1, oc) :: news, rfl, IterX.list I rl vs n, S₂, hP, fun g CL D cs own hcs Y C₂ hD hID hown => ?_⟩
    obtain ⟨c2, rfl⟩ : ∃ c2, cs = [(Str.ofString "one", c2)] := by
      match cs, hcs with
      | [(x, c2)], h => simp at h; exact ⟨c2, by rw [h]⟩
    obtain ⟨oc2, rfl, hoc2⟩ := Y.one
    clear Y S₂
    refine ⟨fun k outs l => ∃ il ts oc2, l = il ++ (c2, oc2) :: (c1, oc) :: news ∧ (∃ v₀, oc2.data = .cell v₀) ∧ outs = ts.map .ref ∧ LLs ts ((rest.take k).flatMap fun one => (orders f (rest.filter fun k => decide (k ≠ one))).map (one :: ·)) il,
      ⟨[], [], oc2, rfl, ⟨_, hoc2⟩, rfl, by simpa using LLs.nil _⟩, ?_, ?_, ?_⟩
    · rintro k outs l x ⟨il, ts, oc2, rfl, _⟩
      exact .tail _ (List.mem_append_right _ (.tail _ (.tail _ hrl)))
    · rintro k _ _ v o' c mk s' hk hv ⟨il, ts, oc2, rfl, ⟨v₀, hd⟩, rfl, hll⟩ hP' hr S
      obtain ⟨one, tone, ho, rfl⟩ := hi.mem hv
      have hom := List.mem_of_getElem? ho
      refine wpAny_assign_Name (storeC S (c := c2) rfl (.tail _ (.tail _ (List.mem_append_right _ (.head _)))) hd (fun s₃ o₃ hr₃ S₃ hd₃ _ => ?_) rfl rfl)
      replace S₃ := St.put_at (pre := (I, o') :: (D, lst (ts.map .ref) c) :: il) S₃
      replace S₃ : St g CL mk ((I, o') :: (D, lst (ts.map .ref) c) :: (il ++ (c2, o₃) :: (c1, oc) :: news)) s₃.heap := S₃
      have hr₃' := hr.trans hr₃
      clear S hd hr₃ hr
      have F := S₃.F
      have N := S₃.N
      iterate 4 (first | walk1 | (dsimp only; walk1))
      rename St _ _ _ _ _ => kS
      rename Rest _ _ => kR
      rename Cx _ _ _ _ _ => C₂
      refine compS (cn := []) (clo := [(Str.ofString "one", c2)]) C₂ kS rfl rfl (by decide) rfl (by decide) ?_
      iterate 1 (first | walk1 | (dsimp only; walk1))
      rename St _ _ _ _ _ => kS
      rename Cx _ _ _ _ _ => C₂
      rename Rest _ _ => kR
      have hrl' : (rl, lst vs n) ∈ (I, o') :: (D, lst (ts.map .ref) c) :: (il ++ (c2, o₃) :: (c1, oc) :: news) := .tail _ (.tail _ (List.mem_append_right _ (.tail _ (.tail _ hrl))))
      refine iter_listS kS hrl' fun I3 oI3 s₄ hr₄ S₄ hP3 => ?_
      have kR₄ := Rest.comp kR hr₄
      clear kR kS
      refine ⟨I3, oI3, _, _, _, _, _, rfl, IterX.list I3 rl vs n, S₄, hP3, fun g3 CL3 D3 cs3 own3 hcs3 Y3 C₃ hD3 hID3 hown3 => ?_⟩
      obtain rfl : cs3 = [] := List.map_eq_nil_iff.mp hcs3
      cases Y3
      clear hcs3 hown3
      refine ⟨fun k outs l => l = (I, o') :: (D, lst (ts.map .ref) c) :: (il ++ (c2, o₃) :: (c1, oc) :: news) ∧ IntL outs ((rest.take k).filter fun k => decide (k ≠ one)), ⟨rfl, IntL.nil⟩, ⟨?_, ?_, ?_⟩, ?_⟩
      · rintro k outs l x ⟨rfl, _⟩; exact .tail _ hrl'
      · rintro k outs l ⟨rfl, h1⟩
        rw [h1.1]
        have h2 := List.length_filter_le (fun k => decide (k ≠ one)) (rest.take k)
        have h3 := List.length_take_le' k rest
        omega
      · rintro j outs _ v o4 c4 mk4 s₅ hj hv4 ⟨rfl, hout⟩ hP4 hr₅ S₅
        obtain ⟨k, tk4, hk4, rfl⟩ := hi.mem hv4
        refine wpAny_assign_Name (storeS S₅ (fun s₆ hr₆ S₆ => ?_) rfl rfl rfl)
        have hr₆' := hr₅.trans hr₆
        clear S₅ hr₅ hr₆ S₄ kR₄
        have F := S₆.F
        have N := S₆.N
        have hfk : ∀ (p : k ≠ one), ((rest.take (j + 1)).filter fun k => decide (k ≠ one)) = ((rest.take j).filter fun k => decide (k ≠ one)) ++ [k] := fun p => by
          rw [List.take_add_one, hk4, List.filter_append]; simp [p]
        have hfk' : ∀ (p : k = one), ((rest.take (j + 1)).filter fun k => decide (k ≠ one)) = ((rest.take j).filter fun k => decide (k ≠ one)) := fun p => by
          rw [List.take_add_one, hk4, List.filter_append]; simp [p]
        refine wpAny_tests_one ?_
        by_cases hko : k = one
        · have hne : ¬ ((k : Int) ≠ (one : Int)) := by omega
          have heq : (k : Int) = (one : Int) := by omega
          iterate 6 (first | walk1 | (dsimp only; walk1))
          rename St _ _ _ _ _ => kS
          exact ⟨_, _, hr₆', kS, rfl, by rw [hfk' hko]; exact hout⟩
        · have hne : (k : Int) ≠ (one : Int) := by omega
          iterate 7 (first | walk1 | (dsimp only; walk1))
          rename St _ _ _ _ _ => kS
          exact ⟨_, _, hr₆', kS, rfl, by rw [hfk hko]; exact hout.push k tk4⟩
      · rintro outs _ c4 s₅ ⟨rfl, hout⟩ hr₅ S₅
        have hr := kR₄.trans hr₅
        clear kR₄ hr₅ S₄
        rw [hi.1, List.take_length] at hout
        have F := S₅.F
        have N := S₅.N
        iterate 1 (first | walk1 | (dsimp only; walk1))
        rename St _ _ _ _ _ => S₅
        refine ⟨C₂.X.keeps S₅.F.keep, ?_⟩
        refine wpAny_call (ih C₂ S₅ List.mem_cons_self hout (hnd.filter _) (filter_len hnd hlen hom) (by omega) (by show A.depth + 1 + f < recursionLimit; omega) (fun s₆ D4 c4' ts4 il4 hr₆ S₆ hll4 => ?_))
        refine iter_listS S₆ (List.mem_append_left _ hll4.1) fun I1 oI1 s₇ hr₇ S₇ hP7 => ?_
        have S₈ := S₇.perm (List.Perm.cons _ (perm3 _ _ _ _ _))
        refine ⟨I1, oI1, _, _, _, _, _, _, fun j outs1 l1 => ∃ il1 ts1, l1 = (I, o') :: (il1 ++ (il4 ++ (D3, lst outs c4) :: (il ++ (c2, o₃) :: (c1, oc) :: news))) ∧ outs1 = (ts ++ ts1).map .ref ∧ LLs ts1 (((orders f (rest.filter fun k => decide (k ≠ one))).take j).map (one :: ·)) il1,
          rfl, IterX.list I1 D4 (ts4.map .ref) c4', hr.trans (hr₆.trans hr₇), S₈, hP7, ⟨[], [], rfl, by simp, by simpa using LLs.nil _⟩, ⟨?_, ?_, ?_⟩, ?_⟩
        · rintro j outs1 l1 x ⟨il1, ts1, rfl, _⟩
          exact .tail _ (.tail _ (List.mem_append_right _ (List.mem_append_left _ hll4.1)))
        · rintro j outs1 l1 ⟨il1, ts1, rfl, rfl, hll1⟩
          have h1 := flat_len (F := fun one => (orders f (rest.filter fun k => decide (k ≠ one))).map (one :: ·)) (b := 120) (l := rest.take k) fun x hx => by
            rw [List.length_map]; exact (orders_len f _ (hnd.filter _) (filter_len hnd hlen (List.mem_of_mem_take hx)) (by omega)).1
          have h2 := hll.1
          have h3 := hll1.1
          have h4 := (orders_len f _ (hnd.filter fun k => decide (k ≠ one)) (filter_len hnd hlen hom) (by omega)).1
          have h5 := List.length_take_le' k rest
          rw [List.length_map, List.length_take] at h3
          rw [List.length_map, List.length_append]
          have h6 : (rest.take k).length * 120 ≤ 5 * 120 := Nat.mul_le_mul_right _ (by omega)
          omega
        · rintro j outs1 l1 v o5 c5 mk5 s₉ hj hv5 ⟨il1, ts1, rfl, rfl, hll1⟩ hP5 hr₉ S₉
          rw [List.getElem?_map] at hv5
          obtain ⟨t4, ht4, rfl⟩ : ∃ t4, ts4[j]? = some t4 ∧ v = .ref t4 := by
            cases e : ts4[j]? with
            | none => rw [e] at hv5; cases hv5
            | some t => rw [e] at hv5; exact ⟨t, rfl, by injection hv5 with hv5; exact hv5.symm⟩
          obtain ⟨vs4, c6, os4, hos4, hm4, hi4⟩ := hll4.2.2 j t4 ht4
          refine wpAny_assign_Name (storeS S₉ (fun s₆ hr₁₀ S₁₀ => ?_) rfl rfl rfl)
          have hr₁₁ := hr₉.trans hr₁₀
          clear S₉ hr₉ hr₁₀ S₈ S₇ S₆ S₅
          refine wpAny_tests_nil ?_
          rw [if_pos rfl]
          have F := S₁₀.F
          have N := S₁₀.N
          have hm4' : (t4, lst vs4 c6) ∈ (I1, o5) :: (D, lst ((ts ++ ts1).map .ref) c5) :: (I, o') :: (il1 ++ (il4 ++ (D3, lst outs c4) :: (il ++ (c2, o₃) :: (c1, oc) :: news))) := .tail _ (.tail _ (.tail _ (List.mem_append_right _ (List.mem_append_left _ hm4))))
          have hz1 : [Value.int (one : Nat) tone].length + vs4.length ≤ 1000000 := by
            have h1 := hi4.1
            have h2 := orders_elem _ _ _ (List.mem_of_getElem? hos4)
            rw [h1, h2, List.length_cons, List.length_nil]; omega
          iterate 8 (first | walk1 | (dsimp only; walk1))
          rename St _ _ _ _ _ => kS
          rename Rest _ _ => kR
          refine' ⟨_, _, kR, kS.perm (perm5 _ _ _ _ _ _ _), _, ts1 ++ [?t5], rfl, ?e1, ?e2⟩
          case e1 => rw [← List.append_assoc, List.map_append (l₁ := ts ++ ts1)]; rfl
          case e2 =>
            refine ((hll1.mono fun p hp => .tail _ (.tail _ hp)).push (.head _) ((IntL.one one tone).append hi4)).cast ?_
            rw [take_map_push _ hos4, List.singleton_append]
        · rintro outs' l' ⟨il1, ts1, rfl, rfl, hll1⟩
          refine ⟨_, rfl, il1 ++ il4 ++ (D3, lst outs c4) :: il, ts ++ ts1, o₃, by simp, ⟨_, hd₃⟩, rfl, ?_⟩
          rw [List.length_map, hll4.2.1, List.take_length] at hll1
          rw [take_flat _ ho]
          exact (hll.mono fun p hp => by simp [hp]).append (hll1.mono fun p hp => by simp [hp])
    · rintro _ l c s' ⟨il, ts, oc2, rfl, _, rfl, hll⟩ hr S
      rw [hi.1, List.take_length] at hll
      iterate 1 (first | walk1 | (dsimp only; walk1))
      rename St _ _ _ _ _ => kS
      exact h s' D c ts ((D, lst (ts.map .ref) c) :: (il ++ [(c2, oc2), (c1, oc)])) (kR₂.trans hr) (by simpa using kS) ⟨.head _, hll.mono fun p hp => by simp [hp]⟩

end Mine
end
section
set_option autoImplicit false
namespace Mine
/-! plain: the distinct patterns of the orders -/
def patt (es : Eds) (o : List Nat) : List Bool := es.map fun e => decide (o.idxOf e.1 < o.idxOf e.2)
def ins (acc : List (List Bool)) (x : List Bool) : List (List Bool) := if x ∈ acc then acc else acc ++ [x]
def dirs (n : Nat) (es : Eds) : Nat := if (es.any fun e => decide (e.1 = e.2)) = true then 0 else (((orders n (List.range n)).map (patt es)).foldl ins []).length
theorem ins_spec : ∀ (l acc : List (List Bool)), acc.Nodup → (l.foldl ins acc).Nodup ∧ ∀ x, x ∈ l.foldl ins acc ↔ x ∈ acc ∨ x ∈ l
  | [], acc, h => ⟨h, fun x => by simp⟩
  | y :: l, acc, h => by
    have hy : (ins acc y).Nodup ∧ ∀ x, x ∈ ins acc y ↔ x ∈ acc ∨ x = y := by
      unfold ins
      by_cases e : y ∈ acc
      · rw [if_pos e]; exact ⟨h, fun x => ⟨.inl, fun q => q.elim id fun q => q ▸ e⟩⟩
      · rw [if_neg e]
        refine ⟨?_, fun x => by simp⟩
        rw [List.nodup_append]
        exact ⟨h, by simp, fun a ha b hb q => by simp at hb; rw [q, hb] at ha; exact e ha⟩
    obtain ⟨a, b⟩ := ins_spec l (ins acc y) hy.1
    refine ⟨a, fun x => ?_⟩
    show x ∈ List.foldl ins (ins acc y) l ↔ _
    rw [b x, hy.2 x, List.mem_cons, or_assoc]
theorem len_same {α : Type} [DecidableEq α] {l l' : List α} (h : l.Nodup) (h' : l'.Nodup) (hm : ∀ x, x ∈ l ↔ x ∈ l') : l.length = l'.length := by
  apply List.Perm.length_eq
  rw [List.perm_iff_count]
  intro a
  have k : ∀ {l : List α}, l.Nodup → a ∈ l → l.count a = 1 := fun h q => by
    have h1 := List.nodup_iff_count.mp h a
    have h2 := List.count_pos_iff.mpr q
    omega
  by_cases q : a ∈ l
  · rw [k h q, k h' ((hm a).mp q)]
  · rw [List.count_eq_zero.mpr q, List.count_eq_zero.mpr fun z => q ((hm a).mpr z)]
theorem orders_mem : ∀ (f : Nat) (rest : List Nat), rest.Nodup → rest.length = f → ∀ o, o ∈ orders f rest ↔ o.Perm rest
  | 0, rest, _, hl, o => by
    obtain rfl := List.length_eq_zero_iff.mp hl
    simp [orders]
  | f + 1, rest, hn, hl, o => by
    rw [orders, List.mem_flatMap]
    have hp : ∀ one ∈ rest, (one :: rest.filter fun k => decide (k ≠ one)).Perm rest := fun one ho => by
      rw [List.perm_iff_count]
      intro a
      have e1 : rest.count one = 1 := by
        have h1 := List.nodup_iff_count.mp hn one
        have h2 := List.count_pos_iff.mpr ho
        omega
      rw [List.count_cons]
      by_cases q : a = one
      · subst q
        rw [List.count_eq_zero.mpr (fun z => by simp at z)]
        simp [e1]
      · rw [List.count_filter (by simpa using q)]
        have : (one == a) = false := by simpa using fun z => q z.symm
        simp [this]
    constructor
    · rintro ⟨one, ho, h⟩
      obtain ⟨t, ht, rfl⟩ := List.mem_map.mp h
      have := (orders_mem f _ (hn.filter _) (filter_len hn hl ho) t).mp ht
      exact (this.cons one).trans (hp one ho)
    · intro h
      cases o with
      | nil => have := h.length_eq; rw [hl] at this; cases this
      | cons one t =>
        have ho : one ∈ rest := h.mem_iff.mp (.head _)
        refine ⟨one, ho, List.mem_map.mpr ⟨t, ?_, rfl⟩⟩
        rw [orders_mem f _ (hn.filter _) (filter_len hn hl ho)]
        exact (h.trans (hp one ho).symm).cons_inv
theorem fits_patt {h : Nat → Int} {o : List Nat} : ∀ {E : Eds} {σ : List Bool}, Fits h E σ → (∀ p ∈ E, (h p.1 < h p.2 → o.idxOf p.1 < o.idxOf p.2) ∧ (h p.2 < h p.1 → o.idxOf p.2 < o.idxOf p.1)) → patt E o = σ
  | [], [], _, _ => rfl
  | [], _ :: _, h, _ => h.elim
  | _ :: _, [], h, _ => h.elim
  | (a, b) :: E, s :: σ, hf, hk => by
    have ih := fits_patt hf.2 fun p hp => hk p (.tail _ hp)
    obtain ⟨k1, k2⟩ := hk (a, b) (.head _)
    have h1 := hf.1
    unfold patt at ih ⊢
    rw [List.map_cons, ih]
    congr 1
    cases s with
    | true => rw [if_pos rfl] at h1; exact decide_eq_true (k1 h1)
    | false => rw [if_neg Bool.false_ne_true] at h1; exact decide_eq_false (by have := k2 h1; omega)
theorem patt_fits {o : List Nat} : ∀ {E : Eds}, (∀ p ∈ E, o.idxOf p.1 ≠ o.idxOf p.2) → Fits (fun x => (o.idxOf x : Int)) E (patt E o)
  | [], _ => trivial
  | (a, b) :: E, h => by
    refine ⟨?_, patt_fits fun p hp => h p (.tail _ hp)⟩
    have := h (a, b) (.head _)
    simp only at this
    by_cases q : o.idxOf a < o.idxOf b
    · rw [if_pos (decide_eq_true q)]; show (o.idxOf a : Int) < (o.idxOf b : Int); omega
    · show (if decide (o.idxOf a < o.idxOf b) = true then _ else _)
      rw [decide_eq_false q, if_neg Bool.false_ne_true]; show (o.idxOf b : Int) < (o.idxOf a : Int); omega
theorem fits_len {h : Nat → Int} : ∀ {E : Eds} {σ : List Bool}, Fits h E σ → σ.length = E.length
  | [], [], _ => rfl
  | [], _ :: _, h => h.elim
  | _ :: _, [], h => h.elim
  | _ :: E, _ :: σ, h => by rw [List.length_cons, List.length_cons, fits_len h.2]
theorem pats_mem : ∀ {m : Nat} {σ : List Bool}, σ ∈ pats m ↔ σ.length = m
  | 0, σ => by simp [pats]
  | m + 1, σ => by
    rw [pats, List.mem_append, List.mem_map, List.mem_map]
    cases σ with
    | nil => simp
    | cons s σ => cases s <;> simp [pats_mem]
theorem pats_nodup : ∀ m, (pats m).Nodup
  | 0 => by simp [pats]
  | m + 1 => by
    rw [pats, List.nodup_append]
    have k : ∀ b, ((pats m).map (b :: ·)).Nodup := fun b => by
      refine List.Pairwise.map _ (fun x y h q => h ?_) (pats_nodup m)
      injection q
    refine ⟨k true, k false, fun a ha b hb e => ?_⟩
    obtain ⟨x, _, rfl⟩ := List.mem_map.mp ha
    obtain ⟨y, _, rfl⟩ := List.mem_map.mp hb
    injection e with e _; cases e
theorem fits_edge {h : Nat → Int} : ∀ {E : Eds} {σ : List Bool}, Fits h E σ → ∀ p ∈ E, h p.1 ≠ h p.2
  | [], [], _, _, hp => nomatch hp
  | [], _ :: _, h, _, _ => h.elim
  | _ :: _, [], h, _, _ => h.elim
  | (a, b) :: E, s :: σ, hf, p, hp => by
    rcases List.mem_cons.mp hp with rfl | hp
    · have h1 := hf.1
      split at h1 <;> simp only <;> omega
    · exact fits_edge hf.2 p hp
theorem sorted_idx {h : Nat → Int} {o : List Nat} (hs : o.Pairwise fun a b => h a ≤ h b) {a b : Nat} (ha : a ∈ o) (hb : b ∈ o) (hab : h a < h b) : o.idxOf a < o.idxOf b := by
  rcases Nat.lt_or_ge (o.idxOf a) (o.idxOf b) with q | q
  · exact q
  · exfalso
    have la := List.idxOf_lt_length_of_mem ha
    have lb := List.idxOf_lt_length_of_mem hb
    have ea := List.getElem_idxOf la
    have eb := List.getElem_idxOf lb
    rcases Nat.lt_or_ge (o.idxOf b) (o.idxOf a) with r | r
    · have := List.pairwise_iff_getElem.mp hs _ _ lb la r
      rw [ea, eb] at this; omega
    · have e : o.idxOf a = o.idxOf b := by omega
      have : a = b := by rw [← ea, ← eb]; simp only [e]
      rw [this] at hab; omega
theorem dirs_acy {n : Nat} {es : Eds} (hE : InR n es) : dirs n es = Acy [] es := by
  unfold dirs
  classical
  by_cases hl : (es.any fun e => decide (e.1 = e.2)) = true
  · rw [if_pos hl]
    obtain ⟨p, hp, hq⟩ := List.any_eq_true.mp hl
    have hq : p.1 = p.2 := of_decide_eq_true hq
    unfold Acy
    symm
    rw [List.length_eq_zero_iff, List.filter_eq_nil_iff]
    intro σ _ hr
    obtain ⟨h, _, hf⟩ := of_decide_eq_true hr
    exact fits_edge hf p hp (by rw [hq])
  · rw [if_neg hl]
    have hne : ∀ p ∈ es, p.1 ≠ p.2 := fun p hp q => hl (List.any_eq_true.mpr ⟨p, hp, decide_eq_true q⟩)
    obtain ⟨hn, hm⟩ := ins_spec ((orders n (List.range n)).map (patt es)) [] List.nodup_nil
    unfold Acy
    classical
    refine len_same hn ((pats_nodup _).filter _) fun σ => ?_
    rw [hm σ, List.mem_filter, pats_mem, List.mem_map]
    have om := orders_mem n (List.range n) List.nodup_range List.length_range
    constructor
    · rintro (h | ⟨o, ho, rfl⟩)
      · cases h
      · refine ⟨by simp [patt], decide_eq_true ⟨_, (fun p hp => nomatch hp), patt_fits fun p hp q => hne p hp ?_⟩⟩
        have hp1 : p.1 ∈ o := ((om o).mp ho).mem_iff.mpr (List.mem_range.mpr (hE p hp).1)
        have hp2 : p.2 ∈ o := ((om o).mp ho).mem_iff.mpr (List.mem_range.mpr (hE p hp).2)
        have l1 := List.idxOf_lt_length_of_mem hp1
        have l2 := List.idxOf_lt_length_of_mem hp2
        rw [← List.getElem_idxOf l1, ← List.getElem_idxOf l2]; simp only [q]
    · rintro ⟨hlen, hr⟩
      obtain ⟨h, _, hf⟩ := of_decide_eq_true hr
      right
      let le : Nat → Nat → Bool := fun a b => decide (h a ≤ h b)
      have hperm := List.mergeSort_perm (List.range n) le
      have hsort : ((List.range n).mergeSort le).Pairwise fun a b => le a b = true := List.pairwise_mergeSort (le := le)
        (fun a b c x y => decide_eq_true (by have := of_decide_eq_true x; have := of_decide_eq_true y; omega))
        (fun a b => by simp only [le, Bool.or_eq_true, decide_eq_true_eq]; omega) _
      have hs : ((List.range n).mergeSort le).Pairwise fun a b => h a ≤ h b := hsort.imp fun x => of_decide_eq_true x
      refine ⟨(List.range n).mergeSort le, (om _).mpr hperm, fits_patt hf fun p hp => ?_⟩
      have h1 : p.1 ∈ (List.range n).mergeSort le := hperm.mem_iff.mpr (List.mem_range.mpr (hE p hp).1)
      have h2 : p.2 ∈ (List.range n).mergeSort le := hperm.mem_iff.mpr (List.mem_range.mpr (hE p hp).2)
      exact ⟨fun q => sorted_idx hs h1 h2 q, fun q => sorted_idx hs h2 h1 q⟩
end Mine
end
section
open PySem PySem.W PySem.Calls PyProof.Rows PySem.SetTable
set_option maxRecDepth 100000
namespace Mine
/-! the finite checks -/
def tupH (σ : List Bool) : Int := reduceHash (Builtin.Tuple.tupleHashOf (σ.map fun b => if b then 1 else 0))
def chks (b : Nat) : Bool := chk 7 16 b 4 && (chk 31 7 b 5 && (chk 31 75 b 18 && (chk 127 34 b 19 && chk 127 144 b 64)))
/-- the hashes of the tuples of up to six bools, as bits -/
def tbl : List (List Nat) := [[5740354900026072187],
  [11802529618835948721, 9693246245718318424],
  [8389048192121911274, 13282122221094607640, 16496245626129029056, 9988604870027030631],
  [5750192569890809213, 17689295887498362404, 2946073206561277986, 7839147235533974352, 14127049709933618783, 7619408953831620358, 16564107556673864476, 3010437511937009226],
  [18362021435687317949, 9206708773934830827, 2352335208718012026, 7245409237690708392, 14297497887659093959, 12188214514541463662, 8845706618679074035, 2338065862577075610, 10988056849661620453, 4480416093559622028, 13425114696401866146, 6917473940299867721, 8733206854025664795, 2225566097923666370, 5929087490696133568, 15220518902653198062],
  [7340327685198478874, 12233401714171175240, 14604705292120187864, 1051035247383332614, 5085477689562523216, 17024581007170076407, 13682073111307686780, 11572789738190056483, 16914889966205377635, 3361219921468522385, 6575343326502943801, 67702570400945376, 17677686178358616942, 4124016133621761692, 15716386642114494507, 2162716597377639257, 5946627190402706454, 17885730508010259645, 3985327654158584019, 1876044281040953722, 10737806483401607621, 15630880512374303987, 1730477658522628361, 18067938359114549680, 5725133131203991206, 17664236448811544397, 3763833594959868771, 15702936912567421962, 15708996273900950704, 13599712900783320407, 4526629807113108078, 16465733124720661269],
  [17170419906282136920, 3616749861545281670, 7320271254317748868, 12213345283290445234, 10960999007489998631, 15854073036462694997, 1110850355525610579, 6003924384498306945, 12550568464099053544, 3395255802346566422, 14987626310839299237, 1433956266102443987, 597195800350563937, 12536299117958117128, 15750422522992538544, 2196752478255683294, 2130584131785935922, 14069687449393489113, 17773208842165956311, 8617896180413469189, 10507441271828745492, 8398157898711115195, 12944499118568991185, 6436858362466992760, 7750575509636652052, 12643649538609348418, 16347170931381815616, 14237887558264185319, 18272330000443375921, 4718659955706520671, 8422181348478987869, 13315255377451684235, 6678686898163815067, 4569403525046184770, 9115744744904060760, 2608103988802062335, 17200441388970538936, 15091158015852908639, 13906924037902961927, 353253993166106677, 297655263960181948, 12236758581567735139, 8894250685705345512, 2386609929603347087, 16978947329771823688, 10471306573669825263, 13685429978704246679, 131759933967391429, 14111623474116501697, 12002340100998871400, 16548681320856747390, 10041040564754748965, 6186633891213673950, 4077350518096043653, 8623691737953919643, 2116050981851921218, 18016046167856528369, 4462376123119673119, 7676499528154094535, 1168858772052096110, 11806625269064390080, 2651312607311902958, 14243683115804635773, 690013071067780523]]
theorem tbl_ok : ((List.range 7).map fun m => (pats m).map fun σ => bits (tupH σ)) = tbl := by decide +kernel
def cvr (mask : Nat) : Nat → Nat → Nat → Nat → Nat → Nat → Nat := fun K => Nat.rec (motive := fun _ => Nat → Nat → Nat → Nat → Nat → Nat) (fun _ _ _ _ acc => acc)
  (fun _ ih j more i per acc => bif Nat.blt 0 more then ih (j + 1) (more - 1) i per (acc ||| 2 ^ j) else
    ih ((i * 5 + 1 + per / 32) % (mask + 1)) (bif Nat.ble ((i * 5 + 1 + per / 32) % (mask + 1) + 9) mask then 9 else 0) ((i * 5 + 1 + per / 32) % (mask + 1)) (per / 32) (acc ||| 2 ^ j)) K
def pcr (acc n : Nat) : Nat → Nat := Nat.rec (motive := fun _ => Nat → Nat) (fun c => c) (fun k ih c => ih (c + acc / 2 ^ k % 2)) n
def ckr (mask K b N : Nat) : Bool := Nat.blt N (pcr (cvr mask K (b % (mask + 1)) (bif Nat.ble (b % (mask + 1) + 9) mask then 9 else 0) (b % (mask + 1)) b 0) (mask + 1) 0)
theorem run_more (mask i : Nat) : runEnd mask i - i = bif Nat.ble (i + 9) mask then 9 else 0 := by
  unfold runEnd
  by_cases h : i + 9 ≤ mask
  · rw [if_pos h, Nat.ble_eq_true_of_le h]; show i + 9 - i = 9; omega
  · rw [if_neg h, show Nat.ble (i + 9) mask = false from Bool.eq_false_iff.mpr fun q => h (Nat.le_of_ble_eq_true q)]; show i - i = 0; omega
theorem cvr_eq (mask : Nat) : ∀ (K : Nat) (p : Probe) (acc : Nat), cvr mask K p.j p.more p.i p.perturb acc = cover mask K p acc
  | 0, _, _ => rfl
  | K + 1, p, acc => by
    show (bif Nat.blt 0 p.more then cvr mask K (p.j + 1) (p.more - 1) p.i p.perturb (acc ||| 2 ^ p.j) else
      cvr mask K ((p.i * 5 + 1 + p.perturb / 32) % (mask + 1)) (bif Nat.ble ((p.i * 5 + 1 + p.perturb / 32) % (mask + 1) + 9) mask then 9 else 0) ((p.i * 5 + 1 + p.perturb / 32) % (mask + 1)) (p.perturb / 32) (acc ||| 2 ^ p.j)) = cover mask K (adv mask p) (acc ||| 2 ^ p.j)
    rw [← cvr_eq mask K (adv mask p)]
    unfold adv
    by_cases h : p.more > 0
    · rw [if_pos h, show Nat.blt 0 p.more = true from Nat.ble_eq_true_of_le h]; rfl
    · rw [if_neg h, show Nat.blt 0 p.more = false from Bool.eq_false_iff.mpr fun q => h (Nat.le_of_ble_eq_true q), ← run_more]; rfl
theorem pcr_eq (acc : Nat) : ∀ (n c : Nat), pcr acc n c = c + ((List.range n).filter fun j => acc.testBit j).length
  | 0, c => rfl
  | n + 1, c => by
    show pcr acc n (c + acc / 2 ^ n % 2) = _
    rw [pcr_eq acc n, List.range_succ, List.filter_append, List.length_append, ← Nat.toNat_testBit]
    cases h : acc.testBit n <;> simp [h] <;> omega
theorem chk_of_ckr {mask K b N : Nat} (h : ckr mask K b N = true) : chk mask K b N = true := by
  unfold ckr at h
  rw [← run_more, show cvr mask K (b % (mask + 1)) (runEnd mask (b % (mask + 1)) - b % (mask + 1)) (b % (mask + 1)) b 0 = cover mask K (start mask b) 0 from cvr_eq mask K (start mask b) 0, pcr_eq, Nat.zero_add] at h
  exact decide_eq_true (Nat.le_of_ble_eq_true h)
theorem ck1 : (tbl.all fun l => l.all fun b => ckr 7 16 b 4) = true := by decide +kernel
theorem ck2 : (tbl.all fun l => l.all fun b => ckr 31 7 b 5) = true := by decide +kernel
theorem ck3 : (tbl.all fun l => l.all fun b => ckr 31 75 b 18) = true := by decide +kernel
theorem ck4 : (tbl.all fun l => l.all fun b => ckr 127 34 b 19) = true := by decide +kernel
theorem ck5 : (tbl.all fun l => l.all fun b => ckr 127 144 b 64) = true := by decide +kernel
def ndist : List Nat → Bool
  | [] => true
  | a :: l => l.all (fun b => !(Nat.beq a b)) && ndist l
theorem ndist_all : (tbl.all ndist) = true := by decide +kernel
theorem ndist_nodup : ∀ {l : List Nat}, ndist l = true → l.Nodup
  | [], _ => List.nodup_nil
  | a :: l, h => by
    rw [ndist, Bool.and_eq_true, List.all_eq_true] at h
    rw [List.nodup_cons]
    refine ⟨fun ha => ?_, ndist_nodup h.2⟩
    have := h.1 a ha
    simp at this
theorem tbl_all {f : List Nat → Bool} (h : tbl.all f = true) {m : Nat} (hm : m ≤ 6) : f ((pats m).map fun σ => bits (tupH σ)) = true := by
  rw [← tbl_ok, List.all_map] at h
  exact List.all_eq_true.mp h m (List.mem_range.mpr (by omega))
theorem chk_of {σ : List Bool} (h : σ.length ≤ 6) : chks (bits (tupH σ)) = true := by
  have key : ∀ {f : Nat → Bool}, (tbl.all fun l => l.all f) = true → f (bits (tupH σ)) = true := fun hf => by
    have := tbl_all hf h
    exact List.all_eq_true.mp this _ (List.mem_map.mpr ⟨σ, pats_mem.mpr rfl, rfl⟩)
  have q1 : chk 7 16 (bits (tupH σ)) 4 = true := chk_of_ckr (key (f := fun b => ckr 7 16 b 4) ck1)
  have q2 : chk 31 7 (bits (tupH σ)) 5 = true := chk_of_ckr (key (f := fun b => ckr 31 7 b 5) ck2)
  have q3 : chk 31 75 (bits (tupH σ)) 18 = true := chk_of_ckr (key (f := fun b => ckr 31 75 b 18) ck3)
  have q4 : chk 127 34 (bits (tupH σ)) 19 = true := chk_of_ckr (key (f := fun b => ckr 127 34 b 19) ck4)
  have q5 : chk 127 144 (bits (tupH σ)) 64 = true := chk_of_ckr (key (f := fun b => ckr 127 144 b 64) ck5)
  unfold chks
  rw [q1, q2, q3, q4, q5]; rfl
theorem hash_inj {σ τ : List Bool} (h : σ.length ≤ 6) (hl : τ.length = σ.length) (e : tupH σ = tupH τ) : σ = τ := by
  have h1 := ndist_nodup (tbl_all ndist_all h)
  obtain ⟨i, hi⟩ := List.getElem?_of_mem (pats_mem.mpr (rfl : σ.length = σ.length))
  obtain ⟨j, hj⟩ := List.getElem?_of_mem (pats_mem.mpr hl)
  have hi' : ((pats σ.length).map fun σ => bits (tupH σ))[i]? = some (bits (tupH σ)) := by rw [List.getElem?_map, hi]; rfl
  have hj' : ((pats σ.length).map fun σ => bits (tupH σ))[j]? = some (bits (tupH τ)) := by rw [List.getElem?_map, hj]; rfl
  have := (List.getElem?_inj (List.getElem?_eq_some_iff.mp hi').1 h1).mp (hi'.trans ((congrArg (fun x => some (bits x)) e).trans hj'.symm))
  subst this
  rw [hi] at hj; exact Option.some.inj hj
/-! the table of a set -/
structure TabIs (es : Array (Int × Value)) (t : SetTable) (zs : List (Nat × Int × Value)) : Prop where
  pl : t.place.toList = zs.map (·.1)
  el : es.toList = zs.map (·.2)
  dm : t.dummies = #[]
  siz : t.mask = 7 ∧ zs.length ≤ 4 ∨ t.mask = 31 ∧ zs.length ≤ 18 ∨ t.mask = 127 ∧ zs.length ≤ 64
  inc : t.place.toList.Pairwise (· < ·)
  rch : ∀ z ∈ zs, ReachS t.mask t.place.toList (bits z.2.1) z.1
theorem put_zs {es : Array (Int × Value)} {t : SetTable} {zs : List (Nat × Int × Value)} {h : Int} {x : Value} {j : Nat} (pl : t.place.toList = zs.map (·.1)) (el : es.toList = zs.map (·.2)) (dm : t.dummies = #[])
    (inc : t.place.toList.Pairwise (· < ·)) (rch : ∀ z ∈ zs, ReachS t.mask t.place.toList (bits z.2.1) z.1) (hj : j ∉ t.place.toList) (hr : ReachS t.mask t.place.toList (bits h) j) :
    ∃ (p : Nat) (zs' : List (Nat × Int × Value)), t.put j = ({ t with place := insertAt t.place p j, dummies := #[] }, p) ∧ (insertAt t.place p j).toList = zs'.map (·.1) ∧ (insertAt es p (h, x)).toList = zs'.map (·.2) ∧
      (insertAt t.place p j).toList.Pairwise (· < ·) ∧ (∀ z ∈ zs', ReachS t.mask (insertAt t.place p j).toList (bits z.2.1) z.1) ∧ ∀ z, z ∈ zs' ↔ z = (j, h, x) ∨ z ∈ zs := by
  have hz : ∀ (p : Nat) z, z ∈ zs.take p ++ (j, h, x) :: zs.drop p ↔ z = (j, h, x) ∨ z ∈ zs := fun p z => by
    have : z ∈ zs ↔ z ∈ zs.take p ∨ z ∈ zs.drop p := by rw [← List.mem_append, List.take_append_drop]
    rw [this, List.mem_append, List.mem_cons]
    constructor
    · rintro (a | a | a)
      · exact .inr (.inl a)
      · exact .inl a
      · exact .inr (.inr a)
    · rintro (a | a | a)
      · exact .inr (.inl a)
      · exact .inl a
      · exact .inr (.inr a)
  have hp : (insertAt t.place (below t.place j) j).toList = (zs.take (below t.place j) ++ (j, h, x) :: zs.drop (below t.place j)).map (·.1) := by
    rw [toList_insertAt, pl, List.map_append, List.map_cons, List.map_take, List.map_drop]
  have hmem : ∀ y, y ∈ (insertAt t.place (below t.place j) j).toList ↔ y = j ∨ y ∈ t.place.toList := fun y => by
    rw [(insertAt_perm t.place (below t.place j) j).mem_iff, Array.toList_push, List.mem_append, List.mem_singleton]
    exact Or.comm
  refine ⟨below t.place j, zs.take (below t.place j) ++ (j, h, x) :: zs.drop (below t.place j), ?_, hp, ?_, ?_, fun z hzz => ?_, hz _⟩
  · unfold SetTable.put
    have : ¬ SetTable.has t.dummies j = true := by unfold SetTable.has; rw [dm]; simp
    rw [if_neg this, dm]
  · rw [toList_insertAt, el, List.map_append, List.map_cons, List.map_take, List.map_drop]
  · rw [toList_insertAt]
    obtain ⟨_, b2, b3, b4⟩ := below_at inc j
    have h0 := inc
    rw [← List.take_append_drop (below t.place j) t.place.toList, List.pairwise_append] at h0
    have hlt : ∀ y ∈ t.place.toList.take (below t.place j), y < j := fun y hy => by
      obtain ⟨i, hi, rfl⟩ := List.getElem_of_mem hy
      rw [List.length_take] at hi
      have hi1 : i < below t.place j := by omega
      have := b3 i hi1
      have hs : i < t.place.size := by omega
      simpa [Array.getD, hs] using this
    have hgt : ∀ y ∈ t.place.toList.drop (below t.place j), j < y := fun y hy => by
      obtain ⟨i, hi, rfl⟩ := List.getElem_of_mem hy
      rw [List.length_drop, Array.length_toList] at hi
      have hs : below t.place j + i < t.place.size := by omega
      have := b4 (below t.place j + i) (by omega) hs
      have e : (t.place.toList.drop (below t.place j))[i] = t.place[below t.place j + i] := by simp
      have hne : t.place[below t.place j + i] ≠ j := fun q => hj (by rw [← q]; simp)
      rw [e]
      simp [Array.getD, hs] at this
      omega
    rw [List.pairwise_append, List.pairwise_cons]
    refine ⟨h0.1, ⟨hgt, h0.2.1⟩, fun a ha b hb => ?_⟩
    rcases List.mem_cons.mp hb with rfl | hb
    · exact hlt a ha
    · exact h0.2.2 a ha b hb
  · rcases (hz _ z).mp hzz with rfl | q
    · exact hr.mono fun y hy => (hmem y).mpr (.inr hy)
    · exact (rch z q).mono fun y hy => (hmem y).mpr (.inr hy)
/-! laying the table anew -/
theorem stp_run (mask i per : Nat) (d : Option Nat) : ∀ (k j m : Nat), k ≤ m → stp mask k ⟨j, m, i, per, d⟩ = ⟨j + k, m - k, i, per, d⟩
  | 0, j, m, _ => rfl
  | k + 1, j, m, h => by
    have e : adv mask ⟨j, m, i, per, d⟩ = ⟨j + 1, m - 1, i, per, d⟩ := by
      unfold adv; rw [if_pos (by show m > 0; omega)]
    rw [stp, e, stp_run mask i per d k _ _ (by omega)]
    congr 1 <;> omega
def runAt (mask i per : Nat) : Probe := ⟨i, runEnd mask i - i, i, per, none⟩
theorem stp_leap (mask i per : Nat) : stp mask (runEnd mask i - i + 1) (runAt mask i per) = runAt mask (leap mask i per).1 (leap mask i per).2 := by
  rw [stp_add, runAt, stp_run _ _ _ _ _ _ _ (Nat.le_refl _)]
  show adv mask _ = _
  unfold adv
  rw [if_neg (by simp)]
  rfl
theorem free_spec {mask : Nat} {owner : Array (Option Nat)} : ∀ (fuel i per : Nat), i ≤ mask → (∃ k, k < fuel ∧ (owner.getD (stp mask k (runAt mask i per)).j (some 0)).isNone = true) →
    ∃ k j, layClean.free mask owner fuel i per = some j ∧ (stp mask k (runAt mask i per)).j = j ∧ (owner.getD j (some 0)).isNone = true ∧ ∀ k', k' < k → (owner.getD (stp mask k' (runAt mask i per)).j (some 0)).isNone = false
  | 0, _, _, _, ⟨k, hk, _⟩ => absurd hk (Nat.not_lt_zero _)
  | fuel + 1, i, per, hi, ⟨k, hk, hn⟩ => by
    have hr := runEnd_le hi
    have hrun : ∀ k', k' ≤ runEnd mask i - i → (stp mask k' (runAt mask i per)).j = i + k' := fun k' hk' => by
      rw [runAt, stp_run _ _ _ _ _ _ _ hk']
    rw [layClean.free]
    cases hf : (List.range (runEnd mask i + 1 - i)).find? fun k => (owner.getD (i + k) (some 0)).isNone with
    | some k1 =>
      dsimp only
      obtain ⟨h1, as, bs, hspl, h2⟩ := List.find?_eq_some_iff_append.mp hf
      have hk1 : k1 < runEnd mask i + 1 - i := List.mem_range.mp (List.mem_of_find?_eq_some hf)
      refine ⟨k1, i + k1, rfl, hrun k1 (by omega), h1, fun k' hk' => ?_⟩
      rw [hrun k' (by omega)]
      have hlen : as.length = k1 := by
        have e1 : (List.range (runEnd mask i + 1 - i))[as.length]? = some k1 := by rw [hspl]; simp
        rw [List.getElem?_range] at e1
        · exact Option.some.inj e1
        · have := congrArg List.length hspl; simp at this; omega
      have hm : k' ∈ as := by
        have e1 : (List.range (runEnd mask i + 1 - i))[k']? = some k' := by rw [List.getElem?_range (by omega)]
        rw [hspl, List.getElem?_append_left (by omega)] at e1
        exact List.mem_of_getElem? e1
      have := h2 k' hm
      simpa only [Bool.not_eq_true', Bool.not_not] using this
    | none =>
      dsimp only
      have hno : ∀ k', k' < runEnd mask i + 1 - i → (owner.getD (i + k') (some 0)).isNone = false := fun k' hk' => by
        exact Bool.eq_false_iff.mpr (List.find?_eq_none.mp hf k' (List.mem_range.mpr hk'))
      have hkr : runEnd mask i - i < k := by
        rcases Nat.lt_or_ge (runEnd mask i - i) k with q | q
        · exact q
        · rw [hrun k q, hno k (by omega)] at hn; cases hn
      obtain ⟨k2, rfl⟩ : ∃ k2, k = (runEnd mask i - i + 1) + k2 := ⟨k - (runEnd mask i - i + 1), by omega⟩
      rw [stp_add, stp_leap] at hn
      obtain ⟨k3, j, e1, e2, e3, e4⟩ := free_spec fuel (leap mask i per).1 (leap mask i per).2 (Nat.le_of_lt_succ (Nat.mod_lt _ (Nat.succ_pos _))) ⟨k2, by omega, hn⟩
      refine ⟨(runEnd mask i - i + 1) + k3, j, e1, by rw [stp_add, stp_leap]; exact e2, e3, fun k' hk' => ?_⟩
      rcases Nat.lt_or_ge (runEnd mask i - i) k' with q | q
      · obtain ⟨k4, rfl⟩ : ∃ k4, k' = (runEnd mask i - i + 1) + k4 := ⟨k' - (runEnd mask i - i + 1), by omega⟩
        rw [stp_add, stp_leap]
        exact e4 k4 (by omega)
      · rw [hrun k' q]; exact hno k' (by omega)
structure OwnIs (mask : Nat) (hs : List Int) (owner : Array (Option Nat)) (pos : List Nat) : Prop where
  sz : owner.size = mask + 1
  nd : pos.Nodup
  le : ∀ j ∈ pos, j ≤ mask
  own : ∀ (j i : Nat), j ≤ mask → (owner.getD j none = some i ↔ pos[i]? = some j)
  rch : ∀ (i j : Nat) (h : Int), pos[i]? = some j → hs[i]? = some h → ReachS mask pos (bits h) j
theorem OwnIs.free {mask : Nat} {hs : List Int} {owner : Array (Option Nat)} {pos : List Nat} (O : OwnIs mask hs owner pos) {j : Nat} (hj : j ≤ mask) : (owner.getD j (some 0)).isNone = true ↔ j ∉ pos := by
  have hlt : j < owner.size := by rw [O.sz]; omega
  have e1 : owner.getD j (some 0) = owner[j] := by simp [Array.getD, hlt]
  have e2 : owner.getD j none = owner[j] := by simp [Array.getD, hlt]
  rw [e1]
  constructor
  · intro h hm
    obtain ⟨i, hi⟩ := List.getElem?_of_mem hm
    have := (O.own j i hj).mpr hi
    rw [e2] at this; rw [this] at h; cases h
  · intro h
    cases ho : owner[j] with
    | none => rfl
    | some i => exact absurd (List.mem_of_getElem? ((O.own j i hj).mp (by rw [e2, ho]))) h
theorem getElem?_snoc {α : Type} (l : List α) (x : α) (i : Nat) : (l ++ [x])[i]? = if i = l.length then some x else l[i]? := by
  rw [List.getElem?_append]
  by_cases h : i < l.length
  · rw [if_pos h, if_neg (by omega)]
  · rw [if_neg h]
    by_cases e : i = l.length
    · rw [if_pos e, e, Nat.sub_self]; rfl
    · rw [if_neg e, List.getElem?_eq_none (by simp; omega), List.getElem?_eq_none (by omega)]
theorem lay_fold {mask K N : Nat} (hK : K ≤ turns mask) {hs : List Int} (hc : ∀ h ∈ hs, chk mask K (bits h) N = true) (hN : hs.length ≤ N + 1) : ∀ (done rest : List Int) (owner : Array (Option Nat)) (pos : List Nat), hs = done ++ rest → pos.length = done.length → OwnIs mask hs owner pos →
    ∃ (owner' : Array (Option Nat)) (pos' : List Nat), (rest.foldl (fun (acc : Option (Array (Option Nat) × Nat)) h => do
      let (owner, k) ← acc
      let j ← layClean.free mask owner (turns mask) (bits h % (mask + 1)) (bits h)
      pure (owner.setIfInBounds j (some k), k + 1)) (some (owner, pos.length))) = some (owner', hs.length) ∧ pos'.length = hs.length ∧ OwnIs mask hs owner' pos'
  | done, [], owner, pos, e, hl, O => ⟨owner, pos, by rw [e, List.append_nil, ← hl]; rfl, by rw [hl, e, List.append_nil], O⟩
  | done, h :: rest, owner, pos, e, hl, O => by
    have hh : h ∈ hs := by rw [e]; simp
    have hlen := congrArg List.length e
    rw [List.length_append, List.length_cons] at hlen
    obtain ⟨k, hk, hn⟩ := esc (hc h hh) (F := pos) (by omega)
    have hst : start mask (bits h) = runAt mask (bits h % (mask + 1)) (bits h) := rfl
    obtain ⟨k1, j, e1, e2, e3, e4⟩ := free_spec (owner := owner) (turns mask) (bits h % (mask + 1)) (bits h) (Nat.le_of_lt_succ (Nat.mod_lt _ (Nat.succ_pos _)))
      ⟨k, by omega, by rw [← hst]; exact (O.free (path_le _ _ _)).mpr hn⟩
    rw [← hst] at e2 e4
    have hj : j ≤ mask := by rw [← e2]; exact path_le _ _ _
    have hjp : j ∉ pos := (O.free hj).mp e3
    have hfull : ∀ k', k' < k1 → (stp mask k' (start mask (bits h))).j ∈ pos := fun k' hk' => by
      refine Classical.byContradiction fun q => ?_
      have := (O.free (path_le mask (bits h) k')).mpr q
      rw [e4 k' hk'] at this; cases this
    have O' : OwnIs mask hs (owner.setIfInBounds j (some pos.length)) (pos ++ [j]) := by
      refine ⟨by rw [Array.size_setIfInBounds]; exact O.sz, ?_, fun y hy => ?_, fun y i hy => ?_, fun i y g hi hg => ?_⟩
      · rw [List.nodup_append]
        exact ⟨O.nd, by simp, fun a ha b hb q => by simp at hb; rw [q, hb] at ha; exact hjp ha⟩
      · rcases List.mem_append.mp hy with hy | hy
        · exact O.le y hy
        · rw [List.mem_singleton.mp hy]; exact hj
      · have hys : y < owner.size := by rw [O.sz]; omega
        rw [getElem?_snoc]
        have e5 : (owner.setIfInBounds j (some pos.length)).getD y none = if j = y then some pos.length else owner.getD y none := by
          simp [Array.getD, hys, Array.getElem_setIfInBounds]
        rw [e5]
        by_cases q : j = y
        · subst q
          rw [if_pos rfl]
          by_cases r : i = pos.length
          · rw [if_pos r, r]; simp
          · rw [if_neg r]
            constructor
            · intro z; exact absurd (Option.some.inj z).symm r
            · intro z; exact absurd (List.mem_of_getElem? z) hjp
        · rw [if_neg q, O.own y i hy]
          by_cases r : i = pos.length
          · rw [if_pos r, r, List.getElem?_eq_none (Nat.le_refl _)]
            constructor
            · intro z; cases z
            · intro z; exact absurd (Option.some.inj z) q
          · rw [if_neg r]
      · have hsub : ∀ z ∈ pos, z ∈ pos ++ [j] := fun z hz => List.mem_append_left _ hz
        rw [getElem?_snoc] at hi
        by_cases r : i = pos.length
        · rw [if_pos r] at hi
          obtain rfl := Option.some.inj hi
          rw [r, hl, e, List.getElem?_append_right (Nat.le_refl _), Nat.sub_self] at hg
          obtain rfl : h = g := Option.some.inj hg
          exact ⟨k1, e2, fun k' hk' => hsub _ (hfull k' hk')⟩
        · rw [if_neg r] at hi
          exact (O.rch i y g hi hg).mono hsub
    have ih := lay_fold hK hc hN (done ++ [h]) rest _ (pos ++ [j]) (by rw [e, List.append_assoc]; rfl) (by rw [List.length_append, List.length_append, hl]; rfl) O'
    rw [List.foldl_cons]
    rw [List.length_append] at ih
    obtain ⟨owner', pos', f1, f2, f3⟩ := ih
    refine ⟨owner', pos', ?_, f2, f3⟩
    rw [← f1]
    congr 1
    show (layClean.free mask owner (turns mask) (bits h % (mask + 1)) (bits h) >>= _) = _
    rw [e1]; rfl
theorem perm_same {α : Type} [DecidableEq α] {l l' : List α} (h : l.Nodup) (h' : l'.Nodup) (hm : ∀ x, x ∈ l ↔ x ∈ l') : l.Perm l' := by
  rw [List.perm_iff_count]
  intro a
  have k : ∀ {l : List α}, l.Nodup → a ∈ l → l.count a = 1 := fun h q => by
    have h1 := List.nodup_iff_count.mp h a
    have h2 := List.count_pos_iff.mpr q
    omega
  by_cases q : a ∈ l
  · rw [k h q, k h' ((hm a).mp q)]
  · rw [List.count_eq_zero.mpr q, List.count_eq_zero.mpr fun z => q ((hm a).mpr z)]
theorem filterMap_at (es : Array (Int × Value)) : ∀ (l : List Nat), (∀ i ∈ l, i < es.size) → l.filterMap (es[·]?) = l.map fun i => es[i]?.getD (0, .none)
  | [], _ => rfl
  | i :: l, h => by
    have hi := h i (.head _)
    rw [List.filterMap_cons_some (b := es[i]) (by simp [hi]), List.map_cons, filterMap_at es l fun x hx => h x (.tail _ hx)]
    simp [hi]
theorem relaid_spec {es : Array (Int × Value)} {t : SetTable} {wanted mask K N : Nat} (hw : sizeAbove wanted - 1 = mask) (hK : K ≤ turns mask) (hc : ∀ e ∈ es.toList, chk mask K (bits e.1) N = true) (hN : es.size ≤ N + 1) :
    ∃ (t' : SetTable) (order : Array Nat) (zs' : List (Nat × Int × Value)), t.relaid (es.map (·.1)) wanted = some (t', order) ∧ order.toList.Perm (List.range es.size) ∧ t'.mask = mask ∧ t'.dummies = #[] ∧ t'.place.toList = zs'.map (·.1) ∧ (order.filterMap (es[·]?)).toList = zs'.map (·.2) ∧
      t'.place.toList.Pairwise (· < ·) ∧ (∀ z ∈ zs', ReachS t'.mask t'.place.toList (bits z.2.1) z.1) ∧ zs'.length = es.size := by
  have hlen : (es.toList.map (·.1)).length = es.size := by simp
  obtain ⟨owner, pos, f1, f2, O⟩ := lay_fold (mask := mask) (K := K) (N := N) hK (hs := es.toList.map (·.1)) (fun h hh => by
    obtain ⟨e, he, rfl⟩ := List.mem_map.mp hh; exact hc e he) (by rw [hlen]; exact hN) [] (es.toList.map (·.1)) (Array.replicate (mask + 1) none) [] rfl rfl
    ⟨by simp, List.nodup_nil, (fun j hj => nomatch hj), (fun j i hj => by simp [Array.getD]), (fun i j h hi => by simp at hi)⟩
  rw [hlen] at f1 f2
  have hclean : layClean mask (es.map (·.1)) = some owner := by
    unfold layClean
    rw [← Array.foldl_toList, Array.toList_map]
    exact congrArg (Option.map (·.1)) f1
  let live := (List.range (mask + 1)).filterMap fun j => (owner.getD j none).map (j, ·)
  have hlive : ∀ j i, (j, i) ∈ live ↔ pos[i]? = some j := fun j i => by
    show (j, i) ∈ (List.range (mask + 1)).filterMap _ ↔ _
    rw [List.mem_filterMap]
    constructor
    · rintro ⟨j', hj', h⟩
      have hj' := List.mem_range.mp hj'
      cases ho : owner.getD j' none with
      | none => rw [ho] at h; cases h
      | some i' =>
        rw [ho] at h
        simp only [Option.map_some, Option.some.injEq, Prod.mk.injEq] at h
        obtain ⟨rfl, rfl⟩ := h
        exact (O.own j' i' (by omega)).mp ho
    · intro h
      have hj := O.le j (List.mem_of_getElem? h)
      exact ⟨j, List.mem_range.mpr (by omega), by rw [(O.own j i hj).mpr h]; rfl⟩
  have hpw : live.Pairwise fun a b => a.1 < b.1 := by
    show ((List.range (mask + 1)).filterMap _).Pairwise _
    refine List.Pairwise.filterMap _ (R := (· < ·)) (fun a b hab x hx y hy => ?_) (List.pairwise_lt_range)
    cases ha : owner.getD a none with
    | none => rw [ha] at hx; cases hx
    | some i =>
      cases hb : owner.getD b none with
      | none => rw [hb] at hy; cases hy
      | some i' =>
        rw [ha] at hx; rw [hb] at hy
        simp only [Option.map_some, Option.some.injEq] at hx hy
        subst hx; subst hy; exact hab
  have hnd : (live.map (·.2)).Nodup := by
    unfold List.Nodup
    rw [List.pairwise_map]
    refine hpw.imp_of_mem fun {a b} ha hb hab e => ?_
    obtain ⟨j, i⟩ := a
    obtain ⟨j', i'⟩ := b
    have h1 := (hlive j i).mp ha
    have h2 := (hlive j' i').mp hb
    simp only at e hab
    subst e
    rw [h1] at h2
    have := Option.some.inj h2
    omega
  have hperm : (live.map (·.2)).Perm (List.range es.size) := by
    refine perm_same hnd List.nodup_range fun i => ?_
    rw [List.mem_map, List.mem_range]
    constructor
    · rintro ⟨⟨j, i'⟩, h, rfl⟩
      have := (List.getElem?_eq_some_iff.mp ((hlive j i').mp h)).1
      rw [f2] at this; exact this
    · intro h
      exact ⟨(pos[i]'(by rw [f2]; exact h), i), (hlive _ _).mpr (by simp [f2, h]), rfl⟩
  have hmem : ∀ j, j ∈ pos ↔ j ∈ live.map (·.1) := fun j => by
    rw [List.mem_map]
    constructor
    · intro h
      obtain ⟨i, hi⟩ := List.getElem?_of_mem h
      exact ⟨(j, i), (hlive j i).mpr hi, rfl⟩
    · rintro ⟨⟨j', i⟩, h, rfl⟩
      exact List.mem_of_getElem? ((hlive j' i).mp h)
  refine ⟨{ mask, place := (live.map (·.1)).toArray, dummies := #[], finger := t.finger, led := t.led, moves := t.movedTo mask, plain := t.plain }, (live.map (·.2)).toArray, live.map fun z => (z.1, es[z.2]?.getD (0, .none)), ?_, ?_, rfl, rfl, ?_, ?_, ?_, fun z hz => ?_, ?_⟩
  · unfold SetTable.relaid
    rw [hw]
    unfold SetTable.laid
    rw [hclean]
    rfl
  · simpa using hperm
  · simp [List.map_map, Function.comp_def]
  · rw [Array.toList_filterMap]
    show (live.map (·.2)).filterMap _ = _
    rw [filterMap_at es _ fun i hi => List.mem_range.mp (hperm.mem_iff.mp hi), List.map_map, List.map_map]
    rfl
  · show (live.map (·.1)).Pairwise _
    rw [List.pairwise_map]; exact hpw
  · obtain ⟨⟨j, i⟩, hm, rfl⟩ := List.mem_map.mp hz
    have hp := (hlive j i).mp hm
    have hi : i < es.size := by rw [← f2]; exact (List.getElem?_eq_some_iff.mp hp).1
    have := O.rch i j (es[i].1) hp (by simp [hi])
    simp only [hi, getElem?_pos, Option.getD_some]
    exact this.mono fun x hx => (hmem x).mp hx
  · rw [List.length_map, ← List.length_map (f := fun x => x.2), hperm.length_eq, List.length_range]
end Mine
end
section
open PySem PySem.W PySem.Calls PyProof.Rows
set_option maxRecDepth 100000
namespace Mine
def isBoolV (b : Bool) : Value → Bool
  | .bool c => c == b
  | _ => false
theorem isBoolV_shape {b : Bool} {v : Value} (h : isBoolV b v = true) : v = .bool b := by
  cases v <;> simp only [isBoolV, Bool.false_eq_true, beq_iff_eq] at h
  rw [h]
def boolKind (prog : Program) (w : World) : KeyKind prog w Bool where
  is := isBoolV
  hash := fun b => if b then 1 else 0
  inj := fun v a b ha hb => by
    have := (isBoolV_shape ha).symm.trans (isBoolV_shape hb)
    injection this
  byValue := fun k v h => by rw [isBoolV_shape h]; rfl
  pyHash := fun {A E s k v Q} hv h => by
    rw [isBoolV_shape hv]
    refine pyHash_slot (T := "bool") rfl F.slot_bool_hash entry_int_hash (args_int_hash _) (beq_builtin_none _) (.inl rfl) ?_
    cases k
    · exact (show wpAny _ _ (do ret (← mkInt 0)) _ _ s from wpAny_bind (wpAny_mkInt (wpAny_pure ⟨_, _, rfl, h⟩)))
    · exact (show wpAny _ _ (do ret (← mkInt 1)) _ _ s from wpAny_bind (wpAny_mkInt (wpAny_pure ⟨_, _, rfl, h⟩)))
  eqBool := fun {A E s a b u v Q} hu hv h => by
    rw [isBoolV_shape hu, isBoolV_shape hv]
    refine PySem.SeqAt.EqAt.bool_bool a b _ w E Q ?_
    have : (a == b) = decide (a = b) := by cases a <;> cases b <;> rfl
    rw [this]; exact h
  «strs» k x t v h := by cases h

abbrev btup (σ : List Bool) : Obj := tupO (σ.map .bool)
theorem items_bool {prog : Program} {w : World} : ∀ (σ : List Bool), ItemsAre (boolKind prog w) σ (σ.map .bool)
  | [] => .nil
  | b :: σ => .cons (by show (b == b) = true; simp) (items_bool σ)
theorem tupKey {w : World} {h : Heap} {a : Addr} {σ : List Bool} (ha : h.get? a = some (btup σ)) : IsTupleKey (boolKind PP w) h σ a :=
  ⟨_, _, 0, ha, rfl, rfl, by simpa using items_bool σ⟩
theorem tupHash {w : World} (σ : List Bool) : tupleKeyHash (boolKind PP w) σ = tupH σ := rfl
section
variable {w : World} {A : Around} {E : Value → Shared → Prop} {s : Shared} {a : Addr} {σ : List Bool}
theorem hashByValue_tup {Q : Bool → Shared → Prop} (ha : s.heap.get? a = some (btup σ)) (h : Q true s) : wpAny (model PP w) A (hashByValue 8 (.ref a)) Q E s := by
  have hT : s.TypeIs (.ref a) "tuple" := ⟨_, ha, rfl⟩
  unfold hashByValue
  refine wpAny_bind (wpAny_specialOf hT F.slot_tuple_hash.lookup ?_)
  dsimp only
  refine wpAny_bind (wpAny_seqItems ha rfl ?_)
  refine wpAny_bind ?_
  show wpAny _ _ (forIn (σ.map Value.bool).toArray _ _) _ _ s
  rw [← Array.forIn_toList]
  refine wpAny_forIn_list _ (fun rest r s' => r.1 = none ∧ s' = s ∧ ∀ v ∈ rest, ∃ b, v = Value.bool b) _ ?_ ?_ _ _ ⟨rfl, rfl, fun v hv => ?_⟩
  · rintro v rest r s' ⟨hr, rfl, hall⟩
    obtain ⟨b, rfl⟩ := hall v List.mem_cons_self
    rw [show hashByValue 7 (.bool b) = pure true from rfl]
    refine wpAny_bind (wpAny_pure ?_)
    simp only [Bool.not_true, Bool.false_eq_true, if_false]
    exact wpAny_pure ⟨rfl, rfl, fun u hu' => hall u (List.mem_cons_of_mem _ hu')⟩
  · rintro ⟨r1, r2⟩ s' ⟨hr, rfl, _⟩
    simp only at hr
    subst hr
    exact wpAny_pure h
  · simp only [List.mem_map] at hv
    obtain ⟨b, _, rfl⟩ := hv; exact ⟨b, rfl⟩
theorem ofClass_tup {Q : Bool → Shared → Prop} (ha : s.heap.get? a = some (btup σ)) (h : Q false s) : wpAny (model PP w) A (ofAClassStatement 8 (.ref a)) Q E s := by
  have hT : s.TypeIs (.ref a) "tuple" := ⟨_, ha, rfl⟩
  unfold ofAClassStatement
  refine wpAny_bind (wpAny_typeOf hT ?_)
  dsimp only
  rw [if_pos (by decide)]
  refine wpAny_bind (wpAny_pure ?_)
  simp only [Bool.not_true, Bool.false_eq_true, if_false]
  refine wpAny_bind (wpAny_seqItems ha rfl ?_)
  dsimp only
  refine wpAny_bind ?_
  show wpAny _ _ (forIn (σ.map Value.bool).toArray _ _) _ _ s
  rw [← Array.forIn_toList]
  refine wpAny_forIn_list _ (fun rest r s' => r.1 = none ∧ s' = s ∧ ∀ v ∈ rest, ∃ b, v = Value.bool b) _ ?_ ?_ _ _ ⟨rfl, rfl, fun v hv => ?_⟩
  · rintro v rest r s' ⟨hr, rfl, hall⟩
    obtain ⟨b, rfl⟩ := hall v List.mem_cons_self
    rw [show ofAClassStatement 7 (.bool b) = pure false from rfl]
    refine wpAny_bind (wpAny_pure ?_)
    simp only [Bool.false_eq_true, if_false]
    exact wpAny_pure ⟨rfl, rfl, fun u hu' => hall u (List.mem_cons_of_mem _ hu')⟩
  · rintro ⟨r1, r2⟩ s' ⟨hr, rfl, _⟩
    simp only at hr
    subst hr
    exact wpAny_pure h
  · simp only [List.mem_map] at hv
    obtain ⟨b, _, rfl⟩ := hv; exact ⟨b, rfl⟩
theorem couldSee_tup {Q : Bool → Shared → Prop} {ys : List Value} (ha : s.heap.get? a = some (btup σ)) (hys : ∀ y ∈ ys, ∃ b τ, y = .ref b ∧ s.heap.get? b = some (btup τ)) (h : Q false s) : wpAny (model PP w) A (searchCouldBeSeen (.ref a) ys) Q E s := by
  unfold searchCouldBeSeen
  refine wpAny_bind ?_
  refine wpAny_forIn_list _ (fun rest r s' => r.1 = none ∧ s' = s ∧ ∀ y ∈ rest, ∃ b τ, y = Value.ref b ∧ s.heap.get? b = some (btup τ)) _ ?_ ?_ _ _ ⟨rfl, rfl, hys⟩
  · rintro v rest r s' ⟨hr, rfl, hall⟩
    obtain ⟨b, τ, rfl, hb⟩ := hall v List.mem_cons_self
    dsimp only
    have hrest : ∀ y ∈ rest, ∃ b τ, y = Value.ref b ∧ s'.heap.get? b = some (btup τ) := fun u hu' => hall u (List.mem_cons_of_mem _ hu')
    split
    · exact wpAny_pure ⟨rfl, rfl, hrest⟩
    · refine wpAny_bind (wpAny_eqIsQuiet_tuple (tupKey (w := w) ha) ?_)
      simp only [Bool.not_true, Bool.false_eq_true, if_false]
      refine wpAny_bind (wpAny_eqIsQuiet_tuple (tupKey (w := w) hb) ?_)
      simp only [Bool.not_true, Bool.false_eq_true, if_false]
      refine wpAny_bind (ofClass_tup ha ?_)
      simp only [Bool.false_eq_true, if_false]
      refine wpAny_bind (ofClass_tup hb ?_)
      simp only [Bool.false_eq_true, if_false]
      exact wpAny_pure ⟨rfl, rfl, hrest⟩
  · rintro ⟨r1, r2⟩ s' ⟨hr, rfl, _⟩
    simp only at hr
    subst hr
    exact wpAny_pure h
end
end Mine
end
section
open PySem PySem.W PySem.Calls PyProof.Rows
set_option maxRecDepth 100000
namespace Mine
theorem TabIs.fits {es : Array (Int × Value)} {t : SetTable} {zs : List (Nat × Int × Value)} (T : TabIs es t zs) : t.fits es.size = true ∧ es.size = zs.length ∧ t.place.size = zs.length := by
  have h1 : t.place.size = zs.length := by rw [← Array.length_toList, T.pl, List.length_map]
  have h2 : es.size = zs.length := by rw [← Array.length_toList, T.el, List.length_map]
  refine ⟨?_, h2, h1⟩
  unfold SetTable.fits SetTable.fill
  rw [T.dm, h1, h2]
  have := T.siz
  simp only [Bool.and_eq_true, beq_iff_eq, decide_eq_true_eq, true_and]
  show zs.length + 0 ≤ _
  omega
theorem TabIs.esc {es : Array (Int × Value)} {t : SetTable} {zs : List (Nat × Int × Value)} (T : TabIs es t zs) {b : Nat} (hc : chks b = true) : ∃ k, k < 10 * SetTable.turns t.mask ∧ (stp t.mask k (start t.mask b)).j ∉ t.place.toList := by
  unfold chks at hc
  simp only [Bool.and_eq_true] at hc
  obtain ⟨c1, c2, c3, c4, c5⟩ := hc
  have hl : t.place.toList.length = zs.length := by rw [T.pl, List.length_map]
  unfold SetTable.turns
  rcases T.siz with ⟨e, h⟩ | ⟨e, h⟩ | ⟨e, h⟩ <;> rw [e]
  · obtain ⟨k, a, c⟩ := Mine.esc c1 (F := t.place.toList) (by omega); exact ⟨k, by omega, c⟩
  · obtain ⟨k, a, c⟩ := Mine.esc c3 (F := t.place.toList) (by omega); exact ⟨k, by omega, c⟩
  · obtain ⟨k, a, c⟩ := Mine.esc c5 (F := t.place.toList) (by omega); exact ⟨k, by omega, c⟩
theorem TabIs.at {es : Array (Int × Value)} {t : SetTable} {zs : List (Nat × Int × Value)} (T : TabIs es t zs) {i j : Nat} (h : t.place[i]? = some j) : ∃ z, z ∈ zs ∧ z.1 = j ∧ es[i]? = some z.2 := by
  rw [← Array.getElem?_toList, T.pl, List.getElem?_map] at h
  obtain ⟨z, hz, rfl⟩ := Option.map_eq_some_iff.mp h
  refine ⟨z, List.mem_of_getElem? hz, rfl, ?_⟩
  rw [← Array.getElem?_toList, T.el, List.getElem?_map, hz]; rfl
section
variable {w : World} {A : Around} {E : Value → Shared → Prop} {s : Shared} {a D : Addr} {σ : List Bool}
theorem search_tup {Q : SetFound → Shared → Prop} {o : Obj} {acc : List (List Bool)} {es : Array (Int × Value)} {ep : Nat} {t : SetTable} {zs : List (Nat × Int × Value)} (ho : s.heap.get? D = some o) (hd : o.data = .set es ep t) (T : TabIs es t zs)
    (hk : ∀ z ∈ zs, ∃ τ b, z.2 = (tupH τ, Value.ref b) ∧ τ ∈ acc ∧ s.heap.get? b = some (btup τ)) (hcov : ∀ τ ∈ acc, ∃ z ∈ zs, z.2.1 = tupH τ) (ha : s.heap.get? a = some (btup σ)) (hσ : σ.length ≤ 6) (hacc : ∀ τ ∈ acc, τ.length = σ.length) (hu : A.units < cLine)
    (h1 : σ ∈ acc → Q (.there none) s) (h2 : σ ∉ acc → ∀ j, j ∉ t.place.toList → ReachS t.mask t.place.toList (SetTable.bits (tupH σ)) j → Q (.free j false) s) :
    wpAny (model PP w) A (setSearch D (.ref a) (tupH σ) true) Q E s := by
  obtain ⟨hf, hes, hpl⟩ := T.fits
  have hsp := probe_spec (hashAt := fun i => (es[i]?.map (·.1)).getD 0) (h := tupH σ) T.inc T.dm (10 * SetTable.turns t.mask) (t.probeStart (tupH σ)) rfl (T.esc (chk_of hσ))
  unfold setSearch setSearchFrom
  refine wpAny_bind (wpAny_setState_of ho hd hf ?_)
  dsimp only
  have hg : t.gaveWay = false := by
    unfold SetTable.gaveWay
    rcases T.siz with ⟨e, _⟩ | ⟨e, _⟩ | ⟨e, _⟩ <;> rw [e] <;> rfl
  rw [hg]
  simp only [Bool.false_eq_true, if_false]
  generalize hp : SetTable.probe t _ _ _ = r
  rcases hsp with ⟨k, j, e1, e2, e3, e4⟩ | ⟨i, j, nx, e1, e2, e3⟩
  · have er : r = some (.empty j none) := hp.symm.trans e1
    subst er
    dsimp only
    refine wpAny_pure (h2 (fun hm => ?_) j e3 ⟨k, e2, fun k' hk' => ?_⟩)
    · obtain ⟨z, hz, hzh⟩ := hcov σ hm
      obtain ⟨k2, f1, f2⟩ := T.rch z hz
      rw [hzh] at f1 f2
      have hzp : z.1 ∈ t.place.toList := by rw [T.pl]; exact List.mem_map.mpr ⟨z, hz, rfl⟩
      rcases Nat.lt_trichotomy k k2 with q | q | q
      · have := f2 k q
        exact e3 (by rw [← e2]; exact this)
      · subst q
        exact e3 (by rw [← e2]; exact f1 ▸ hzp)
      · obtain ⟨i, hi, hne⟩ := e4 k2 q
        have hi' : t.place[i]? = some z.1 := hi.trans (congrArg some f1)
        obtain ⟨z', hz', hz1, hz2⟩ := T.at hi'
        obtain ⟨i2, hi2⟩ := List.getElem?_of_mem hz
        have hp2 : t.place[i2]? = some z.1 := by rw [← Array.getElem?_toList, T.pl, List.getElem?_map, hi2]; rfl
        have hii : i = i2 := by
          have g1 := below_of T.inc hi'
          have g2 := below_of T.inc hp2
          omega
        have : es[i]? = some z.2 := by rw [hii, ← Array.getElem?_toList, T.el, List.getElem?_map, hi2]; rfl
        exact hne (by simp only [this, Option.map_some, Option.getD_some]; exact hzh)
    · obtain ⟨i, hi, _⟩ := e4 k' hk'
      rw [← Array.getElem?_toList] at hi
      exact List.mem_of_getElem? hi
  · have er : r = some (.candidate j i nx) := hp.symm.trans e1
    subst er
    dsimp only
    obtain ⟨z, hz, rfl, hez⟩ := T.at e2
    obtain ⟨τ, b, ez, hτ, hb⟩ := hk z hz
    rw [ez] at hez
    have hh : tupH σ = tupH τ := by rw [hez] at e3; exact e3.symm
    have hst : σ = τ := hash_inj hσ (hacc τ hτ) hh
    subst hst
    have hsee : ∀ y ∈ ((es.filter fun x => x.1 == tupH σ).toList.map fun x => x.2), ∃ b τ, y = Value.ref b ∧ s.heap.get? b = some (btup τ) := fun y hy => by
      obtain ⟨x, hx, rfl⟩ := List.mem_map.mp hy
      rw [Array.toList_filter, List.mem_filter, T.el, List.mem_map] at hx
      obtain ⟨⟨z', hz', rfl⟩, _⟩ := hx
      obtain ⟨τ, b, ez, _, hb⟩ := hk z' hz'
      exact ⟨b, τ, by rw [ez], hb⟩
    have fin : wpAny (model PP w) A (eqBool (.ref b) (.ref a)) (fun r s' => r = true ∧ s' = s) E s := wpAny_eqBool_tuple hu (tupKey (w := w) hb) (tupKey (w := w) ha) ⟨decide_eq_true rfl, rfl⟩
    rw [hez]
    split
    · refine wpAny_bind (couldSee_tup ha hsee ?_)
      simp only [Bool.false_eq_true, if_false]
      refine wpAny_bind (wpAny_holding (wpAny_mono fin (fun r s' hr => ?_) fun _ _ z => z))
      obtain ⟨rfl, rfl⟩ := hr
      refine wpAny_bind (wpAny_setState_of ho hd hf ?_)
      simp only [Bool.and_self, if_true]
      exact wpAny_pure (h1 hτ)
    · refine wpAny_bind (wpAny_holding (wpAny_mono fin (fun r s' hr => ?_) fun _ _ z => z))
      obtain ⟨rfl, rfl⟩ := hr
      refine wpAny_bind (wpAny_setState_of ho hd hf ?_)
      simp only [Bool.and_self, if_true]
      exact wpAny_pure (h1 hτ)
theorem store_get {h : Heap} {o : Obj} {es es' : Array (Int × Value)} {ep : Nat} {t t' : SetTable} (ho : h.get? D = some o) (hd : o.data = .set es ep t) : (h.update D (Obj.putSet es' t')).get? D = some { o with data := .set es' (ep + 1) t' } := by
  have := Heap.get?_update_self (Obj.putSet es' t') ho (by rw [putSet_of es' t' hd]; rfl)
  rw [putSet_of es' t' hd] at this; exact this
theorem relay_tup {Q : Unit → Shared → Prop} {o : Obj} {es : Array (Int × Value)} {ep : Nat} {t : SetTable} {wanted mask K N : Nat} (ho : s.heap.get? D = some o) (hd : o.data = .set es ep t) (hf : t.fits es.size = true) (hw : SetTable.sizeAbove wanted = mask + 1) (hm : mask ≤ 1000) (hK : K ≤ SetTable.turns mask)
    (hc : ∀ e ∈ es.toList, chk mask K (SetTable.bits e.1) N = true) (hN : es.size ≤ N + 1)
    (hN2 : N ≤ 1000) (h : ∀ (es' : Array (Int × Value)) (t' : SetTable) (zs' : List (Nat × Int × Value)), es'.toList.Perm es.toList → t'.mask = mask → t'.dummies = #[] → t'.place.toList = zs'.map (·.1) → es'.toList = zs'.map (·.2) → t'.place.toList.Pairwise (· < ·) →
      (∀ z ∈ zs', ReachS t'.mask t'.place.toList (SetTable.bits z.2.1) z.1) → zs'.length = es.size → Q () { s with heap := s.heap.update D (Obj.putSet es' t') }) :
    wpAny (model PP w) A (setRelay D wanted) Q E s := by
  obtain ⟨t', order, zs', g1, g2, g3, g4, g5, g6, g7, g8, g9⟩ := relaid_spec (wanted := wanted) (t := t) (by rw [hw]; rfl) hK hc hN
  have hp := laid_perm (es := es) (order := order) g2
  have hz : (order.filterMap (es[·]?)).size = es.size := by rw [← Array.length_toList, hp.length_eq, Array.length_toList]
  rw [setRelay_eq]
  refine wpAny_bind (wpAny_setState_of ho hd hf ?_)
  dsimp only
  rw [if_neg (by rw [hw, sizeLine_eq]; omega)]
  refine wpAny_bind ?_
  rw [g1]
  dsimp only
  rw [if_neg (by rw [hz]; simp)]
  refine wpAny_pure ?_
  exact wpAny_storeSet_of ho hd (h _ t' zs' hp g3 g4 g5 g6 g7 g8 g9) (by rw [hz, sizeLine_eq]; omega)
def TupElems (tl : List (Addr × Obj)) (acc : List (List Bool)) (l : List (Int × Value)) : Prop :=
  (∀ e ∈ l, ∃ τ b, e = (tupH τ, Value.ref b) ∧ τ ∈ acc ∧ (b, btup τ) ∈ tl) ∧ ∀ τ ∈ acc, ∃ e ∈ l, e.1 = tupH τ
theorem TupElems.perm {tl : List (Addr × Obj)} {acc : List (List Bool)} {l l' : List (Int × Value)} (h : TupElems tl acc l) (p : l'.Perm l) : TupElems tl acc l' :=
  ⟨fun e he => h.1 e (p.mem_iff.mp he), fun τ hτ => let ⟨e, he, q⟩ := h.2 τ hτ; ⟨e, p.mem_iff.mpr he, q⟩⟩
theorem TupElems.add {tl : List (Addr × Obj)} {acc : List (List Bool)} {l : List (Int × Value)} (h : TupElems tl acc l) (hx : (a, btup σ) ∈ tl) : TupElems tl (acc ++ [σ]) (l ++ [(tupH σ, Value.ref a)]) := by
  refine ⟨fun e he => ?_, fun τ hτ => ?_⟩
  · rcases List.mem_append.mp he with he | he
    · obtain ⟨τ, b, q1, q2, q3⟩ := h.1 e he
      exact ⟨τ, b, q1, List.mem_append_left _ q2, q3⟩
    · rw [List.mem_singleton] at he
      exact ⟨σ, a, he, by simp, hx⟩
  · rcases List.mem_append.mp hτ with hτ | hτ
    · obtain ⟨e, he, q⟩ := h.2 τ hτ
      exact ⟨e, List.mem_append_left _ he, q⟩
    · rw [List.mem_singleton] at hτ
      exact ⟨(tupH σ, .ref a), by simp, by rw [hτ]⟩
def TupSet (tl : List (Addr × Obj)) (o : Obj) (acc : List (List Bool)) : Prop :=
  ∃ es ep t zs, o = { cls := .type "set", dict := none, data := .set es ep t, slots := #[] } ∧ TabIs es t zs ∧ TupElems tl acc es.toList ∧ es.size = acc.length
theorem TupSet.nil (tl : List (Addr × Obj)) (led : Bool) : TupSet tl (freshSet led) [] :=
  ⟨#[], 0, .fresh 0 0 led, [], rfl, ⟨rfl, rfl, rfl, .inl ⟨rfl, by simp⟩, by simp [SetTable.fresh], fun z hz => nomatch hz⟩, ⟨fun e he => by simp at he, fun τ hτ => nomatch hτ⟩, rfl⟩
theorem nodup_sub {α : Type} [DecidableEq α] : ∀ (l H : List α), l.Nodup → (∀ x ∈ l, x ∈ H) → l.length ≤ H.length
  | [], H, _, _ => by simp
  | a :: l, H, hn, hs => by
    rw [List.nodup_cons] at hn
    obtain ⟨p, q, rfl⟩ := List.append_of_mem (hs a (.head _))
    have := nodup_sub l (p ++ q) hn.2 fun x hx => by
      have h1 := hs x (.tail _ hx)
      have hne : x ≠ a := fun e => hn.1 (e ▸ hx)
      simp [hne] at h1 ⊢; exact h1
    simp at this ⊢; omega
theorem pats_len : ∀ m, (pats m).length = 2 ^ m
  | 0 => rfl
  | m + 1 => by rw [pats, List.length_append, List.length_map, List.length_map, pats_len m, Nat.pow_succ]; omega
theorem pow_le64 {m : Nat} (h : m ≤ 6) : 2 ^ m ≤ 64 := by
  have : m = 0 ∨ m = 1 ∨ m = 2 ∨ m = 3 ∨ m = 4 ∨ m = 5 ∨ m = 6 := by omega
  rcases this with rfl | rfl | rfl | rfl | rfl | rfl | rfl <;> decide
theorem addTup {Q : Bool → Shared → Prop} {h₀ : Heap} {L : Addr} {m : Str → Option Value} {tl : List (Addr × Obj)} {o : Obj} {acc : List (List Bool)} (S : St h₀ L m ((D, o) :: tl) s.heap) (T : TupSet tl o acc) (hx : (a, btup σ) ∈ tl) (hσ : σ.length ≤ 6)
    (hacc : ∀ τ ∈ acc, τ.length = σ.length) (hnd : acc.Nodup) (hu : A.units < cLine) (h : ∀ o' b s', Rest s s' → St h₀ L m ((D, o') :: tl) s'.heap → TupSet tl o' (ins acc σ) → Q b s') :
    wpAny (model PP w) A (setAdd D (.ref a)) Q E s := by
  obtain ⟨es, ep, t, zs, rfl, T, TE, hsz⟩ := T
  obtain ⟨hf, hes, hpl⟩ := T.fits
  have ho := S.get List.mem_cons_self
  have ha : s.heap.get? a = some (btup σ) := S.get (.tail _ hx)
  have hk : ∀ z ∈ zs, ∃ τ b, z.2 = (tupH τ, Value.ref b) ∧ τ ∈ acc ∧ s.heap.get? b = some (btup τ) := fun z hz => by
    obtain ⟨τ, b, q1, q2, q3⟩ := TE.1 z.2 (by rw [T.el]; exact List.mem_map.mpr ⟨z, hz, rfl⟩)
    exact ⟨τ, b, q1, q2, S.get (.tail _ q3)⟩
  have hcov : ∀ τ ∈ acc, ∃ z ∈ zs, z.2.1 = tupH τ := fun τ hτ => by
    obtain ⟨e, he, q⟩ := TE.2 τ hτ
    rw [T.el] at he
    obtain ⟨z, hz, rfl⟩ := List.mem_map.mp he
    exact ⟨z, hz, q⟩
  unfold setAdd
  refine wpAny_holding (wpAny_bind (wpAny_pyHash_tuple hu (tupKey (w := w) ha) ?_))
  rw [tupHash]
  generalize hs1 : ({ s with toks := s.toks + (σ.length + 1) } : Shared) = s₁
  have e1 : s₁.heap = s.heap := by rw [← hs1]
  have hr1 : Rest s s₁ := by rw [← hs1]; exact ⟨rfl, rfl⟩
  clear hs1
  rw [← e1] at S ho ha hk
  unfold setAddHashed setAddHashedIn
  refine wpAny_holding (wpAny_bind (wpAny_setState_of ho rfl hf ?_))
  dsimp only
  rw [show byScan (.ref a) es = false from rfl]
  simp only [Bool.false_eq_true, if_false]
  refine wpAny_bind (search_tup ho rfl T hk hcov ha hσ hacc hu (fun hm => ?_) fun hm j hj hrj => ?_)
  · dsimp only
    refine wpAny_pure (h _ _ s₁ hr1 S ?_)
    rw [show ins acc σ = acc by unfold ins; rw [if_pos hm]]
    exact ⟨es, ep, t, zs, rfl, T, TE, hsz⟩
  · dsimp only
    have hins : ins acc σ = acc ++ [σ] := by unfold ins; rw [if_neg hm]
    have h64 : acc.length + 1 ≤ 64 := by
      have := nodup_sub (σ :: acc) (pats σ.length) (List.nodup_cons.mpr ⟨hm, hnd⟩) fun x hx => by
        rcases List.mem_cons.mp hx with rfl | hx
        · exact pats_mem.mpr rfl
        · exact pats_mem.mpr (hacc x hx)
      rw [pats_len, List.length_cons] at this
      have := pow_le64 hσ
      omega
    obtain ⟨p, zs', g1, g2, g3, g4, g5, g6⟩ := put_zs (es := es) (x := .ref a) T.pl T.el T.dm T.inc T.rch hj hrj
    refine wpAny_bind (wpAny_setState_of ho rfl hf ?_)
    dsimp only
    rw [g1]
    dsimp only
    generalize he1 : SetTable.insertAt es p (tupH σ, Value.ref a) = es1 at g3 ⊢
    generalize hp1 : SetTable.insertAt t.place p j = pl1 at g2 g4 g5 ⊢
    have hperm : es1.toList.Perm (es.toList ++ [(tupH σ, Value.ref a)]) := by
      rw [← he1]
      have := SetTable.insertAt_perm es p (tupH σ, Value.ref a)
      rwa [Array.toList_push] at this
    have TE1 : TupElems tl (acc ++ [σ]) es1.toList := (TE.add hx).perm hperm
    have hz1 : es1.size = acc.length + 1 := by rw [← Array.length_toList, hperm.length_eq, List.length_append, Array.length_toList, hsz]; rfl
    have hzl : zs'.length = acc.length + 1 := by
      have := congrArg List.length g3
      rw [Array.length_toList, List.length_map] at this
      omega
    have hpz : pl1.size = acc.length + 1 := by
      have := congrArg List.length g2
      rw [Array.length_toList, List.length_map] at this
      omega
    have hzo : zs.length = acc.length := by omega
    have tail : wpAny (model PP w) A (do
        storeSet D es1 { mask := t.mask, place := pl1, dummies := #[], finger := t.finger, led := t.led, moves := t.moves, plain := t.plain }
        if (!false && ({ mask := t.mask, place := pl1, dummies := #[], finger := t.finger, led := t.led, moves := t.moves, plain := t.plain } : SetTable).tooFull) = true then do
            setRelay D (SetTable.grown (es.size + 1))
            pure true
          else pure true) Q E s₁ := by
      have hfill : ({ mask := t.mask, place := pl1, dummies := #[], finger := t.finger, led := t.led, moves := t.moves, plain := t.plain } : SetTable).tooFull = decide ((acc.length + 1) * 5 ≥ t.mask * 3) := by
        unfold SetTable.tooFull SetTable.fill
        rw [hpz]; rfl
      have hend : ((acc.length + 1) * 5 < t.mask * 3) → t.mask = 7 ∧ zs'.length ≤ 4 ∨ t.mask = 31 ∧ zs'.length ≤ 18 ∨ t.mask = 127 ∧ zs'.length ≤ 64 := fun q => by
        rcases T.siz with ⟨e, k⟩ | ⟨e, k⟩ | ⟨e, k⟩ <;> rw [e] at q ⊢ <;> omega
      refine wpAny_bind (wpAny_storeSet_of ho rfl ?_ (by rw [hz1, sizeLine_eq]; omega))
      have ho1 := store_get (es' := es1) (t' := { mask := t.mask, place := pl1, dummies := #[], finger := t.finger, led := t.led, moves := t.moves, plain := t.plain }) ho rfl
      have hsb1 := Heap.SameBut.update s₁.heap D (Obj.putSet es1 { mask := t.mask, place := pl1, dummies := #[], finger := t.finger, led := t.led, moves := t.moves, plain := t.plain })
      have S1 := S.change_hd hsb1 ho1
      rw [hfill]
      by_cases hq : (acc.length + 1) * 5 ≥ t.mask * 3
      · rw [if_pos (by rw [decide_eq_true hq]; rfl)]
        have hf1 : ({ mask := t.mask, place := pl1, dummies := #[], finger := t.finger, led := t.led, moves := t.moves, plain := t.plain } : SetTable).fits es1.size = true := by
          unfold SetTable.fits SetTable.fill
          rw [hpz, hz1]
          simp only [Bool.and_eq_true, beq_iff_eq, decide_eq_true_eq, true_and]
          show acc.length + 1 + 0 ≤ t.mask
          rcases T.siz with ⟨e, k⟩ | ⟨e, k⟩ | ⟨e, k⟩ <;> rw [e] at hq ⊢ <;> omega
        have fin : ∀ (h' : Heap) (o' : Obj) (es' : Array (Int × Value)) (t' : SetTable) (zs2 : List (Nat × Int × Value)) (ep' : Nat), Heap.SameBut D s₁.heap h' → h'.get? D = some o' → o' = { cls := .type "set", dict := none, data := .set es' ep' t', slots := #[] } →
            es'.toList.Perm es1.toList → TabIs es' t' zs2 → Q true { s₁ with heap := h' } := fun h' o' es' t' zs2 ep' q1 q2 q3 q4 q5 => by
          refine h o' true { s₁ with heap := h' } ⟨hr1.1, hr1.2⟩ (S.change_hd q1 q2) ?_
          rw [hins]
          exact ⟨es', ep', t', zs2, q3, q5, TE1.perm q4, by rw [← Array.length_toList, q4.length_eq, Array.length_toList, hz1, List.length_append]; rfl⟩
        have hchk : ∀ e ∈ es1.toList, chks (SetTable.bits e.1) = true := fun e he => by
          obtain ⟨τ, b, q1, q2, _⟩ := TE1.1 e he
          rw [q1]
          refine chk_of ?_
          rcases List.mem_append.mp q2 with q2 | q2
          · rw [hacc τ q2]; exact hσ
          · rw [List.mem_singleton.mp q2]; exact hσ
        rcases T.siz with ⟨e, k⟩ | ⟨e, k⟩ | ⟨e, k⟩
        · have h4 : acc.length = 4 := by rw [e] at hq; omega
          refine wpAny_bind (relay_tup (mask := 31) (K := 7) (N := 5) (o := _) ho1 rfl hf1 (by rw [hsz, h4]; decide) (by omega) (by decide) (fun e he => ?_) (by omega) (by omega) fun es' t' zs2 q1 q2 q3 q4 q5 q6 q7 q8 => ?_)
          · have := hchk e he
            unfold chks at this
            simp only [Bool.and_eq_true] at this
            exact this.2.1
          · refine wpAny_pure (fin _ _ es' t' zs2 _ (hsb1.trans (Heap.SameBut.update _ D _)) (store_get ho1 rfl) rfl q1 ⟨q4, q5, q3, .inr (.inl ⟨q2, by omega⟩), q6, q7⟩)
        · have h4 : acc.length = 18 := by rw [e] at hq; omega
          refine wpAny_bind (relay_tup (mask := 127) (K := 34) (N := 19) (o := _) ho1 rfl hf1 (by rw [hsz, h4]; decide) (by omega) (by decide) (fun e he => ?_) (by omega) (by omega) fun es' t' zs2 q1 q2 q3 q4 q5 q6 q7 q8 => ?_)
          · have := hchk e he
            unfold chks at this
            simp only [Bool.and_eq_true] at this
            exact this.2.2.2.1
          · refine wpAny_pure (fin _ _ es' t' zs2 _ (hsb1.trans (Heap.SameBut.update _ D _)) (store_get ho1 rfl) rfl q1 ⟨q4, q5, q3, .inr (.inr ⟨q2, by omega⟩), q6, q7⟩)
        · exfalso; rw [e] at hq; omega
      · rw [if_neg (by rw [decide_eq_false hq]; exact Bool.false_ne_true)]
        refine wpAny_pure (h _ true { s₁ with heap := _ } ⟨hr1.1, hr1.2⟩ S1 ?_)
        rw [hins]
        exact ⟨es1, ep + 1, _, zs', rfl, ⟨g2, g3, rfl, hend (by omega), g4, g5⟩, TE1, by rw [hz1, List.length_append]; rfl⟩
    split
    · refine wpAny_bind (hashByValue_tup ha ?_)
      simp only [if_true]
      exact tail
    · refine wpAny_bind (wpAny_pure ?_)
      simp only [if_true]
      exact tail
end
end Mine
end
section
open PySem PySem.W PySem.Calls PyProof.Rows
set_option maxRecDepth 100000
namespace Mine
section
variable {w : World} {A : Around} {E : Value → Shared → Prop} {s : Shared} {h₀ : Heap} {L D I l : Addr} {m : Str → Option Value} {tl : List (Addr × Obj)} {ts : List Addr} {σs : List (List Bool)} {c mm : Nat}
/-- a list of tuples of bools -/
def TupsIn (tl : List (Addr × Obj)) (ts : List Addr) (σs : List (List Bool)) : Prop := ts.length = σs.length ∧ ∀ (k : Nat) t, ts[k]? = some t → ∃ σ, σs[k]? = some σ ∧ (t, btup σ) ∈ tl
theorem loopTups {R : Result → Shared → Prop} (hh : A.handled = none) (hl : (l, lst (ts.map .ref) c) ∈ tl) (hT : TupsIn tl ts σs) (hlen : ∀ σ ∈ σs, σ.length = mm) (hmm : mm ≤ 6) (hu : A.units + 2 < cLine) : ∀ (n k : Nat) {s : Shared} {oI oS : Obj}, ts.length - k = n → k ≤ ts.length →
    St h₀ L m ((I, oI) :: (D, oS) :: tl) s.heap → listP l k oI → TupSet tl oS ((σs.take k).foldl ins []) → (∀ o s', Rest s s' → St h₀ L m ((D, o) :: tl) s'.heap → TupSet tl o (σs.foldl ins []) → R (.ok (.ret .none)) s') →
    codeAny (model PP w) A (.builtin "set.update.loop" ⟨[.ref D, .ref I], []⟩) R s := by
  have hh1 : A.in1.handled = none := hh
  intro n
  induction n with
  | zero =>
    intro k s oI oS hn hk S hP hS h
    have hk : k = ts.length := by omega
    subst hk
    refine codeAny_builtin F.entry_set_update_loop ?_
    rw [Around.under_plainId F.plain_set_update_loop _]
    show wpAny _ A.in1 (pyNext (.ref I) >>= _) _ _ s
    refine wpAny_bind ((Iter.list I l (ts.map .ref) c).done hh1 S (by rw [List.length_map]; exact hP) (.tail _ hl) fun s' hr S' => ?_)
    show wpAny _ A.in1 (ret Value.none) _ _ s'
    refine wpAny_pure (h _ s' hr S' ?_)
    rwa [List.take_of_length_le (by rw [hT.1]; exact Nat.le_refl _)] at hS
  | succ n ih =>
    intro k s oI oS hn hk S hP hS h
    have hlt : k < ts.length := by omega
    refine codeAny_builtin F.entry_set_update_loop ?_
    rw [Around.under_plainId F.plain_set_update_loop _]
    show wpAny _ A.in1 (pyNext (.ref I) >>= _) _ _ s
    refine wpAny_bind ((Iter.list I l (ts.map .ref) c).item hh1 S hP (.tail _ hl) (by rw [List.length_map]; exact hlt) fun v o' s' hr S' hP' hv => ?_)
    rw [List.getElem?_map] at hv
    obtain ⟨t, ht, rfl⟩ := Option.map_eq_some_iff.mp hv
    obtain ⟨σ, hσ, htm⟩ := hT.2 k t ht
    show wpAny _ A.in1 (holding [Value.ref t] (setAdd D (.ref t)) >>= _) _ _ s'
    obtain ⟨hnd, hmem⟩ := ins_spec (σs.take k) [] List.nodup_nil
    have hσl : σ.length = mm := hlen σ (List.mem_of_getElem? hσ)
    refine wpAny_bind (wpAny_holding (addTup (S'.perm (List.Perm.swap _ _ _)) (tl := (I, o') :: tl) (o := oS) (acc := (σs.take k).foldl ins []) ?_ (.tail _ htm) (by omega) (fun τ hτ => ?_) hnd (by show A.units + 1 < cLine; omega) fun oS' b s₂ hr₂ S₂ hS₂ => ?_))
    · obtain ⟨es, ep, t, zs, a1, a2, a3, a4⟩ := hS
      exact ⟨es, ep, t, zs, a1, a2, ⟨fun e he => let ⟨τ, b, q1, q2, q3⟩ := a3.1 e he; ⟨τ, b, q1, q2, .tail _ q3⟩, a3.2⟩, a4⟩
    · rcases (hmem τ).mp hτ with q | q
      · cases q
      · rw [hσl]; exact hlen τ (List.mem_of_mem_take q)
    · have hS₃ : TupSet tl oS' ((σs.take (k + 1)).foldl ins []) := by
        have e : (σs.take (k + 1)).foldl ins [] = ins ((σs.take k).foldl ins []) σ := by
          rw [List.take_add_one, hσ, List.foldl_append]; rfl
        rw [e]
        obtain ⟨es, ep, t, zs, a1, a2, a3, a4⟩ := hS₂
        refine ⟨es, ep, t, zs, a1, a2, ⟨fun e he => ?_, a3.2⟩, a4⟩
        obtain ⟨τ, b, q1, q2, q3⟩ := a3.1 e he
        refine ⟨τ, b, q1, q2, ?_⟩
        rcases List.mem_cons.mp q3 with q | q
        · exfalso
          have h1 : b = I := congrArg Prod.fst q
          have h2 : btup τ = o' := congrArg Prod.snd q
          have := hP'.1
          rw [← h2] at this
          have h3 : (Value.type "tuple" : Value) = .type "list_iterator" := this
          injection h3 with h3
          exact absurd h3 (by decide)
        · exact q
      refine wpAny_pure ⟨plainId_quiet F.plain_set_update_loop _, ih (k + 1) (by omega) hlt (S₂.perm (List.Perm.swap _ _ _)) hP' hS₃ fun o s₃ hr₃ => h o s₃ ((hr.trans hr₂).trans hr₃)⟩
set_option maxHeartbeats 3200000 in
theorem setListG {Q : Value → Shared → Prop} {items : Array Value} (hl : s.heap.IsList l items)
    (h : ∀ led, codeAny (model PP w) A.in1.in1 (.builtin "set.update.loop" ⟨[.ref s.heap.objs.size, .ref (s.heap.push (freshSet led)).objs.size], []⟩) (fun r s' => r = .ok (.ret .none) ∧ Q (.ref s.heap.objs.size) s')
      { s with heap := (s.heap.push (freshSet led)).push { cls := Value.type "list_iterator", data := Data.fields #[Value.ref l, Value.int 0 0] } }) : wpAny (model PP w) A (call (.type "set") [.ref l]) Q E s := by
  obtain ⟨cc, tt, hmro⟩ := PySem.F.called_set.mro
  have hmade := PySem.F.called_set.made
  have hsub := PySem.F.called_set.sub
  refine wpAny_call (codeAny_of_tree ?_)
  show wpAny _ _ (callAny (.type "set") _) _ _ _
  refine wpAny_pure ⟨Code.quiet_builtin _ (by decide +kernel), codeAny_builtin PySem.F.entry_type_call ?_⟩
  rw [Around.under_plain (weight_type_call_type "set" [.ref l] []) rfl]
  have h1 := PySem.F.called_set.notType
  have h2 := PySem.F.called_set.canCreate
  have hct := PySem.F.typeCall_set_1 (.ref l)
  repeat (any_goals (first | with_reducible assumption | wp_step))
  refine codeAny_mono (code_set_new_1 (.ref l) (E := E) (Q₁ := fun obj s₁ => ∃ led : Bool, obj = .ref s.heap.objs.size ∧ s₁ = { s with heap := s.heap.push (freshSet led) }) fun led => ⟨led, rfl, rfl⟩) fun r s₁ hr => ?_
  cases r with
  | error e => exact hr
  | ok fl =>
    cases fl with
    | ret obj =>
      obtain ⟨led, rfl, rfl⟩ := hr
      have hT1 : Shared.TypeIs { s with heap := s.heap.push (freshSet led) } (.ref s.heap.objs.size) "set" := ⟨_, Heap.get?_push_size _ rfl, rfl⟩
      have hli := PySem.F.called_set.init.lookup
      have hbi := PySem.F.called_set.init.bind (.ref s.heap.objs.size)
      repeat (any_goals (first | with_reducible assumption | wp_step))
      clear h1 h2 hct
      refine codeAny_mono (codeAny_call_builtin (R := wants (fun r s₂ => r = .none ∧ Q (.ref s.heap.objs.size) s₂) E) PySem.F.called_set.init.plain PySem.F.entry_set_init (check_set_init_1 hT1 ?_)) fun r₂ s₂ hr₂ => ?_
      · clear hli hbi hmro hmade hsub
        obtain ⟨ol, hol, hcl, nl, hdl⟩ := hl
        obtain ⟨ocls, odict, odata, oslots⟩ := ol
        simp only at hcl hdl
        subst hcl; subst hdl
        have hol' : (s.heap.push (freshSet led)).get? l = some { cls := .type "list", dict := odict, data := .seq items nl, slots := oslots } := Heap.get?_push_of_some _ hol
        have hl1 : (s.heap.push (freshSet led)).IsList l items := ⟨_, hol', rfl, nl, rfl⟩
        have hsls := PySem.F.sub_list_set
        have hslf := PySem.F.sub_list_frozenset
        have hne : (Value.type "list" == Value.type "dict") = false := by decide
        unfold Builtin.«set.__init__» noKeywords Builtin.Frozenset.updateFrom
        generalize hPI : pyIter = PI
        wp_walk
        subst hPI
        refine wpAny_pyIter_list hl1 ?_
        refine wpAny_bind (wpAny_runValue ?_)
        refine codeAny_mono (h led) fun r s' hx => ?_
        obtain ⟨rfl, hq⟩ := hx
        exact wpAny_pure (wpAny_pure ⟨rfl, hq⟩)
      · cases r₂ with
        | error e => exact hr₂
        | ok fl₂ =>
          cases fl₂ with
          | ret r =>
            obtain ⟨rfl, hq⟩ := hr₂
            repeat (any_goals (first | with_reducible assumption | wp_step))
          | next => exact hr₂.elim
          | brk => exact hr₂.elim
          | cont => exact hr₂.elim
    | next => exact hr.elim
    | brk => exact hr.elim
    | cont => exact hr.elim
theorem setListS {Q : Value → Shared → Prop} (hh : A.handled = none) (S : St h₀ L m tl s.heap) (hl : (l, lst (ts.map .ref) c) ∈ tl) (hT : TupsIn tl ts σs) (hlen : ∀ σ ∈ σs, σ.length = mm) (hmm : mm ≤ 6) (hu : A.units + 20 < cLine)
    (h : ∀ D o s', Rest s s' → St h₀ L m ((D, o) :: tl) s'.heap → Above tl D → TupSet tl o (σs.foldl ins []) → Q (.ref D) s') : wpAny (model PP w) A (call (.type "set") [.ref l]) Q E s := by
  refine setListG (S.list hl) fun led => ?_
  have S1 : St h₀ L m ((s.heap.objs.size, freshSet led) :: tl) (s.heap.push (freshSet led)) := S.push _
  have S2 : St h₀ L m (((s.heap.push (freshSet led)).objs.size, { cls := Value.type "list_iterator", data := Data.fields #[Value.ref l, Value.int 0 0] }) :: (s.heap.objs.size, freshSet led) :: tl) ((s.heap.push (freshSet led)).push { cls := Value.type "list_iterator", data := Data.fields #[Value.ref l, Value.int 0 0] }) := S1.push _
  exact loopTups (A := A.in1.in1) hh hl hT hlen hmm (by show A.units + 1 + 1 + 2 < cLine; omega) _ 0 rfl (Nat.zero_le _) S2 ⟨rfl, rfl⟩ (TupSet.nil _ led) fun o s' hr' S' hT' => ⟨rfl, h _ o s' ⟨hr'.1, hr'.2⟩ S' S.lt hT'⟩
theorem lenTupsS {Q : Value → Shared → Prop} {o : Obj} {acc : List (List Bool)} (S : St h₀ L m ((D, o) :: tl) s.heap) (T : TupSet tl o acc) (hl : acc.length ≤ 1000)
    (h : ∀ s' t, Rest s s' → St h₀ L m ((D, o) :: tl) s'.heap → Q (.int (acc.length : Nat) t) s') : wpAny (model PP w) A (call (.builtin "len") [.ref D]) Q E s := by
  obtain ⟨es, ep, t, zs, rfl, T, TE, hsz⟩ := T
  obtain ⟨hf, hes, hpl⟩ := T.fits
  refine call_len_set (S.get List.mem_cons_self) ⟨rfl, rfl, rfl⟩ rfl hf (by rw [hsz]; omega) ?_
  rw [hsz]
  exact h { s with toks := _ } _ ⟨rfl, rfl⟩ S
end
end Mine
end
section
open PySem PySem.W PySem.Calls PyProof.Rows PySem.SeqAt
set_option maxRecDepth 100000
namespace Mine
theorem intsOf : ∀ {vs : List Value} {ns : List Nat}, IntL vs ns → IntsAre vs (ns.map fun n : Nat => (n : Int))
  | [], [], _ => .nil
  | [], _ :: _, h => by cases h.1
  | _ :: _, [], h => by cases h.1
  | v :: vs, n :: ns, h => by
    obtain ⟨n', t, e, rfl⟩ := h.2 0 v rfl
    obtain rfl : n = n' := Option.some.inj e
    refine .cons _ t (intsOf ⟨by simpa using h.1, fun k v hk => ?_⟩)
    obtain ⟨n', t, e, rfl⟩ := h.2 (k + 1) v (by simpa using hk)
    exact ⟨n', t, by simpa using e, rfl⟩
theorem idxOf_int (k : Nat) : ∀ ns : List Nat, (ns.map fun n : Nat => (n : Int)).idxOf (k : Int) = ns.idxOf k
  | [] => rfl
  | n :: ns => by
    rw [List.map_cons, List.idxOf_cons, List.idxOf_cons, idxOf_int k ns]
    by_cases e : n = k
    · subst e; simp
    · have h1 : (n == k) = false := by simpa using e
      have h2 : ((n : Int) == (k : Int)) = false := by simp; omega
      rw [h1, h2]
section
variable {w : World} {A : Around} {E : Value → Shared → Prop} {s : Shared} {h₀ : Heap} {L l : Addr} {m : Str → Option Value} {news l₀ : List (Addr × Obj)} {vs : List Value} {ns : List Nat} {n k : Nat} {t : Tok}
theorem indexS {Q : Value → Shared → Prop} (_h0 : (l, lst vs n) ∈ l₀) (S : St h₀ L m news s.heap) (hm : (l, lst vs n) ∈ news) (hi : IntL vs ns) (hk : k ∈ ns) (hlen : ns.length ≤ 1000)
    (h : ∀ s' t, Rest s s' → St h₀ L m news s'.heap → Q (.int (ns.idxOf k : Nat) t) s') : wpAny (model PP w) A (call (.builtin "list.index") [.ref l, .int (k : Nat) t]) Q E s := by
  have hj : ns.idxOf k < ns.length := List.idxOf_lt_length_iff.mpr hk
  have hI := intsOf hi
  have hlv := hi.1
  refine call_meets PySem.F.slot_list_index (S.list hm).typeIs PySem.F.entry_list_index (PySem.F.args_list_index_2 _ _)
    (list_indexAt l vs.toArray n none #[] (.int (k : Nat) t) (isInt (k : Nat)) (ns.idxOf k) (by simp; omega) (by omega) ?_ ?_) ⟨S.get hm, fun y hy => (eq_isInt (k : Nat) t hI y (by simpa using hy)).at _ _, h { s with toks := s.toks + 1 } _ ⟨rfl, rfl⟩ S⟩
  · show isInt (k : Nat) vs[ns.idxOf k] = true
    rw [isInt_at (k : Nat) hI _ (by omega) (by simpa using hj)]
    simp
  · intro j hjs hlt
    show isInt (k : Nat) vs[j] = false
    have hj2 : j < ns.length := by simp at hjs; omega
    rw [isInt_at (k : Nat) hI j (by simpa using hjs) (by simpa using hj2)]
    exact ne_of_lt_idxOf (by rw [idxOf_int]; exact hlt) _
theorem getIndexS {pl : Sem Bool} {Q : Value × List Value → Shared → Prop} (_h0 : (l, lst vs n) ∈ l₀) (S : St h₀ L m news s.heap) (hm : (l, lst vs n) ∈ news) (h : Q (.builtin "list.index", [.ref l]) s) :
    wpAny (model PP w) A (getMethod (.ref l) "index" pl) Q E s := getMethod_list_of PySem.F.slot_list_index PySem.F.type_list_index (S.list hm) ⟨_, S.get hm, rfl⟩ h
theorem tupleS {Q : Value → Shared → Prop} (_h0 : (l, lst vs n) ∈ l₀) (S : St h₀ L m news s.heap) (hm : (l, lst vs n) ∈ news) (hz : vs.length ≤ 1000000)
    (h : ∀ D s', Rest s s' → St h₀ L m ((D, tupO vs) :: news) s'.heap → Above news D → Q (.ref D) s') : wpAny (model PP w) A (call (.type "tuple") [.ref l]) Q E s := by
  refine call_tuple_list (S.list hm) (fun h' hk => ?_) (by rw [List.size_toArray, sizeLine_eq]; omega)
  have S' : St h₀ L m news h' := S.ext fun b o _ e => hk b o e
  exact h _ { s with heap := _ } ⟨rfl, rfl⟩ (S'.push _) S'.lt
end
end Mine
end
section
open PySem PySem.W PySem.Calls PyProof.Rows
set_option maxRecDepth 100000
namespace Mine

local macro_rules | `(tactic| tb_start) => `(tactic| first | with_reducible assumption | with_reducible exact Ne.symm (by assumption) | (refine' fresh_ne ?l ?h0 ?h; (case l => with_reducible assumption); (case h0 => with_reducible assumption); (case h => tb_rel)) | (refine' Ne.symm (fresh_ne ?l ?h0 ?h); (case l => with_reducible assumption); (case h0 => with_reducible assumption); (case h => tb_rel)))
local macro_rules | `(tactic| tb_rel) => `(tactic| first | with_reducible assumption | with_reducible exact List.mem_cons_self | (with_reducible refine List.mem_cons_of_mem _ ?_; tb_rel) | (with_reducible refine mem_put_self (o := ?oo) ?hh; case hh => tb_rel) | (with_reducible refine mem_put_ne ?h1 ?h2; (case h1 => tb_rel); (case h2 => tb_start)) | (with_reducible refine List.mem_append_left _ ?_; tb_rel) | (with_reducible refine List.mem_append_right _ ?_; tb_rel))
local macro_rules | `(tactic| k_mem) => `(tactic| tb_rel)
local macro_rules | `(tactic| walk_at "compareOp In int ref") => `(tactic| (k_here; (with_reducible rename St _ _ _ _ _ => kS); (with_reducible rename Rest _ _ => kR); k_dflt (refine' in_D (knd := intKind PP _) ?h0 kS ?hm ?hd ?hk ?hv ?_; (case h0 => with_reducible assumption); (case hm => tb_rel); (case hd => first | with_reducible assumption | with_reducible exact isDict_nil _); (case hk => exact intKind_is _ _ _ _); (case hv => first | with_reducible assumption | with_reducible exact isSome_node _ (by assumption) | with_reducible exact isSome_node_none _ (by assumption) | with_reducible exact valueAt_adjS _ _)); (intro s' hr' kS'); (have kR' := Rest.comp kR hr'); clear kS kR hr'; (have kF := kS'.F); (have kN := kS'.N); (try k_sweep)))
local macro_rules | `(tactic| walk_at "compareOp NotIn int ref") => `(tactic| (k_here; (with_reducible rename St _ _ _ _ _ => kS); (with_reducible rename Rest _ _ => kR); k_dflt (refine' notin_D (knd := intKind PP _) ?h0 kS ?hm ?hd ?hk ?hv ?_; (case h0 => with_reducible assumption); (case hm => tb_rel); (case hd => first | with_reducible assumption | with_reducible exact isDict_nil _); (case hk => exact intKind_is _ _ _ _); (case hv => first | with_reducible assumption | with_reducible exact isSome_node _ (by assumption) | with_reducible exact isSome_node_none _ (by assumption) | with_reducible exact valueAt_adjS _ _)); (intro s' hr' kS'); (have kR' := Rest.comp kR hr'); clear kS kR hr'; (have kF := kS'.F); (have kN := kS'.N); (try k_sweep)))
local macro_rules | `(tactic| walk_at "subscriptTail Name Name ref int") => `(tactic| (k_here; (with_reducible show wpAny _ _ (subscriptTail _ _ (Value.ref _) (Value.int _ _)) _ _ _); (with_reducible rename St _ _ _ _ _ => kS); (with_reducible rename Rest _ _ => kR); k_dflt (refine' sub_D (knd := intKind PP _) ?h0 kS ?hm ?hd ?hk ?hv ?_; (case h0 => with_reducible assumption); (case hm => tb_rel); (case hd => first | with_reducible assumption | with_reducible exact isDict_nil _); (case hk => exact intKind_is _ _ _ _); (case hv => first | with_reducible assumption | with_reducible exact valueAt_node _ (by assumption) | with_reducible exact valueAt_stored _ _ _)); (intro s' hr' kS'); (have kR' := Rest.comp kR hr'); clear kS kR hr'; (have kF := kS'.F); (have kN := kS'.N); (try k_sweep)))
local macro_rules | `(tactic| walk_at "subscriptTail Attribute Name Name ref int") => `(tactic| (k_here; (with_reducible show wpAny _ _ (subscriptTail _ _ (Value.ref _) (Value.int _ _)) _ _ _); (with_reducible rename St _ _ _ _ _ => kS); (with_reducible rename Rest _ _ => kR); k_dflt (refine' sub_D (knd := intKind PP _) ?h0 kS ?hm ?hd ?hk ?hv ?_; (case h0 => with_reducible assumption); (case hm => tb_rel); (case hd => first | with_reducible assumption | with_reducible exact isDict_nil _); (case hk => exact intKind_is _ _ _ _); (case hv => first | with_reducible assumption | with_reducible exact valueAt_node _ (by assumption) | with_reducible exact valueAt_stored _ _ _)); (intro s' hr' kS'); (have kR' := Rest.comp kR hr'); clear kS kR hr'; (have kF := kS'.F); (have kN := kS'.N); (try k_sweep)))
local macro_rules | `(tactic| walk_at "subscriptTail Subscript Attribute Name Name ref int") => `(tactic| (k_here; (with_reducible show wpAny _ _ (subscriptTail _ _ (Value.ref _) (Value.int _ _)) _ _ _); (with_reducible rename St _ _ _ _ _ => kS); (with_reducible rename Rest _ _ => kR); k_dflt (refine' sub_D (knd := intKind PP _) ?h0 kS ?hm ?hd ?hk ?hv ?_; (case h0 => with_reducible assumption); (case hm => tb_rel); (case hd => first | with_reducible assumption | with_reducible exact isDict_nil _); (case hk => exact intKind_is _ _ _ _); (case hv => first | with_reducible assumption | with_reducible exact valueAt_node _ (by assumption) | with_reducible exact valueAt_stored _ _ _)); (intro s' hr' kS'); (have kR' := Rest.comp kR hr'); clear kS kR hr'; (have kF := kS'.F); (have kN := kS'.N); (try k_sweep)))
local macro_rules | `(tactic| walk_at "subscriptTail Subscript Name ref int") => `(tactic| (k_here; (with_reducible show wpAny _ _ (subscriptTail _ _ (Value.ref _) (Value.int _ _)) _ _ _); (with_reducible rename St _ _ _ _ _ => kS); (with_reducible rename Rest _ _ => kR); k_dflt (refine' sub_D (knd := intKind PP _) ?h0 kS ?hm ?hd ?hk ?hv ?_; (case h0 => with_reducible assumption); (case hm => tb_rel); (case hd => first | with_reducible assumption | with_reducible exact isDict_nil _); (case hk => exact intKind_is _ _ _ _); (case hv => first | with_reducible assumption | with_reducible exact valueAt_node _ (by assumption) | with_reducible exact valueAt_stored _ _ _)); (intro s' hr' kS'); (have kR' := Rest.comp kR hr'); clear kS kR hr'; (have kF := kS'.F); (have kN := kS'.N); (try k_sweep)))
local macro_rules | `(tactic| walk_at "storeName") => `(tactic| (k_here; (with_reducible rename St _ _ _ _ _ => kS); (with_reducible rename Rest _ _ => kR); k_dflt (refine' storeS kS ?_ ?h1 ?h2 ?h3; (case h1 => exact rfl); (case h2 => exact rfl); (case h3 => exact rfl)); (intro s' hr' kS'); (have kR' := Rest.comp kR hr'); clear kS kR hr'; (have kF := kS'.F); (have kN := kS'.N); (try k_sweep)))
local macro_rules | `(tactic| walk_at "eval Dict nil nil") => `(tactic| (k_here; (with_reducible rename St _ _ _ _ _ => kS); (with_reducible rename Rest _ _ => kR); k_dflt (refine' dictS kS ?_); (intro d' s' hr' kS' l1); (have hm' := cons_mem kS'); (have kR' := Rest.comp kR hr'); clear kS kR hr'; (have kF := kS'.F); (have kN := kS'.N); (try k_sweep)))
local macro_rules | `(tactic| walk_at "setItem ref int ref") => `(tactic| (k_here; (with_reducible rename St _ _ _ _ _ => kS); (with_reducible rename Rest _ _ => kR); k_dflt (refine' set_D (knd := intKind PP _) ?h0 kS ?hm ?hd ?hk ?hz ?_; (case h0 => with_reducible assumption); (case hm => tb_rel); (case hd => first | with_reducible assumption | with_reducible exact isDict_nil _); (case hk => exact intKind_is _ _ _ _); (case hz => first | with_reducible assumption | exact Nat.le_of_ble_eq_true rfl)); (intro s' o' hr' kS' hd' hm'); (have kR' := Rest.comp kR hr'); clear kS kR hr'; (have kF := kS'.F); (have kN := kS'.N); (try k_sweep)))
local macro_rules | `(tactic| walk_at "delItem ref") => `(tactic| (k_here; (with_reducible rename St _ _ _ _ _ => kS); (with_reducible rename Rest _ _ => kR); k_dflt (refine' del_D (knd := intKind PP _) ?h0 kS ?hm ?hd ?hk ?hz ?hl ?_; (case h0 => with_reducible assumption); (case hm => tb_rel); (case hd => first | with_reducible assumption | with_reducible exact isDict_nil _); (case hk => exact intKind_is _ _ _ _); (case hz => with_reducible assumption); (case hl => with_reducible assumption)); (intro s' o' hr' kS' hd' hm'); (have kR' := Rest.comp kR hr'); clear kS kR hr'; (have kF := kS'.F); (have kN := kS'.N); (try k_sweep)))
local macro_rules | `(tactic| walk_at "call builtin:dict.update") => `(tactic| (k_here; (with_reducible rename St _ _ _ _ _ => kS); (with_reducible rename Rest _ _ => kR); k_dflt (refine' update_nil (knd := strKind PP _) (knd' := strKind PP _) ?h0 ?h1 kS ?hm ?hd ?hme ?he ?hde ?_; (case h0 => with_reducible assumption); (case h1 => with_reducible assumption); (case hm => tb_rel); (case hd => first | with_reducible assumption | with_reducible exact isDict_nil _); (case hme => tb_rel); (case he => first | with_reducible assumption | with_reducible exact isDict_nil _); (case hde => tb_start)); (intro s' hr' kS'); (have kR' := Rest.comp kR hr'); clear kS kR hr'; (have kF := kS'.F); (have kN := kS'.N); (try k_sweep)))
local macro_rules | `(tactic| walk_at "call builtin:dict.get") => `(tactic| (k_here; (with_reducible show wpAny _ _ (call _ [_, _, _]) _ _ _); (with_reducible rename St _ _ _ _ _ => kS); (with_reducible rename Rest _ _ => kR); k_dflt (refine' get2_D (knd := intKind PP _) ?h0 kS ?hm ?hd ?hk ?hv ?_; (case h0 => with_reducible assumption); (case hm => tb_rel); (case hd => first | with_reducible assumption | with_reducible exact isDict_nil _); (case hk => exact intKind_is _ _ _ _); (case hv => first | exact getD_of_none (by assumption) | exact getD_of_some (by assumption))); (intro s' hr' kS'); (have kR' := Rest.comp kR hr'); clear kS kR hr'; (have kF := kS'.F); (have kN := kS'.N); (try k_sweep)))
local macro_rules | `(tactic| walk_at "getMethod ref") => `(tactic| (k_here; k_dflt (first
  | ((with_reducible show wpAny _ _ (getMethod (Value.ref _) (Str.ofString "update") _) _ _ _); refine' getM_DU (knd := strKind PP _) ?h0 ?S ?hm ?hd ?_; (case h0 => with_reducible assumption); (case S => assumption); (case hm => tb_rel); (case hd => first | with_reducible assumption | with_reducible exact isDict_nil _))
  | ((with_reducible show wpAny _ _ (getMethod (Value.ref _) (Str.ofString "get") _) _ _ _); refine' getM_DG (knd := intKind PP _) ?h0 ?S ?hm ?hd ?_; (case h0 => with_reducible assumption); (case S => assumption); (case hm => tb_rel); (case hd => first | with_reducible assumption | with_reducible exact isDict_nil _)))))
local macro_rules | `(tactic| walk_at "LeaveK") => `(tactic| ((with_reducible rename St _ _ _ _ _ => kS); (refine leaveS (by assumption) kS ?_); (intro kS'); clear kS; (try dsimp only)))
local macro_rules | `(tactic| walk_at "newTuple") => `(tactic| (k_here; (with_reducible rename St _ _ _ _ _ => kS); (with_reducible rename Rest _ _ => kR); k_dflt (refine' tupS kS ?_ ?hz; (case hz => size_fits)); (intro t' s' hr' kS' l1); (have hm' := cons_mem kS'); (have kR' := Rest.comp kR hr'); clear kS kR hr'; (have kF := kS'.F); (have kN := kS'.N); (try k_sweep)))
local macro_rules | `(tactic| walk_at "newList") => `(tactic| (k_here; (with_reducible rename St _ _ _ _ _ => kS); (with_reducible rename Rest _ _ => kR); k_dflt (refine' listS kS ?_ ?hz; (case hz => size_fits)); (intro t' s' hr' kS' l1); (have hm' := cons_mem kS'); (have kR' := Rest.comp kR hr'); clear kS kR hr'; (have kF := kS'.F); (have kN := kS'.N); (try k_sweep)))
local macro_rules | `(tactic| walk_at "unpackItems ref") => `(tactic| (k_here; (with_reducible rename Cx _ _ _ _ _ => kC); (with_reducible rename St _ _ _ _ _ => kS); (with_reducible rename Rest _ _ => kR); k_dflt (refine' unpackS ?h0 kS ?hm (Cx.hh kC) ?hn ?_; (case h0 => with_reducible assumption); (case hm => tb_rel); (case hn => exact rfl)); (intro s' hr' kS'); (have kR' := Rest.comp kR hr'); clear kS kR hr'; (have kF := kS'.F); (have kN := kS'.N); (try k_sweep)))
local macro_rules | `(tactic| walk_at "compareOp NotEq int int") => `(tactic| first | with_reducible refine ne_int_t (by with_reducible assumption) ?_ | with_reducible refine ne_int_f (by with_reducible assumption) ?_)
local macro_rules | `(tactic| walk_at "compareOp Eq int int") => `(tactic| first | with_reducible refine eq_int_t (by with_reducible assumption) ?_ | with_reducible refine eq_int_f (by with_reducible assumption) ?_)
local macro_rules | `(tactic| walk_at "setAttr ref") => `(tactic| (k_here; (with_reducible rename Cx _ _ _ _ _ => kC); (with_reducible rename St _ _ _ _ _ => kS); (with_reducible rename Rest _ _ => kR); k_dflt (refine' setAttrS kC kS ?h1 ?h2 ?k6 ?k7 ?k8 ?k9 ?k10 ?k11 ?k13 ?_; (case h1 => tb_rel); (case h2 => tb_rel); (case k6 => k_is); (case k7 => k_is); (case k8 => k_is); (case k9 => k_is); (case k10 => k_get); (case k11 => k_put); (case k13 => exact Nat.le_of_ble_eq_true rfl)); (intro s' hr' kS' hm'); (have kR' := Rest.comp kR hr'); clear kS kR hr'; (have kF := kS'.F); (have kN := kS'.N); (try k_sweep)))

local macro_rules | `(tactic| walk_at "subscriptTail Name BinOp ref int") => `(tactic| (k_here; (with_reducible rename St _ _ _ _ _ => kS); k_dflt (refine' subL ?h0 kS ?hm ?hx ?hn ?hh ?_; (case h0 => with_reducible assumption); (case hm => tb_rel); (case hx => first | with_reducible assumption | exact rfl); (case hn => first | decide | omega); (case hh => first | decide | omega))))
local macro_rules | `(tactic| walk_at "subscriptTail Name Constant ref int") => `(tactic| (k_here; (with_reducible rename St _ _ _ _ _ => kS); k_dflt (refine' subL ?h0 kS ?hm ?hx ?hn ?hh ?_; (case h0 => with_reducible assumption); (case hm => tb_rel); (case hx => first | with_reducible assumption | exact rfl); (case hn => first | decide | omega); (case hh => first | decide | omega))))
local macro_rules | `(tactic| walk_at "subscriptTail Name Name ref int") => `(tactic| (k_here; (with_reducible rename St _ _ _ _ _ => kS); k_dflt (refine' subL ?h0 kS ?hm ?hx ?hn ?hh ?_; (case h0 => with_reducible assumption); (case hm => tb_rel); (case hx => first | with_reducible assumption | exact rfl); (case hn => first | decide | omega); (case hh => first | decide | omega))))
local macro_rules | `(tactic| walk_at "subscriptTail Subscript Name Constant ref int") => `(tactic| (k_here; (with_reducible rename St _ _ _ _ _ => kS); k_dflt (refine' subL ?h0 kS ?hm ?hx ?hn ?hh ?_; (case h0 => with_reducible assumption); (case hm => tb_rel); (case hx => first | with_reducible assumption | exact rfl); (case hn => first | decide | omega); (case hh => first | decide | omega))))
local macro_rules | `(tactic| walk_at "subscriptTail Subscript Name Constant BinOp ref int") => `(tactic| (k_here; (with_reducible rename St _ _ _ _ _ => kS); k_dflt (refine' subL ?h0 kS ?hm ?hx ?hn ?hh ?_; (case h0 => with_reducible assumption); (case hm => tb_rel); (case hx => first | with_reducible assumption | exact rfl); (case hn => first | decide | omega); (case hh => first | decide | omega))))
local macro_rules | `(tactic| walk_at "subscriptTail Subscript Name Name ref int") => `(tactic| (k_here; (with_reducible rename St _ _ _ _ _ => kS); k_dflt (refine' subL ?h0 kS ?hm ?hx ?hn ?hh ?_; (case h0 => with_reducible assumption); (case hm => tb_rel); (case hx => first | with_reducible assumption | exact rfl); (case hn => first | decide | omega); (case hh => first | decide | omega))))
local macro_rules | `(tactic| walk_at "subscriptTail List Name ref int") => `(tactic| (k_here; (with_reducible rename St _ _ _ _ _ => kS); k_dflt (refine' subL ?h0 kS ?hm ?hx ?hn ?hh ?_; (case h0 => with_reducible assumption); (case hm => tb_rel); (case hx => first | with_reducible assumption | exact rfl); (case hn => first | decide | omega); (case hh => first | decide | omega))))
local macro_rules | `(tactic| walk_at "subscriptTail List cons Name ref int") => `(tactic| (k_here; (with_reducible rename St _ _ _ _ _ => kS); k_dflt (refine' subL ?h0 kS ?hm ?hx ?hn ?hh ?_; (case h0 => with_reducible assumption); (case hm => tb_rel); (case hx => first | with_reducible assumption | exact rfl); (case hn => first | decide | omega); (case hh => first | decide | omega))))
local macro_rules | `(tactic| walk_at "subscriptTail Subscript Name BinOp ref int") => `(tactic| (k_here; (with_reducible rename St _ _ _ _ _ => kS); k_dflt (refine' subL ?h0 kS ?hm ?hx ?hn ?hh ?_; (case h0 => with_reducible assumption); (case hm => tb_rel); (case hx => first | with_reducible assumption | exact rfl); (case hn => first | decide | omega); (case hh => first | decide | omega))))
local macro_rules | `(tactic| walk_at "getItem ref int") => `(tactic| (k_here; (with_reducible rename St _ _ _ _ _ => kS); k_dflt (refine' getL ?h0 kS ?hm ?hx ?hn ?hh ?_; (case h0 => with_reducible assumption); (case hm => tb_rel); (case hx => first | with_reducible assumption | exact rfl); (case hn => first | decide | omega); (case hh => first | decide | omega))))
local macro_rules | `(tactic| walk_at "setItem ref int int") => `(tactic| (k_here; (with_reducible rename St _ _ _ _ _ => kS); (with_reducible rename Rest _ _ => kR); k_dflt (refine' setL ?h0 kS ?hm ?hn ?hh ?hk ?hv ?_; (case h0 => with_reducible assumption); (case hm => tb_rel); (case hn => first | decide | omega); (case hh => first | decide | omega); (case hk => first | decide | (simp; done) | (simp; omega)); (case hv => first | (simp only [Int.toNat_one, Int.toNat_zero, Int.toNat_natCast, List.set_cons_succ, List.set_cons_zero]; exact rfl) | exact rfl)); (intro s' hr' kS' hm'); (have kR' := Rest.comp kR hr'); clear kS kR hr'; (have kF := kS'.F); (have kN := kS'.N); (try k_sweep)))
local macro_rules | `(tactic| walk_at "call builtin:len") => `(tactic| (k_here; (with_reducible rename St _ _ _ _ _ => kS); (with_reducible rename Rest _ _ => kR); k_dflt (refine' lenListS ?h0 kS ?hm ?hz ?_; (case h0 => with_reducible assumption); (case hm => tb_rel); (case hz => first | with_reducible assumption | omega)); (intro s' t' hr' kS'); (have kR' := Rest.comp kR hr'); clear kS kR hr'; (have kF := kS'.F); (have kN := kS'.N); (try k_sweep)))

local macro_rules | `(tactic| walk_at "eval Name") => `(tactic| (k_here; (with_reducible rename Cx _ _ _ _ _ => kC); (with_reducible rename St _ _ _ _ _ => kS); k_dflt (first
  | (refine' nmL kS ?hv ?_ ?hk ?hx ?hL ?hd; (case hx => exact rfl); (case hk => exact rfl); (case hL => exact rfl); (case hd => decide); (case hv => first | with_reducible assumption | exact rfl))
  | (refine' nmC kS ?hc ?hm ?hd ?_ ?hk ?hx ?hb; (case hx => exact rfl); (case hk => exact rfl); (case hb => decide); (case hc => exact rfl); (case hm => tb_rel); (case hd => with_reducible assumption))
  | (refine' nmF kS ?hc ?hm ?hd ?_ ?hk ?hx ?hb ?hn; (case hx => exact rfl); (case hk => exact rfl); (case hb => decide); (case hn => decide); (case hc => exact rfl); (case hm => tb_rel); (case hd => with_reducible assumption))
  | (refine' nmB kC kS ?he ?hv ?hn ?_ ?hg ?hbb ?hx ?hd; (case hx => exact rfl); (case he => exact rfl); (case hg => exact rfl); (case hbb => exact rfl); (case hd => decide); (case hv => first | boot_fast | exact rfl); (case hn => decide))
  | (refine' nmG kC kS ?he ?_ ?hg ?hx ?hd; (case hx => exact rfl); (case he => exact rfl); (case hg => exact rfl); (case hd => decide)))))
local macro_rules | `(tactic| walk_at "binaryOp Add ref ref") => `(tactic| (k_here; (with_reducible rename St _ _ _ _ _ => kS); (with_reducible rename Rest _ _ => kR); k_dflt (refine' addLS ?h0 ?h1 kS ?hm ?hn ?hz ?_; (case h0 => with_reducible assumption); (case h1 => with_reducible assumption); (case hm => tb_rel); (case hn => tb_rel); (case hz => first | with_reducible assumption | (simp only [List.length_cons, List.length_nil]; omega))); (intro t' s' hr' kS' l1); (have hm' := cons_mem kS'); (have kR' := Rest.comp kR hr'); clear kS kR hr'; (have kF := kS'.F); (have kN := kS'.N); (try k_sweep)))
local macro_rules | `(tactic| walk_at "storeName") => `(tactic| (k_here; (with_reducible rename St _ _ _ _ _ => kS); (with_reducible rename Rest _ _ => kR); k_dflt (refine' storeC kS ?hc ?hm ?hd ?_ ?hk ?hx; (case hx => exact rfl); (case hk => exact rfl); (case hc => exact rfl); (case hm => tb_rel); (case hd => with_reducible assumption)); (intro s' o' hr' kS' hd' hm'); (have kR' := Rest.comp kR hr'); clear kS kR hr'; (have kF := kS'.F); (have kN := kS'.N); (try k_sweep)))
local macro_rules | `(tactic| walk_at "call builtin:all") => `(tactic| (k_here; (with_reducible rename Cx _ _ _ _ _ => kC); (with_reducible rename St _ _ _ _ _ => kS); (with_reducible rename Rest _ _ => kR); k_dflt (refine' allBools (Cx.hh kC) ?h0 kS ?hm ?_; (case h0 => with_reducible assumption); (case hm => tb_rel)); (intro s' hr' kS'); (have kR' := Rest.comp kR hr'); clear kS kR hr'; (have kF := kS'.F); (have kN := kS'.N); (try k_sweep)))
local macro_rules | `(tactic| walk_at "call builtin:any") => `(tactic| (k_here; (with_reducible rename Cx _ _ _ _ _ => kC); (with_reducible rename St _ _ _ _ _ => kS); (with_reducible rename Rest _ _ => kR); k_dflt (refine' anyBools (Cx.hh kC) ?h0 kS ?hm ?_; (case h0 => with_reducible assumption); (case hm => tb_rel)); (intro s' hr' kS'); (have kR' := Rest.comp kR hr'); clear kS kR hr'; (have kF := kS'.F); (have kN := kS'.N); (try k_sweep)))
local macro_rules | `(tactic| walk_at "call type:range") => `(tactic| (k_here; (with_reducible rename St _ _ _ _ _ => kS); (with_reducible rename Rest _ _ => kR); k_dflt (first | refine' rangeS1 kS ?_ | refine' rangeS2 kS ?_); (intro r' t1' t2' t3' s' hr' kS' l1); (have hm' := cons_mem kS'); (have kR' := Rest.comp kR hr'); clear kS kR hr'; (have kF := kS'.F); (have kN := kS'.N); (try k_sweep)))
local macro_rules | `(tactic| walk_at "loadName") => `(tactic| (k_here; (with_reducible rename St _ _ _ _ _ => kS); k_dflt (refine' ldL kS ?hv ?_ ?hk ?hx ?hL; (case hx => exact rfl); (case hk => exact rfl); (case hL => exact rfl); (case hv => first | with_reducible assumption | exact rfl))))

local macro_rules | `(tactic| walk_at "assign Tuple cons ref") => `(tactic| (k_here; (with_reducible rename Cx _ _ _ _ _ => kC); (with_reducible rename St _ _ _ _ _ => kS); (with_reducible rename Rest _ _ => kR); k_dflt (refine' assignTupS ?h0 kS ?hm (Cx.hh kC) ?hn ?hs ?_; (case h0 => with_reducible assumption); (case hm => tb_rel); (case hn => exact rfl); (case hs => exact rfl)); (intro s' hr' kS'); (have kR' := Rest.comp kR hr'); clear kS kR hr'; (have kF := kS'.F); (have kN := kS'.N); (try k_sweep)))

def shadeBs (es : List (Nat × Nat)) (cs : List Nat) (one : Nat) : List Bool := (es.filter fun e => decide (e.2 = cs.length)).map fun e => decide (e.1 < e.2) && decide (cs[e.1]? ≠ some one)
def cols (es : List (Nat × Nat)) (q : Nat) : Nat → List Nat → Nat
  | 0, _ => 1
  | f + 1, cs => ((List.range q).map fun one => if (shadeBs es cs one).all id = true then cols es q f (cs ++ [one]) else 0).sum
theorem shadeBs_hit {es : List (Nat × Nat)} {cs : List Nat} {one i a b : Nat} (h : es[i]? = some (a, b)) (hb : b = cs.length) : shadeBs (es.take (i + 1)) cs one = shadeBs (es.take i) cs one ++ [decide (a < b) && decide (cs[a]? ≠ some one)] := by
  unfold shadeBs; rw [List.take_add_one, h, List.filter_append, List.map_append]; simp [hb]
theorem shadeBs_miss {es : List (Nat × Nat)} {cs : List Nat} {one i a b : Nat} (h : es[i]? = some (a, b)) (hb : b ≠ cs.length) : shadeBs (es.take (i + 1)) cs one = shadeBs (es.take i) cs one := by
  unfold shadeBs; rw [List.take_add_one, h, List.filter_append, List.map_append]; simp [hb]
theorem sum_take {q j : Nat} {F : Nat → Nat} (h : j < q) : (((List.range q).take (j + 1)).map F).sum = (((List.range q).take j).map F).sum + F j := by
  rw [List.take_add_one, List.getElem?_eq_getElem (by simpa using h), List.map_append, List.sum_append]; simp
theorem EdgesIn.mono {rest rest' : List (Addr × Obj)} {l : Addr} {n : Nat} {ts : List Addr} {es : List (Nat × Nat)} (h : EdgesIn rest l n ts es) (hs : ∀ p ∈ rest, p ∈ rest') : EdgesIn rest' l n ts es :=
  ⟨hs _ h.1, h.2.1, fun k t ht => let ⟨u, v, tu, tv, a, b⟩ := h.2.2 k t ht; ⟨u, v, tu, tv, a, hs _ b⟩⟩
theorem list3 {cs : List (Str × Addr)} {a b c : Str} (h : cs.map (·.1) = [a, b, c]) : ∃ x y z, cs = [(a, x), (b, y), (c, z)] := by
  match cs, h with
  | [(p, x), (q, y), (r, z)], h => simp at h; exact ⟨x, y, z, by rw [h.1, h.2.1, h.2.2]⟩
set_option maxHeartbeats 8000000 in
theorem cols_c (es : List (Nat × Nat)) (q : Nat) (hq : q ≤ 3) : ∀ (f : Nat) {w : World} {A : Around} {s : Shared} {h₀ : Heap} {env : Env} {L : Addr} {m : Str → Option Value} {news : List (Addr × Obj)} {R : Result → Shared → Prop} {sl el : Addr} {c ec n : Nat} {vs : List Value} {ets : List Addr} {cs : List Nat} {tn tq : Tok},
  Cx w A env L h₀ → St h₀ L m news s.heap → EdgesIn news el ec ets es → (sl, lst vs c) ∈ news → IntL vs cs → cs.length + f = n → n ≤ 5 → es.length ≤ 100 → A.depth + f < recursionLimit →
  (∀ s' t, Rest s s' → St h₀ L m news s'.heap → R (.ok (.ret (.int (cols es q f cs : Nat) t))) s') →
  codeAny (model PP w) A (.call (.ref 326) ⟨[.int (n : Nat) tn, .ref el, .int (q : Nat) tq, .ref sl], []⟩) R s := by
  intro f
  induction f with
  | zero =>
    intro w A s h₀ env L m news R sl el c ec n vs ets cs tn tq C S he hsl hi hlen hn hes hroom h
    refine enterC (binds := [(Str.ofString "n", .int (n : Nat) tn), (Str.ofString "edges", .ref el), (Str.ofString "q", .int (q : Nat) tq), (Str.ofString "shades", .ref sl)]) (cn := [Str.ofString "one", Str.ofString "k", Str.ofString "shades"]) C S (by k_is) (by k_is) (BindsTo.of_eq rfl) (fun _ => kinds_of (by kinds_ok)) rfl (by decide) (fun g₀ L' s₁ cs0 cells hr C' hcs Y S' hab hlo => ?_) (by omega)
    obtain ⟨c3, c2, c1, rfl⟩ := list3 hcs
    obtain ⟨o3, o2, o1, rfl, ho3, ho2, ho1⟩ := Y.three
    replace ho1 : o1.data = .cell (some (.ref sl)) := ho1
    replace ho2 : o2.data = .cell none := ho2
    replace ho3 : o3.data = .cell none := ho3
    clear Y
    have hL := S.low.1
    clear C S
    have F := S'.F
    have N := S'.N
    have X := C'.X
    obtain ⟨mean, mg, mb, T⟩ := C'.T
    have hz : vs.length ≤ 1000000 := by rw [hi.1]; omega
    have hk : ((vs.length : Nat) : Int) = (n : Int) := by rw [hi.1]; omega
    iterate 22 (first | walk1 | (dsimp only; walk1))
    rename St _ _ _ _ _ => kS
    exact h _ _ (by assumption) (St.put_at (pre := [(_, _)]) kS).tl.tl.tl
  | succ f ih =>
    intro w A s h₀ env L m news R sl el c ec n vs ets cs tn tq C S he hsl hi hlen hn hes hroom h
    refine enterC (binds := [(Str.ofString "n", .int (n : Nat) tn), (Str.ofString "edges", .ref el), (Str.ofString "q", .int (q : Nat) tq), (Str.ofString "shades", .ref sl)]) (cn := [Str.ofString "one", Str.ofString "k", Str.ofString "shades"]) C S (by k_is) (by k_is) (BindsTo.of_eq rfl) (fun _ => kinds_of (by kinds_ok)) rfl (by decide) (fun g₀ L' s₁ cs0 cells hr C' hcs Y S' hab hlo => ?_) (by omega)
    obtain ⟨c3, c2, c1, rfl⟩ := list3 hcs
    obtain ⟨o3, o2, o1, rfl, ho3, ho2, ho1⟩ := Y.three
    replace ho1 : o1.data = .cell (some (.ref sl)) := ho1
    replace ho2 : o2.data = .cell none := ho2
    replace ho3 : o3.data = .cell none := ho3
    clear Y
    have hL := S.low.1
    clear C S
    have F := S'.F
    have N := S'.N
    have X := C'.X
    obtain ⟨mean, mg, mb, T⟩ := C'.T
    have hz : vs.length ≤ 1000000 := by rw [hi.1]; omega
    have hk : ((vs.length : Nat) : Int) ≠ (n : Int) := by rw [hi.1]; omega
    iterate 24 (first | walk1 | (dsimp only; walk1))
    rename St _ _ _ _ _ => kS
    rename Cx _ _ _ _ _ => C'
    rename Rest _ _ => kR
    rename (Obj.data _ = Data.cell (some (Value.int _ _))) => hd2
    rename Obj => o2'
    replace kS := St.put_at (pre := [(_, _)]) kS
    have F := kS.F
    have N := kS.N
    refine forX (h₀ := g₀) (L := L') C'.hh ?_
    iterate 7 (first | walk1 | (dsimp only; walk1))
    rename St _ _ _ _ _ => kS
    rename Cx _ _ _ _ _ => C'
    rename Rest _ _ => kR
    refine iter_rng kS List.mem_cons_self (N := q) (by omega) (by omega) (by omega) (by omega) fun I o s₂ hr₂ S₂ hP => ?_
    have kR₂ := Rest.comp kR hr₂
    clear kR kS
    have S₂ : St g₀ L' _ ((I, o) :: (c3, o3) :: (c2, o2') :: (c1, o1) :: news) s₂.heap := S₂.sub (.cons_cons _ (.cons _ (List.Sublist.refl _)))
    refine ⟨I, o, q, _, _, _, [], _, _, (c3, o3) :: (c2, o2') :: (c1, o1) :: news, fun j b nw g gq => ∃ tot t o3', tot = (((List.range q).take j).map fun one => if (shadeBs es cs one).all id = true then cols es q f (cs ++ [one]) else 0).sum ∧
      b (Str.ofString "found") = some (.int (tot : Nat) t) ∧ b (Str.ofString "n") = some (.int (n : Nat) tn) ∧ b (Str.ofString "edges") = some (.ref el) ∧ b (Str.ofString "q") = some (.int (q : Nat) tq) ∧
      nw = (c3, o3') :: (c2, o2') :: (c1, o1) :: news ∧ (∃ v₀, o3'.data = .cell v₀) ∧ g = s.gens ∧ gq = s.os, rfl, IterX.range I 0 q, S₂, fun _ _ => rfl, hP, ⟨0, _, o3, by simp, rfl, rfl, rfl, rfl, rfl, ⟨_, ho3⟩, kR₂.1, kR₂.2⟩, fun _ _ _ _ _ _ => trivial, ?_, ?_⟩
    · rintro j _ FF b _ o' s₃ hj ⟨tv, rfl⟩ ⟨tot, t, o3', htot, hb1, hb2, hb3, hb4, rfl, ⟨v₀, hd3⟩, hg, hq'⟩ hP' S₃
      rw [Int.zero_add]
      have hr₃ : Rest s s₃ := ⟨hg, hq'⟩
      replace S₃ : St g₀ L' b ((I, o') :: (c3, o3') :: (c2, o2') :: (c1, o1) :: news) s₃.heap := S₃
      clear hg hq' S₂
      refine wpAny_assign_Name (storeC S₃ (c := c3) rfl (.tail _ (.head _)) hd3 (fun s₄ o₄ hr₄ S₄ hd₄ _ => ?_) rfl rfl)
      replace S₄ := St.put_at (pre := [(_, _)]) S₄
      have hr₄' := hr₃.trans hr₄
      clear S₃ hr₃ hr₄ hd3
      have F := S₄.F
      have N := S₄.N
      iterate 7 (first | walk1 | (dsimp only; walk1))
      rename St _ _ _ _ _ => kS
      rename Cx _ _ _ _ _ => C'
      refine compS (cn := []) (clo := [(Str.ofString "shades", c1), (Str.ofString "one", c3), (Str.ofString "k", c2)]) C' kS rfl rfl (by decide) rfl (by decide) ?_
      iterate 1 (first | walk1 | (dsimp only; walk1))
      rename St _ _ _ _ _ => kS
      rename Cx _ _ _ _ _ => C'
      have hmn : ∀ p ∈ news, p ∈ [(I, o')] ++ (c3, o₄) :: (c2, o2') :: (c1, o1) :: news := fun p hp => .tail _ (.tail _ (.tail _ (.tail _ hp)))
      refine iter_listS kS (hmn _ he.1) fun I3 oI3 s₅ hr₅ S₅ hP3 => ?_
      have hr₅' := hr₄'.trans hr₅
      clear kS hr₄' hr₅
      refine ⟨I3, oI3, _, _, _, _, _, rfl, IterX.list I3 el (ets.map .ref) ec, S₅, hP3, fun g3 CL3 D3 cs3 own3 hcs3 Y3 C₃ hD3 hID3 hown3 => ?_⟩
      obtain rfl : cs3 = [] := List.map_eq_nil_iff.mp hcs3
      cases Y3
      clear hcs3 hown3
      refine ⟨fun k outs l => l = [(I, o')] ++ (c3, o₄) :: (c2, o2') :: (c1, o1) :: news ∧ outs = (shadeBs (es.take k) cs j).map .bool, ⟨rfl, by simp [shadeBs]⟩, ⟨?_, ?_, ?_⟩, ?_⟩
      · rintro k outs l x ⟨rfl, _⟩; exact .tail _ (hmn _ he.1)
      · rintro k outs l ⟨rfl, rfl⟩
        have h2 := List.length_filter_le (fun e => decide (e.2 = cs.length)) (es.take k)
        have h3 := List.length_take_le' k es
        rw [List.length_map, shadeBs, List.length_map]; omega
      · rintro i _ _ v o4 c4 mk4 s₆ hi4 hv4 ⟨rfl, rfl⟩ hP4 hr₆ S₆
        rw [List.getElem?_map] at hv4
        obtain ⟨et, het, rfl⟩ : ∃ et, ets[i]? = some et ∧ v = .ref et := by
          cases e : ets[i]? with
          | none => rw [e] at hv4; cases hv4
          | some t => rw [e] at hv4; exact ⟨t, rfl, by injection hv4 with hv4; exact hv4.symm⟩
        obtain ⟨a, bb, ta, tb, hee, hem⟩ := he.2.2 i et het
        have hem' : (et, tupO [.int (a : Nat) ta, .int (bb : Nat) tb]) ∈ (I3, o4) :: (D3, lst ((shadeBs (es.take i) cs j).map .bool) c4) :: ([(I, o')] ++ (c3, o₄) :: (c2, o2') :: (c1, o1) :: news) := .tail _ (.tail _ (hmn _ hem))
        have hr₇ := hr₆
        clear S₅ hr₅' hr₆
        have F := S₆.F
        have N := S₆.N
        iterate 8 (first | walk1 | (dsimp only; walk1))
        refine wpAny_tests_one ?_
        by_cases hbk : bb = cs.length
        · have heq : ((bb : Nat) : Int) = ((vs.length : Nat) : Int) := by rw [hi.1, hbk]
          by_cases hab2 : a < bb
          · have hlt : ((a : Nat) : Int) < ((bb : Nat) : Int) := by omega
            have hac : a < cs.length := by omega
            obtain ⟨ca, tca, hca, hva⟩ := hi.2 a (vs[a]'(by rw [hi.1]; exact hac)) (by simp)
            have hx : vs[((a : Nat) : Int).toNat]? = some (.int (ca : Nat) tca) := by
              rw [Int.toNat_natCast, List.getElem?_eq_getElem (by rw [hi.1]; exact hac), hva]
            by_cases hcj : ca = j
            · have hne : ((ca : Nat) : Int) = ((j : Nat) : Int) := by rw [hcj]
              iterate 21 (first | walk1 | (dsimp only; walk1))
              rename St _ _ _ _ _ => kS
              exact ⟨_, _, (by assumption), kS, rfl, by rw [shadeBs_hit hee hbk, List.map_append, hca, hcj]; simp⟩
            · have hne : ((ca : Nat) : Int) ≠ ((j : Nat) : Int) := by omega
              iterate 21 (first | walk1 | (dsimp only; walk1))
              rename St _ _ _ _ _ => kS
              exact ⟨_, _, (by assumption), kS, rfl, by rw [shadeBs_hit hee hbk, List.map_append, hca]; simp [hab2, hcj]⟩
          · have hlt : ¬ ((a : Nat) : Int) < ((bb : Nat) : Int) := by omega
            iterate 13 (first | walk1 | (dsimp only; walk1))
            rename St _ _ _ _ _ => kS
            exact ⟨_, _, (by assumption), kS, rfl, by rw [shadeBs_hit hee hbk, List.map_append]; simp [hab2]⟩
        · have heq : ((bb : Nat) : Int) ≠ ((vs.length : Nat) : Int) := by rw [hi.1]; omega
          iterate 6 (first | walk1 | (dsimp only; walk1))
          rename St _ _ _ _ _ => kS
          exact ⟨_, _, (by assumption), kS, rfl, by rw [shadeBs_miss hee hbk]⟩
      · rintro _ _ c4 s₆ ⟨rfl, rfl⟩ hr₆ S₆
        have hr := hr₅'.trans hr₆
        clear hr₅' hr₆ S₅ C₃
        rw [List.length_map, he.2.1, List.take_length] at S₆
        have F := S₆.F
        have N := S₆.N
        have hbm : (D3, lst ((shadeBs es cs j).map .bool) c4) ∈ (D3, lst ((shadeBs es cs j).map .bool) c4) :: ([(I, o')] ++ (c3, o₄) :: (c2, o2') :: (c1, o1) :: news) := .head _
        by_cases hsh : (shadeBs es cs j).all id = true
        · have hsl' : (sl, lst vs c) ∈ (D3, lst ((shadeBs es cs j).map .bool) c4) :: ([(I, o')] ++ (c3, o₄) :: (c2, o2') :: (c1, o1) :: news) := .tail _ (hmn _ hsl)
          have hz1 : vs.length + [Value.int (j : Nat) tv].length ≤ 1000000 := by rw [hi.1, List.length_cons, List.length_nil]; omega
          iterate 26 (first | walk1 | (dsimp only; walk1))
          rename St _ _ _ _ _ => kS
          rename Rest _ _ => kR
          rename Cx _ _ _ _ _ => C'
          refine ⟨C'.X.keeps kS.F.keep, ?_⟩
          refine wpAny_call (ih C' kS (he.mono fun p hp => .tail _ (.tail _ (.tail _ (hmn _ hp)))) List.mem_cons_self (hi.push j tv) (by rw [List.length_append, List.length_singleton]; omega) hn hes (by show A.depth + 1 + f < recursionLimit; omega) fun s₇ t₇ hr₇ S₇ => ?_)
          have hr := Rest.comp kR hr₇
          clear kS kR
          have F := S₇.F
          have N := S₇.N
          iterate 4 (first | walk1 | (dsimp only; walk1))
          rename St _ _ _ _ _ => kS
          rename Rest _ _ => kR
          refine ⟨_, _, _, kS.tl.tl.tl, fun _ _ => rfl, tot + cols es q f (cs ++ [j]), s₇.toks, o₄, ?_, ?_, ?_, ?_, ?_, rfl, ⟨_, hd₄⟩, kR.1, kR.2⟩
          · rw [sum_take hj, if_pos hsh, htot]
          · show some (Value.int ((tot : Int) + (cols es q f (cs ++ [j]) : Int)) s₇.toks) = _; rw [Int.natCast_add]
          · show (if Str.ofString "n" = Str.ofString "found" then _ else b _) = _; rw [if_neg (by decide)]; exact hb2
          · show (if Str.ofString "edges" = Str.ofString "found" then _ else b _) = _; rw [if_neg (by decide)]; exact hb3
          · show (if Str.ofString "q" = Str.ofString "found" then _ else b _) = _; rw [if_neg (by decide)]; exact hb4
        · iterate 6 (first | walk1 | (dsimp only; walk1))
          rename St _ _ _ _ _ => kS
          rename Rest _ _ => kR
          refine ⟨_, _, _, kS.tl, fun _ _ => rfl, tot, t, o₄, ?_, hb1, hb2, hb3, hb4, rfl, ⟨_, hd₄⟩, kR.1, kR.2⟩
          rw [sum_take hj, if_neg hsh, Nat.add_zero, htot]
    · rintro FF b _ s₃ ⟨tot, t, o3', htot, hb1, hb2, hb3, hb4, rfl, ⟨v₀, hd3⟩, hg, hq'⟩ S₃
      have hr : Rest s s₃ := ⟨hg, hq'⟩
      replace S₃ : St g₀ L' b ((c3, o3') :: (c2, o2') :: (c1, o1) :: news) s₃.heap := S₃
      clear hg hq' S₂
      have F := S₃.F
      have N := S₃.N
      iterate 4 (first | walk1 | (dsimp only; walk1))
      rename St _ _ _ _ _ => kS
      have e : cols es q (f + 1) cs = tot := by rw [htot, cols, List.take_of_length_le (by simp)]
      rw [← e]
      exact h _ _ hr kS.tl.tl.tl

end Mine
end
section
open PySem PySem.W PySem.Calls PyProof.Rows
set_option maxRecDepth 100000
namespace Mine

local macro_rules | `(tactic| tb_start) => `(tactic| first | with_reducible assumption | with_reducible exact Ne.symm (by assumption) | (refine' fresh_ne ?l ?h0 ?h; (case l => with_reducible assumption); (case h0 => with_reducible assumption); (case h => tb_rel)) | (refine' Ne.symm (fresh_ne ?l ?h0 ?h); (case l => with_reducible assumption); (case h0 => with_reducible assumption); (case h => tb_rel)))
local macro_rules | `(tactic| tb_rel) => `(tactic| first | with_reducible assumption | with_reducible exact List.mem_cons_self | (with_reducible refine List.mem_cons_of_mem _ ?_; tb_rel) | (with_reducible refine mem_put_self (o := ?oo) ?hh; case hh => tb_rel) | (with_reducible refine mem_put_ne ?h1 ?h2; (case h1 => tb_rel); (case h2 => tb_start)) | (with_reducible refine List.mem_append_left _ ?_; tb_rel) | (with_reducible refine List.mem_append_right _ ?_; tb_rel))
local macro_rules | `(tactic| k_mem) => `(tactic| tb_rel)
local macro_rules | `(tactic| walk_at "compareOp In int ref") => `(tactic| (k_here; (with_reducible rename St _ _ _ _ _ => kS); (with_reducible rename Rest _ _ => kR); k_dflt (refine' in_D (knd := intKind PP _) ?h0 kS ?hm ?hd ?hk ?hv ?_; (case h0 => with_reducible assumption); (case hm => tb_rel); (case hd => first | with_reducible assumption | with_reducible exact isDict_nil _); (case hk => exact intKind_is _ _ _ _); (case hv => first | with_reducible assumption | with_reducible exact isSome_node _ (by assumption) | with_reducible exact isSome_node_none _ (by assumption) | with_reducible exact valueAt_adjS _ _)); (intro s' hr' kS'); (have kR' := Rest.comp kR hr'); clear kS kR hr'; (have kF := kS'.F); (have kN := kS'.N); (try k_sweep)))
local macro_rules | `(tactic| walk_at "compareOp NotIn int ref") => `(tactic| (k_here; (with_reducible rename St _ _ _ _ _ => kS); (with_reducible rename Rest _ _ => kR); k_dflt (refine' notin_D (knd := intKind PP _) ?h0 kS ?hm ?hd ?hk ?hv ?_; (case h0 => with_reducible assumption); (case hm => tb_rel); (case hd => first | with_reducible assumption | with_reducible exact isDict_nil _); (case hk => exact intKind_is _ _ _ _); (case hv => first | with_reducible assumption | with_reducible exact isSome_node _ (by assumption) | with_reducible exact isSome_node_none _ (by assumption) | with_reducible exact valueAt_adjS _ _)); (intro s' hr' kS'); (have kR' := Rest.comp kR hr'); clear kS kR hr'; (have kF := kS'.F); (have kN := kS'.N); (try k_sweep)))
local macro_rules | `(tactic| walk_at "subscriptTail Name Name ref int") => `(tactic| (k_here; (with_reducible show wpAny _ _ (subscriptTail _ _ (Value.ref _) (Value.int _ _)) _ _ _); (with_reducible rename St _ _ _ _ _ => kS); (with_reducible rename Rest _ _ => kR); k_dflt (refine' sub_D (knd := intKind PP _) ?h0 kS ?hm ?hd ?hk ?hv ?_; (case h0 => with_reducible assumption); (case hm => tb_rel); (case hd => first | with_reducible assumption | with_reducible exact isDict_nil _); (case hk => exact intKind_is _ _ _ _); (case hv => first | with_reducible assumption | with_reducible exact valueAt_node _ (by assumption) | with_reducible exact valueAt_stored _ _ _)); (intro s' hr' kS'); (have kR' := Rest.comp kR hr'); clear kS kR hr'; (have kF := kS'.F); (have kN := kS'.N); (try k_sweep)))
local macro_rules | `(tactic| walk_at "subscriptTail Attribute Name Name ref int") => `(tactic| (k_here; (with_reducible show wpAny _ _ (subscriptTail _ _ (Value.ref _) (Value.int _ _)) _ _ _); (with_reducible rename St _ _ _ _ _ => kS); (with_reducible rename Rest _ _ => kR); k_dflt (refine' sub_D (knd := intKind PP _) ?h0 kS ?hm ?hd ?hk ?hv ?_; (case h0 => with_reducible assumption); (case hm => tb_rel); (case hd => first | with_reducible assumption | with_reducible exact isDict_nil _); (case hk => exact intKind_is _ _ _ _); (case hv => first | with_reducible assumption | with_reducible exact valueAt_node _ (by assumption) | with_reducible exact valueAt_stored _ _ _)); (intro s' hr' kS'); (have kR' := Rest.comp kR hr'); clear kS kR hr'; (have kF := kS'.F); (have kN := kS'.N); (try k_sweep)))
local macro_rules | `(tactic| walk_at "subscriptTail Subscript Attribute Name Name ref int") => `(tactic| (k_here; (with_reducible show wpAny _ _ (subscriptTail _ _ (Value.ref _) (Value.int _ _)) _ _ _); (with_reducible rename St _ _ _ _ _ => kS); (with_reducible rename Rest _ _ => kR); k_dflt (refine' sub_D (knd := intKind PP _) ?h0 kS ?hm ?hd ?hk ?hv ?_; (case h0 => with_reducible assumption); (case hm => tb_rel); (case hd => first | with_reducible assumption | with_reducible exact isDict_nil _); (case hk => exact intKind_is _ _ _ _); (case hv => first | with_reducible assumption | with_reducible exact valueAt_node _ (by assumption) | with_reducible exact valueAt_stored _ _ _)); (intro s' hr' kS'); (have kR' := Rest.comp kR hr'); clear kS kR hr'; (have kF := kS'.F); (have kN := kS'.N); (try k_sweep)))
local macro_rules | `(tactic| walk_at "subscriptTail Subscript Name ref int") => `(tactic| (k_here; (with_reducible show wpAny _ _ (subscriptTail _ _ (Value.ref _) (Value.int _ _)) _ _ _); (with_reducible rename St _ _ _ _ _ => kS); (with_reducible rename Rest _ _ => kR); k_dflt (refine' sub_D (knd := intKind PP _) ?h0 kS ?hm ?hd ?hk ?hv ?_; (case h0 => with_reducible assumption); (case hm => tb_rel); (case hd => first | with_reducible assumption | with_reducible exact isDict_nil _); (case hk => exact intKind_is _ _ _ _); (case hv => first | with_reducible assumption | with_reducible exact valueAt_node _ (by assumption) | with_reducible exact valueAt_stored _ _ _)); (intro s' hr' kS'); (have kR' := Rest.comp kR hr'); clear kS kR hr'; (have kF := kS'.F); (have kN := kS'.N); (try k_sweep)))
local macro_rules | `(tactic| walk_at "storeName") => `(tactic| (k_here; (with_reducible rename St _ _ _ _ _ => kS); (with_reducible rename Rest _ _ => kR); k_dflt (refine' storeS kS ?_ ?h1 ?h2 ?h3; (case h1 => exact rfl); (case h2 => exact rfl); (case h3 => exact rfl)); (intro s' hr' kS'); (have kR' := Rest.comp kR hr'); clear kS kR hr'; (have kF := kS'.F); (have kN := kS'.N); (try k_sweep)))
local macro_rules | `(tactic| walk_at "eval Dict nil nil") => `(tactic| (k_here; (with_reducible rename St _ _ _ _ _ => kS); (with_reducible rename Rest _ _ => kR); k_dflt (refine' dictS kS ?_); (intro d' s' hr' kS' l1); (have hm' := cons_mem kS'); (have kR' := Rest.comp kR hr'); clear kS kR hr'; (have kF := kS'.F); (have kN := kS'.N); (try k_sweep)))
local macro_rules | `(tactic| walk_at "setItem ref int ref") => `(tactic| (k_here; (with_reducible rename St _ _ _ _ _ => kS); (with_reducible rename Rest _ _ => kR); k_dflt (refine' set_D (knd := intKind PP _) ?h0 kS ?hm ?hd ?hk ?hz ?_; (case h0 => with_reducible assumption); (case hm => tb_rel); (case hd => first | with_reducible assumption | with_reducible exact isDict_nil _); (case hk => exact intKind_is _ _ _ _); (case hz => first | with_reducible assumption | exact Nat.le_of_ble_eq_true rfl)); (intro s' o' hr' kS' hd' hm'); (have kR' := Rest.comp kR hr'); clear kS kR hr'; (have kF := kS'.F); (have kN := kS'.N); (try k_sweep)))
local macro_rules | `(tactic| walk_at "delItem ref") => `(tactic| (k_here; (with_reducible rename St _ _ _ _ _ => kS); (with_reducible rename Rest _ _ => kR); k_dflt (refine' del_D (knd := intKind PP _) ?h0 kS ?hm ?hd ?hk ?hz ?hl ?_; (case h0 => with_reducible assumption); (case hm => tb_rel); (case hd => first | with_reducible assumption | with_reducible exact isDict_nil _); (case hk => exact intKind_is _ _ _ _); (case hz => with_reducible assumption); (case hl => with_reducible assumption)); (intro s' o' hr' kS' hd' hm'); (have kR' := Rest.comp kR hr'); clear kS kR hr'; (have kF := kS'.F); (have kN := kS'.N); (try k_sweep)))
local macro_rules | `(tactic| walk_at "call builtin:dict.update") => `(tactic| (k_here; (with_reducible rename St _ _ _ _ _ => kS); (with_reducible rename Rest _ _ => kR); k_dflt (refine' update_nil (knd := strKind PP _) (knd' := strKind PP _) ?h0 ?h1 kS ?hm ?hd ?hme ?he ?hde ?_; (case h0 => with_reducible assumption); (case h1 => with_reducible assumption); (case hm => tb_rel); (case hd => first | with_reducible assumption | with_reducible exact isDict_nil _); (case hme => tb_rel); (case he => first | with_reducible assumption | with_reducible exact isDict_nil _); (case hde => tb_start)); (intro s' hr' kS'); (have kR' := Rest.comp kR hr'); clear kS kR hr'; (have kF := kS'.F); (have kN := kS'.N); (try k_sweep)))
local macro_rules | `(tactic| walk_at "call builtin:dict.get") => `(tactic| (k_here; (with_reducible show wpAny _ _ (call _ [_, _, _]) _ _ _); (with_reducible rename St _ _ _ _ _ => kS); (with_reducible rename Rest _ _ => kR); k_dflt (refine' get2_D (knd := intKind PP _) ?h0 kS ?hm ?hd ?hk ?hv ?_; (case h0 => with_reducible assumption); (case hm => tb_rel); (case hd => first | with_reducible assumption | with_reducible exact isDict_nil _); (case hk => exact intKind_is _ _ _ _); (case hv => first | exact getD_of_none (by assumption) | exact getD_of_some (by assumption))); (intro s' hr' kS'); (have kR' := Rest.comp kR hr'); clear kS kR hr'; (have kF := kS'.F); (have kN := kS'.N); (try k_sweep)))
local macro_rules | `(tactic| walk_at "getMethod ref") => `(tactic| (k_here; k_dflt (first
  | ((with_reducible show wpAny _ _ (getMethod (Value.ref _) (Str.ofString "update") _) _ _ _); refine' getM_DU (knd := strKind PP _) ?h0 ?S ?hm ?hd ?_; (case h0 => with_reducible assumption); (case S => assumption); (case hm => tb_rel); (case hd => first | with_reducible assumption | with_reducible exact isDict_nil _))
  | ((with_reducible show wpAny _ _ (getMethod (Value.ref _) (Str.ofString "get") _) _ _ _); refine' getM_DG (knd := intKind PP _) ?h0 ?S ?hm ?hd ?_; (case h0 => with_reducible assumption); (case S => assumption); (case hm => tb_rel); (case hd => first | with_reducible assumption | with_reducible exact isDict_nil _)))))
local macro_rules | `(tactic| walk_at "LeaveK") => `(tactic| ((with_reducible rename St _ _ _ _ _ => kS); (refine leaveS (by assumption) kS ?_); (intro kS'); clear kS; (try dsimp only)))
local macro_rules | `(tactic| walk_at "newTuple") => `(tactic| (k_here; (with_reducible rename St _ _ _ _ _ => kS); (with_reducible rename Rest _ _ => kR); k_dflt (refine' tupS kS ?_ ?hz; (case hz => size_fits)); (intro t' s' hr' kS' l1); (have hm' := cons_mem kS'); (have kR' := Rest.comp kR hr'); clear kS kR hr'; (have kF := kS'.F); (have kN := kS'.N); (try k_sweep)))
local macro_rules | `(tactic| walk_at "newList") => `(tactic| (k_here; (with_reducible rename St _ _ _ _ _ => kS); (with_reducible rename Rest _ _ => kR); k_dflt (refine' listS kS ?_ ?hz; (case hz => size_fits)); (intro t' s' hr' kS' l1); (have hm' := cons_mem kS'); (have kR' := Rest.comp kR hr'); clear kS kR hr'; (have kF := kS'.F); (have kN := kS'.N); (try k_sweep)))
local macro_rules | `(tactic| walk_at "unpackItems ref") => `(tactic| (k_here; (with_reducible rename Cx _ _ _ _ _ => kC); (with_reducible rename St _ _ _ _ _ => kS); (with_reducible rename Rest _ _ => kR); k_dflt (refine' unpackS ?h0 kS ?hm (Cx.hh kC) ?hn ?_; (case h0 => with_reducible assumption); (case hm => tb_rel); (case hn => exact rfl)); (intro s' hr' kS'); (have kR' := Rest.comp kR hr'); clear kS kR hr'; (have kF := kS'.F); (have kN := kS'.N); (try k_sweep)))
local macro_rules | `(tactic| walk_at "compareOp NotEq int int") => `(tactic| first | with_reducible refine ne_int_t (by with_reducible assumption) ?_ | with_reducible refine ne_int_f (by with_reducible assumption) ?_)
local macro_rules | `(tactic| walk_at "compareOp Eq int int") => `(tactic| first | with_reducible refine eq_int_t (by with_reducible assumption) ?_ | with_reducible refine eq_int_f (by with_reducible assumption) ?_)
local macro_rules | `(tactic| walk_at "setAttr ref") => `(tactic| (k_here; (with_reducible rename Cx _ _ _ _ _ => kC); (with_reducible rename St _ _ _ _ _ => kS); (with_reducible rename Rest _ _ => kR); k_dflt (refine' setAttrS kC kS ?h1 ?h2 ?k6 ?k7 ?k8 ?k9 ?k10 ?k11 ?k13 ?_; (case h1 => tb_rel); (case h2 => tb_rel); (case k6 => k_is); (case k7 => k_is); (case k8 => k_is); (case k9 => k_is); (case k10 => k_get); (case k11 => k_put); (case k13 => exact Nat.le_of_ble_eq_true rfl)); (intro s' hr' kS' hm'); (have kR' := Rest.comp kR hr'); clear kS kR hr'; (have kF := kS'.F); (have kN := kS'.N); (try k_sweep)))

local macro_rules | `(tactic| walk_at "subscriptTail Name BinOp ref int") => `(tactic| (k_here; (with_reducible rename St _ _ _ _ _ => kS); k_dflt (refine' subL ?h0 kS ?hm ?hx ?hn ?hh ?_; (case h0 => with_reducible assumption); (case hm => tb_rel); (case hx => first | with_reducible assumption | exact rfl); (case hn => first | decide | omega); (case hh => first | decide | omega))))
local macro_rules | `(tactic| walk_at "subscriptTail Name Constant ref int") => `(tactic| (k_here; (with_reducible rename St _ _ _ _ _ => kS); k_dflt (refine' subL ?h0 kS ?hm ?hx ?hn ?hh ?_; (case h0 => with_reducible assumption); (case hm => tb_rel); (case hx => first | with_reducible assumption | exact rfl); (case hn => first | decide | omega); (case hh => first | decide | omega))))
local macro_rules | `(tactic| walk_at "subscriptTail Name Name ref int") => `(tactic| (k_here; (with_reducible rename St _ _ _ _ _ => kS); k_dflt (refine' subL ?h0 kS ?hm ?hx ?hn ?hh ?_; (case h0 => with_reducible assumption); (case hm => tb_rel); (case hx => first | with_reducible assumption | exact rfl); (case hn => first | decide | omega); (case hh => first | decide | omega))))
local macro_rules | `(tactic| walk_at "subscriptTail Subscript Name Constant ref int") => `(tactic| (k_here; (with_reducible rename St _ _ _ _ _ => kS); k_dflt (refine' subL ?h0 kS ?hm ?hx ?hn ?hh ?_; (case h0 => with_reducible assumption); (case hm => tb_rel); (case hx => first | with_reducible assumption | exact rfl); (case hn => first | decide | omega); (case hh => first | decide | omega))))
local macro_rules | `(tactic| walk_at "subscriptTail Subscript Name Constant BinOp ref int") => `(tactic| (k_here; (with_reducible rename St _ _ _ _ _ => kS); k_dflt (refine' subL ?h0 kS ?hm ?hx ?hn ?hh ?_; (case h0 => with_reducible assumption); (case hm => tb_rel); (case hx => first | with_reducible assumption | exact rfl); (case hn => first | decide | omega); (case hh => first | decide | omega))))
local macro_rules | `(tactic| walk_at "subscriptTail Subscript Name Name ref int") => `(tactic| (k_here; (with_reducible rename St _ _ _ _ _ => kS); k_dflt (refine' subL ?h0 kS ?hm ?hx ?hn ?hh ?_; (case h0 => with_reducible assumption); (case hm => tb_rel); (case hx => first | with_reducible assumption | exact rfl); (case hn => first | decide | omega); (case hh => first | decide | omega))))
local macro_rules | `(tactic| walk_at "subscriptTail List Name ref int") => `(tactic| (k_here; (with_reducible rename St _ _ _ _ _ => kS); k_dflt (refine' subL ?h0 kS ?hm ?hx ?hn ?hh ?_; (case h0 => with_reducible assumption); (case hm => tb_rel); (case hx => first | with_reducible assumption | exact rfl); (case hn => first | decide | omega); (case hh => first | decide | omega))))
local macro_rules | `(tactic| walk_at "subscriptTail List cons Name ref int") => `(tactic| (k_here; (with_reducible rename St _ _ _ _ _ => kS); k_dflt (refine' subL ?h0 kS ?hm ?hx ?hn ?hh ?_; (case h0 => with_reducible assumption); (case hm => tb_rel); (case hx => first | with_reducible assumption | exact rfl); (case hn => first | decide | omega); (case hh => first | decide | omega))))
local macro_rules | `(tactic| walk_at "subscriptTail Subscript Name BinOp ref int") => `(tactic| (k_here; (with_reducible rename St _ _ _ _ _ => kS); k_dflt (refine' subL ?h0 kS ?hm ?hx ?hn ?hh ?_; (case h0 => with_reducible assumption); (case hm => tb_rel); (case hx => first | with_reducible assumption | exact rfl); (case hn => first | decide | omega); (case hh => first | decide | omega))))
local macro_rules | `(tactic| walk_at "getItem ref int") => `(tactic| (k_here; (with_reducible rename St _ _ _ _ _ => kS); k_dflt (refine' getL ?h0 kS ?hm ?hx ?hn ?hh ?_; (case h0 => with_reducible assumption); (case hm => tb_rel); (case hx => first | with_reducible assumption | exact rfl); (case hn => first | decide | omega); (case hh => first | decide | omega))))
local macro_rules | `(tactic| walk_at "setItem ref int int") => `(tactic| (k_here; (with_reducible rename St _ _ _ _ _ => kS); (with_reducible rename Rest _ _ => kR); k_dflt (refine' setL ?h0 kS ?hm ?hn ?hh ?hk ?hv ?_; (case h0 => with_reducible assumption); (case hm => tb_rel); (case hn => first | decide | omega); (case hh => first | decide | omega); (case hk => first | decide | (simp; done) | (simp; omega)); (case hv => first | (simp only [Int.toNat_one, Int.toNat_zero, Int.toNat_natCast, List.set_cons_succ, List.set_cons_zero]; exact rfl) | exact rfl)); (intro s' hr' kS' hm'); (have kR' := Rest.comp kR hr'); clear kS kR hr'; (have kF := kS'.F); (have kN := kS'.N); (try k_sweep)))
local macro_rules | `(tactic| walk_at "call builtin:len") => `(tactic| (k_here; (with_reducible rename St _ _ _ _ _ => kS); (with_reducible rename Rest _ _ => kR); k_dflt (refine' lenListS ?h0 kS ?hm ?hz ?_; (case h0 => with_reducible assumption); (case hm => tb_rel); (case hz => first | with_reducible assumption | omega)); (intro s' t' hr' kS'); (have kR' := Rest.comp kR hr'); clear kS kR hr'; (have kF := kS'.F); (have kN := kS'.N); (try k_sweep)))

local macro_rules | `(tactic| walk_at "eval Name") => `(tactic| (k_here; (with_reducible rename Cx _ _ _ _ _ => kC); (with_reducible rename St _ _ _ _ _ => kS); k_dflt (first
  | (refine' nmL kS ?hv ?_ ?hk ?hx ?hL ?hd; (case hx => exact rfl); (case hk => exact rfl); (case hL => exact rfl); (case hd => decide); (case hv => first | with_reducible assumption | exact rfl))
  | (refine' nmC kS ?hc ?hm ?hd ?_ ?hk ?hx ?hb; (case hx => exact rfl); (case hk => exact rfl); (case hb => decide); (case hc => exact rfl); (case hm => tb_rel); (case hd => with_reducible assumption))
  | (refine' nmF kS ?hc ?hm ?hd ?_ ?hk ?hx ?hb ?hn; (case hx => exact rfl); (case hk => exact rfl); (case hb => decide); (case hn => decide); (case hc => exact rfl); (case hm => tb_rel); (case hd => with_reducible assumption))
  | (refine' nmB kC kS ?he ?hv ?hn ?_ ?hg ?hbb ?hx ?hd; (case hx => exact rfl); (case he => exact rfl); (case hg => exact rfl); (case hbb => exact rfl); (case hd => decide); (case hv => first | boot_fast | exact rfl); (case hn => decide))
  | (refine' nmG kC kS ?he ?_ ?hg ?hx ?hd; (case hx => exact rfl); (case he => exact rfl); (case hg => exact rfl); (case hd => decide)))))
local macro_rules | `(tactic| walk_at "binaryOp Add ref ref") => `(tactic| (k_here; (with_reducible rename St _ _ _ _ _ => kS); (with_reducible rename Rest _ _ => kR); k_dflt (refine' addLS ?h0 ?h1 kS ?hm ?hn ?hz ?_; (case h0 => with_reducible assumption); (case h1 => with_reducible assumption); (case hm => tb_rel); (case hn => tb_rel); (case hz => first | with_reducible assumption | (simp only [List.length_cons, List.length_nil]; omega))); (intro t' s' hr' kS' l1); (have hm' := cons_mem kS'); (have kR' := Rest.comp kR hr'); clear kS kR hr'; (have kF := kS'.F); (have kN := kS'.N); (try k_sweep)))
local macro_rules | `(tactic| walk_at "storeName") => `(tactic| (k_here; (with_reducible rename St _ _ _ _ _ => kS); (with_reducible rename Rest _ _ => kR); k_dflt (refine' storeC kS ?hc ?hm ?hd ?_ ?hk ?hx; (case hx => exact rfl); (case hk => exact rfl); (case hc => exact rfl); (case hm => tb_rel); (case hd => with_reducible assumption)); (intro s' o' hr' kS' hd' hm'); (have kR' := Rest.comp kR hr'); clear kS kR hr'; (have kF := kS'.F); (have kN := kS'.N); (try k_sweep)))
local macro_rules | `(tactic| walk_at "call builtin:all") => `(tactic| (k_here; (with_reducible rename Cx _ _ _ _ _ => kC); (with_reducible rename St _ _ _ _ _ => kS); (with_reducible rename Rest _ _ => kR); k_dflt (refine' allBools (Cx.hh kC) ?h0 kS ?hm ?_; (case h0 => with_reducible assumption); (case hm => tb_rel)); (intro s' hr' kS'); (have kR' := Rest.comp kR hr'); clear kS kR hr'; (have kF := kS'.F); (have kN := kS'.N); (try k_sweep)))
local macro_rules | `(tactic| walk_at "call builtin:any") => `(tactic| (k_here; (with_reducible rename Cx _ _ _ _ _ => kC); (with_reducible rename St _ _ _ _ _ => kS); (with_reducible rename Rest _ _ => kR); k_dflt (refine' anyBools (Cx.hh kC) ?h0 kS ?hm ?_; (case h0 => with_reducible assumption); (case hm => tb_rel)); (intro s' hr' kS'); (have kR' := Rest.comp kR hr'); clear kS kR hr'; (have kF := kS'.F); (have kN := kS'.N); (try k_sweep)))
local macro_rules | `(tactic| walk_at "call type:range") => `(tactic| (k_here; (with_reducible rename St _ _ _ _ _ => kS); (with_reducible rename Rest _ _ => kR); k_dflt (first | refine' rangeS1 kS ?_ | refine' rangeS2 kS ?_); (intro r' t1' t2' t3' s' hr' kS' l1); (have hm' := cons_mem kS'); (have kR' := Rest.comp kR hr'); clear kS kR hr'; (have kF := kS'.F); (have kN := kS'.N); (try k_sweep)))
local macro_rules | `(tactic| walk_at "loadName") => `(tactic| (k_here; (with_reducible rename St _ _ _ _ _ => kS); k_dflt (refine' ldL kS ?hv ?_ ?hk ?hx ?hL; (case hx => exact rfl); (case hk => exact rfl); (case hL => exact rfl); (case hv => first | with_reducible assumption | exact rfl))))

local macro_rules | `(tactic| walk_at "assign Tuple cons ref") => `(tactic| (k_here; (with_reducible rename Cx _ _ _ _ _ => kC); (with_reducible rename St _ _ _ _ _ => kS); (with_reducible rename Rest _ _ => kR); k_dflt (refine' assignTupS ?h0 kS ?hm (Cx.hh kC) ?hn ?hs ?_; (case h0 => with_reducible assumption); (case hm => tb_rel); (case hn => exact rfl); (case hs => exact rfl)); (intro s' hr' kS'); (have kR' := Rest.comp kR hr'); clear kS kR hr'; (have kF := kS'.F); (have kN := kS'.N); (try k_sweep)))

local macro_rules | `(tactic| walk_at "call builtin:list.index") => `(tactic| (k_here; (with_reducible rename St _ _ _ _ _ => kS); (with_reducible rename Rest _ _ => kR); k_dflt (refine' indexS ?h0 kS ?hm ?hi ?hk ?hl ?_; (case h0 => with_reducible assumption); (case hm => tb_rel); (case hi => with_reducible assumption); (case hk => with_reducible assumption); (case hl => with_reducible assumption)); (intro s' t' hr' kS'); (have kR' := Rest.comp kR hr'); clear kS kR hr'; (have kF := kS'.F); (have kN := kS'.N); (try k_sweep)))
local macro_rules | `(tactic| walk_at "getMethod ref") => `(tactic| (k_here; (with_reducible show wpAny _ _ (getMethod (Value.ref _) (Str.ofString "index") _) _ _ _); (with_reducible rename St _ _ _ _ _ => kS); k_dflt (refine' getIndexS ?h0 kS ?hm ?_; (case h0 => with_reducible assumption); (case hm => tb_rel))))
local macro_rules | `(tactic| walk_at "call type:tuple") => `(tactic| (k_here; (with_reducible rename St _ _ _ _ _ => kS); (with_reducible rename Rest _ _ => kR); k_dflt (refine' tupleS ?h0 kS ?hm ?hz ?_; (case h0 => with_reducible assumption); (case hm => tb_rel); (case hz => with_reducible assumption)); (intro t' s' hr' kS' l1); (have hm' := cons_mem kS'); (have kR' := Rest.comp kR hr'); clear kS kR hr'; (have kF := kS'.F); (have kN := kS'.N); (try k_sweep)))

theorem TupsIn.mono {tl tl' : List (Addr × Obj)} {ts : List Addr} {σs : List (List Bool)} (h : TupsIn tl ts σs) (hs : ∀ p ∈ tl, p ∈ tl') : TupsIn tl' ts σs :=
  ⟨h.1, fun k t ht => let ⟨σ, a, b⟩ := h.2 k t ht; ⟨σ, a, hs _ b⟩⟩
theorem TupsIn.push {tl : List (Addr × Obj)} {ts : List Addr} {σs : List (List Bool)} {t : Addr} {σ : List Bool} (h : TupsIn tl ts σs) (hm : (t, btup σ) ∈ tl) : TupsIn tl (ts ++ [t]) (σs ++ [σ]) := by
  refine ⟨by simp [h.1], fun k u hk => ?_⟩
  rw [getElem?_snoc] at hk ⊢
  rw [← h.1]
  by_cases e : k = ts.length
  · rw [if_pos e] at hk ⊢
    obtain rfl := Option.some.inj hk
    exact ⟨σ, rfl, hm⟩
  · rw [if_neg e] at hk ⊢
    exact h.2 k u hk
theorem perm5' {α : Type} (x y a b : α) (l t : List α) (c : α) : List.Perm (x :: y :: a :: b :: (l ++ c :: t)) (a :: b :: ((x :: y :: l) ++ c :: t)) := by
  classical exact List.perm_iff_count.mpr fun q => by simp only [List.count_append, List.count_cons]; omega
set_option maxHeartbeats 8000000 in
theorem dirs_c {w : World} {A : Around} {s : Shared} {h₀ : Heap} {env : Env} {L : Addr} {m : Str → Option Value} {news : List (Addr × Obj)} {R : Result → Shared → Prop} {el : Addr} {ec n : Nat} {ets : List Addr} {es : List (Nat × Nat)} {tn : Tok}
  (C : Cx w A env L h₀) (S : St h₀ L m news s.heap) (he : EdgesIn news el ec ets es) (hn : n ≤ 5) (hes : es.length ≤ 6) (hE : InR n es) (hroom : A.depth + 10 < recursionLimit) (hu : A.units + 100 < cLine)
  (h : ∀ s' t, Rest s s' → St h₀ L m news s'.heap → R (.ok (.ret (.int (dirs n es : Nat) t))) s') :
  codeAny (model PP w) A (.call (.ref 336) ⟨[.int (n : Nat) tn, .ref el], []⟩) R s := by
  refine enterC (binds := [(Str.ofString "n", .int (n : Nat) tn), (Str.ofString "edges", .ref el)]) (cn := [Str.ofString "edges"]) C S (by k_is) (by k_is) (BindsTo.of_eq rfl) (fun _ => kinds_of (by kinds_ok)) rfl (by decide) (fun g₀ L' s₁ cs cells hr C' hcs Y S' hab hlo => ?_) (by omega)
  obtain ⟨c1, rfl⟩ : ∃ c1, cs = [(Str.ofString "edges", c1)] := by
    match cs, hcs with
    | [(x, c1)], h => simp at h; exact ⟨c1, by rw [h]⟩
  obtain ⟨oc, rfl, hoc⟩ := Y.one
  replace hoc : oc.data = .cell (some (.ref el)) := hoc
  clear Y
  have hL := S.low.1
  clear C S
  have F := S'.F
  have N := S'.N
  have X := C'.X
  obtain ⟨mean, mg, mb, T⟩ := C'.T
  iterate 7 (first | walk1 | (dsimp only; walk1))
  rename St _ _ _ _ _ => kS
  rename Cx _ _ _ _ _ => C'
  rename Rest _ _ => kR
  refine compS (cn := []) (clo := []) C' kS rfl rfl (by decide) rfl (by decide) ?_
  iterate 1 (first | walk1 | (dsimp only; walk1))
  rename St _ _ _ _ _ => kS
  rename Cx _ _ _ _ _ => C'
  rename Rest _ _ => kR
  have hmn : ∀ p ∈ news, p ∈ (c1, oc) :: news := fun p hp => .tail _ hp
  refine iter_listS kS (hmn _ he.1) fun I3 oI3 s₂ hr₂ S₂ hP3 => ?_
  have kR₂ := Rest.comp kR hr₂
  clear kR kS hr₂
  refine ⟨I3, oI3, _, _, _, _, _, rfl, IterX.list I3 el (ets.map .ref) ec, S₂, hP3, fun g3 CL3 D3 cs3 own3 hcs3 Y3 C₃ hD3 hID3 hown3 => ?_⟩
  obtain rfl : cs3 = [] := List.map_eq_nil_iff.mp hcs3
  cases Y3
  clear hcs3 hown3
  refine ⟨fun k outs l => l = (c1, oc) :: news ∧ outs = ((es.take k).map fun e => decide (e.1 = e.2)).map .bool, ⟨rfl, by simp⟩, ⟨?_, ?_, ?_⟩, ?_⟩
  · rintro k outs l x ⟨rfl, _⟩; exact .tail _ (hmn _ he.1)
  · rintro k outs l ⟨rfl, rfl⟩
    have h3 := List.length_take_le' k es
    rw [List.length_map, List.length_map]; omega
  · rintro i _ _ v o4 c4 mk4 s₆ hi4 hv4 ⟨rfl, rfl⟩ hP4 hr₆ S₆
    rw [List.getElem?_map] at hv4
    obtain ⟨et, het, rfl⟩ := Option.map_eq_some_iff.mp hv4
    obtain ⟨a, bb, ta, tb, hee, hem⟩ := he.2.2 i et het
    have hem' : (et, tupO [.int (a : Nat) ta, .int (bb : Nat) tb]) ∈ (I3, o4) :: (D3, lst (((es.take i).map fun e => decide (e.1 = e.2)).map .bool) c4) :: (c1, oc) :: news := .tail _ (.tail _ (hmn _ hem))
    have hr₇ := hr₆
    have hpush : ((es.take (i + 1)).map fun e => decide (e.1 = e.2)) = ((es.take i).map fun e => decide (e.1 = e.2)) ++ [decide (a = bb)] := by
      rw [List.take_add_one, hee, List.map_append]; rfl
    clear S₂ kR₂ hr₆
    have F := S₆.F
    have N := S₆.N
    iterate 8 (first | walk1 | (dsimp only; walk1))
    refine wpAny_tests_nil ?_
    rw [if_pos rfl]
    by_cases hab2 : a = bb
    · have heq : ((a : Nat) : Int) = ((bb : Nat) : Int) := by rw [hab2]
      iterate 4 (first | walk1 | (dsimp only; walk1))
      rename St _ _ _ _ _ => kS
      exact ⟨_, _, (by assumption), kS, rfl, by rw [hpush, List.map_append, decide_eq_true hab2]; rfl⟩
    · have heq : ((a : Nat) : Int) ≠ ((bb : Nat) : Int) := by omega
      iterate 4 (first | walk1 | (dsimp only; walk1))
      rename St _ _ _ _ _ => kS
      exact ⟨_, _, (by assumption), kS, rfl, by rw [hpush, List.map_append, decide_eq_false hab2]; rfl⟩
  · rintro _ _ c4 s₆ ⟨rfl, rfl⟩ hr₆ S₆
    have hr := kR₂.trans hr₆
    clear kR₂ hr₆ S₂ C₃
    rw [List.length_map, he.2.1, List.take_length] at S₆
    have F := S₆.F
    have N := S₆.N
    have hbm : (D3, lst ((es.map fun e => decide (e.1 = e.2)).map .bool) c4) ∈ (D3, lst ((es.map fun e => decide (e.1 = e.2)).map .bool) c4) :: (c1, oc) :: news := .head _
    by_cases hl : (es.any fun e => decide (e.1 = e.2)) = true
    · have hl2 : ((es.map fun e => decide (e.1 = e.2)).any id) = true := by rw [List.any_map]; exact hl
      iterate 8 (first | walk1 | (dsimp only; walk1))
      rename St _ _ _ _ _ => kS
      have e : dirs n es = 0 := by unfold dirs; rw [if_pos hl]
      rw [e] at h
      exact h _ _ (by assumption) kS.tl.tl
    · have hl2 : ((es.map fun e => decide (e.1 = e.2)).any id) = false := by rw [List.any_map]; exact Bool.eq_false_iff.mpr hl
      iterate 11 (first | walk1 | (dsimp only; walk1))
      rename St _ _ _ _ _ => kS
      rename Cx _ _ _ _ _ => C'
      rename Rest _ _ => kR
      replace kS := kS.tl
      refine compS (cn := []) (clo := []) C' kS rfl rfl (by decide) rfl (by decide) ?_
      iterate 7 (first | walk1 | (dsimp only; walk1))
      rename St _ _ _ _ _ => kS
      rename Cx _ _ _ _ _ => C'
      rename Rest _ _ => kR
      refine iter_rng kS List.mem_cons_self (N := n) (by omega) (by omega) (by omega) (by omega) fun I5 oI5 s₃ hr₃ S₃ hP5 => ?_
      have kR₃ := Rest.comp kR hr₃
      clear kR kS hr₃ hD3 hID3 hP3
      replace S₃ := S₃.sub (.cons_cons _ (.cons _ (List.Sublist.refl _)))
      refine ⟨I5, oI5, n, _, _, _, (c1, oc) :: news, rfl, IterX.range I5 0 n, S₃, hP5, fun g5 CL5 D5 cs5 own5 hcs5 Y5 C₅ hD5 hID5 hown5 => ?_⟩
      obtain rfl : cs5 = [] := List.map_eq_nil_iff.mp hcs5
      cases Y5
      clear hcs5 hown5 hl2 hbm
      refine ⟨fun k outs l => l = (c1, oc) :: news ∧ IntL outs ((List.range n).take k), ⟨rfl, IntL.nil⟩, ⟨?_, ?_, ?_⟩, ?_⟩
      · intros; trivial
      · rintro k outs l ⟨rfl, h1⟩
        have h2 := h1.1
        rw [List.length_take, List.length_range] at h2
        omega
      · rintro j outs _ v o4 c5 mk5 s₄ hj ⟨tv, rfl⟩ ⟨rfl, hout⟩ hP4 hr₄ S₄
        rw [Int.zero_add]
        have hpush : (List.range n).take (j + 1) = (List.range n).take j ++ [j] := by
          rw [List.take_add_one, List.getElem?_range hj]; rfl
        refine wpAny_assign_Name (storeS S₄ (fun s₅ hr₅ S₅ => ?_) rfl rfl rfl)
        have hr₆ := hr₄.trans hr₅
        clear S₄ hr₄ hr₅ S₃ kR₃
        have F := S₅.F
        have N := S₅.N
        refine wpAny_tests_nil ?_
        rw [if_pos rfl]
        iterate 1 (first | walk1 | (dsimp only; walk1))
        rename St _ _ _ _ _ => kS
        exact ⟨_, _, (by assumption), kS, rfl, by rw [hpush]; exact hout.push j tv⟩
      · rintro outs _ c5 s₄ ⟨rfl, hout⟩ hr₄ S₄
        have hr := kR₃.trans hr₄
        clear kR₃ hr₄ S₃ C₅
        rw [List.take_of_length_le (by rw [List.length_range]; exact Nat.le_refl _)] at hout
        have F := S₄.F
        have N := S₄.N
        iterate 1 (first | walk1 | (dsimp only; walk1))
        rename St _ _ _ _ _ => S₄
        refine ⟨C'.X.keeps S₄.F.keep, ?_⟩
        refine wpAny_call (orders_c n C' S₄ List.mem_cons_self hout List.nodup_range List.length_range hn (by show A.depth + 1 + n < recursionLimit; omega) (fun s₆ D6 c6 ts6 il6 hr₆ S₆ hll6 => ?_))
        have hr₇ := Rest.comp hr hr₆
        clear hr hr₆ S₄ hD5 hID5 hP5
        replace S₆ := S₆.perm (List.Perm.append_left il6 (List.Perm.refl ((D5, lst outs c5) :: (c1, oc) :: news)))
        have F := S₆.F
        have N := S₆.N
        iterate 11 (first | walk1 | (dsimp only; walk1))
        rename St _ _ _ _ _ => kS
        rename Cx _ _ _ _ _ => C'
        rename Rest _ _ => kR
        have hol := orders_len n (List.range n) List.nodup_range List.length_range hn
        have hom := orders_mem n (List.range n) List.nodup_range List.length_range
        generalize hoss : orders n (List.range n) = oss at hll6 hol hom
        refine compS (cn := [Str.ofString "order"]) (clo := [(Str.ofString "edges", c1)]) C' kS rfl rfl (by decide) rfl (by decide) ?_
        iterate 1 (first | walk1 | (dsimp only; walk1))
        rename St _ _ _ _ _ => kS
        rename Cx _ _ _ _ _ => C'
        rename Rest _ _ => kR
        generalize hbase : il6 ++ (D5, lst outs c5) :: (c1, oc) :: news = base at kS
        have hD6b : (D6, lst (ts6.map .ref) c6) ∈ base := by rw [← hbase]; exact List.mem_append_left _ hll6.1
        have hll7 : LLs ts6 oss base := hll6.2.mono fun p hp => by rw [← hbase]; exact List.mem_append_left _ hp
        have hc1b : (c1, oc) ∈ base := by rw [← hbase]; simp
        have he7 : EdgesIn base el ec ets es := he.mono fun p hp => by rw [← hbase]; simp [hp]
        have hnb : news.Sublist base := by rw [← hbase]; exact (List.Sublist.cons _ (List.Sublist.cons _ (List.Sublist.refl news))).trans (List.sublist_append_right il6 _)
        clear hbase he hab hmn
        refine iter_listS kS hD6b fun I7 oI7 s₈ hr₈ S₈ hP7 => ?_
        have kR₈ := Rest.comp kR hr₈
        clear kR kS hr₈
        refine ⟨I7, oI7, _, _, _, _, base, rfl, IterX.list I7 D6 (ts6.map .ref) c6, S₈, hP7, fun g7 CL7 D7 cs7 own7 hcs7 Y7 C₇ hD7 hID7 hown7 => ?_⟩
        obtain ⟨c2, rfl⟩ : ∃ c2, cs7 = [(Str.ofString "order", c2)] := by
          match cs7, hcs7 with
          | [(x, c2)], h => simp at h; exact ⟨c2, by rw [h]⟩
        obtain ⟨oc2, rfl, hoc2⟩ := Y7.one
        clear Y7 hcs7
        refine ⟨fun k outs l => ∃ il ts oc2, l = il ++ (c2, oc2) :: base ∧ (∃ v₀, oc2.data = .cell v₀) ∧ outs = ts.map .ref ∧ TupsIn il ts ((oss.take k).map (patt es)),
          ⟨[], [], oc2, rfl, ⟨_, hoc2⟩, rfl, ⟨rfl, fun k t ht => by simp at ht⟩⟩, ⟨?_, ?_, ?_⟩, ?_⟩
        · rintro k outs l x ⟨il, ts, oc2, rfl, _⟩
          exact .tail _ (List.mem_append_right _ (.tail _ hD6b))
        · rintro k outs l ⟨il, ts, oc2, rfl, _, rfl, hT⟩
          have h1 := hT.1
          rw [List.length_map, List.length_take] at h1
          rw [List.length_map]
          have := hol.1
          omega
        · rintro k _ _ v o' c7 mk7 s₉ hk hv ⟨il, ts, oc2, rfl, ⟨v₀, hd⟩, rfl, hT⟩ hP' hr₉ S₉
          rw [List.getElem?_map] at hv
          obtain ⟨t4, ht4, rfl⟩ := Option.map_eq_some_iff.mp hv
          obtain ⟨vs4, c4, os, hos, hm4, hi4⟩ := hll7.2 k t4 ht4
          have hosp := (hom os).mp (List.mem_of_getElem? hos)
          have hosl : os.length ≤ 1000 := by rw [hosp.length_eq, List.length_range]; omega
          refine wpAny_assign_Name (storeC S₉ (c := c2) rfl (.tail _ (.tail _ (List.mem_append_right _ (.head _)))) hd (fun s₁₀ o₃ hr₁₀ S₁₀ hd₃ _ => ?_) rfl rfl)
          replace S₁₀ := St.put_at (pre := (I7, o') :: (D7, lst (ts.map .ref) c7) :: il) S₁₀
          replace S₁₀ : St g7 CL7 mk7 ((I7, o') :: (D7, lst (ts.map .ref) c7) :: (il ++ (c2, o₃) :: base)) s₁₀.heap := S₁₀
          have hr₁₁ := hr₉.trans hr₁₀
          clear S₉ hd hr₉ hr₁₀ S₈ kR₈
          have F := S₁₀.F
          have N := S₁₀.N
          refine wpAny_tests_nil ?_
          rw [if_pos rfl]
          iterate 4 (first | walk1 | (dsimp only; walk1))
          rename St _ _ _ _ _ => kS
          rename Cx _ _ _ _ _ => C₇
          refine compS (cn := []) (clo := [(Str.ofString "order", c2)]) C₇ kS rfl rfl (by decide) rfl (by decide) ?_
          iterate 1 (first | walk1 | (dsimp only; walk1))
          rename St _ _ _ _ _ => kS
          rename Cx _ _ _ _ _ => C₇
          have hbig : ∀ p ∈ base, p ∈ (I7, o') :: (D7, lst (ts.map .ref) c7) :: (il ++ (c2, o₃) :: base) := fun p hp => .tail _ (.tail _ (List.mem_append_right _ (.tail _ hp)))
          refine iter_listS kS (hbig _ he7.1) fun I8 oI8 s₁₁ hr₁₂ S₁₁ hP8 => ?_
          have hr₁₃ := hr₁₁.trans hr₁₂
          clear kS hr₁₁ hr₁₂
          refine ⟨I8, oI8, _, _, _, _, _, rfl, IterX.list I8 el (ets.map .ref) ec, S₁₁, hP8, fun g8 CL8 D8 cs8 own8 hcs8 Y8 C₈ hD8 hID8 hown8 => ?_⟩
          obtain rfl : cs8 = [] := List.map_eq_nil_iff.mp hcs8
          cases Y8
          clear hcs8 hown8
          refine ⟨fun j outs l => l = (I7, o') :: (D7, lst (ts.map .ref) c7) :: (il ++ (c2, o₃) :: base) ∧ outs = (patt (es.take j) os).map .bool, ⟨rfl, by simp [patt]⟩, ⟨?_, ?_, ?_⟩, ?_⟩
          · rintro j outs l x ⟨rfl, _⟩; exact .tail _ (hbig _ he7.1)
          · rintro j outs l ⟨rfl, rfl⟩
            have h3 := List.length_take_le' j es
            rw [List.length_map, patt, List.length_map]; omega
          · rintro i _ _ v o5 c8 mk8 s₁₂ hi8 hv8 ⟨rfl, rfl⟩ hP9 hr₁₄ S₁₂
            rw [List.getElem?_map] at hv8
            obtain ⟨et, het, rfl⟩ := Option.map_eq_some_iff.mp hv8
            obtain ⟨a, bb, ta, tb, hee, hem⟩ := he7.2.2 i et het
            have hpush : patt (es.take (i + 1)) os = patt (es.take i) os ++ [decide (os.idxOf a < os.idxOf bb)] := by
              unfold patt; rw [List.take_add_one, hee, List.map_append]; rfl
            have hab3 := hE _ (List.mem_of_getElem? hee)
            have hka : a ∈ os := hosp.mem_iff.mpr (List.mem_range.mpr hab3.1)
            have hkb : bb ∈ os := hosp.mem_iff.mpr (List.mem_range.mpr hab3.2)
            have hem' := hbig _ hem
            have hm4' := hbig _ hm4
            have hro := hr₁₄
            clear S₁₁ hr₁₃ hr₁₄
            have F := S₁₂.F
            have N := S₁₂.N
            iterate 8 (first | walk1 | (dsimp only; walk1))
            refine wpAny_tests_nil ?_
            rw [if_pos rfl]
            iterate 18 (first | walk1 | (dsimp only; walk1))
            rename St _ _ _ _ _ => kS
            exact ⟨_, _, (by assumption), kS, rfl, by rw [hpush, List.map_append]; congr 3; simp⟩
          · rintro _ _ c8 s₁₂ ⟨rfl, rfl⟩ hr₁₄ S₁₂
            have hr := hr₁₃.trans hr₁₄
            clear hr₁₃ hr₁₄ S₁₁ C₈
            rw [List.length_map, he7.2.1, List.take_length] at S₁₂
            have hz : ((patt es os).map Value.bool).length ≤ 1000000 := by rw [List.length_map, patt, List.length_map]; omega
            have hbm : (D8, lst ((patt es os).map Value.bool) c8) ∈ (D8, lst ((patt es os).map Value.bool) c8) :: (I7, o') :: (D7, lst (ts.map .ref) c7) :: (il ++ (c2, o₃) :: base) := .head _
            have F := S₁₂.F
            have N := S₁₂.N
            iterate 2 (first | walk1 | (dsimp only; walk1))
            rename St _ _ _ _ _ => kS
            rename Rest _ _ => kR
            refine' ⟨_, _, kR, kS.perm (perm5' _ _ _ _ _ _ _), (_, _) :: (D8, _) :: il, ts ++ [?t5], o₃, rfl, ⟨_, hd₃⟩, ?e1, ?e2⟩
            case e1 => rw [List.map_append]; rfl
            case e2 =>
              rw [take_map_push _ hos]
              exact (hT.mono fun p hp => .tail _ (.tail _ hp)).push (.head _)
        · rintro _ l c7 s₉ ⟨il, ts, oc2, rfl, _, rfl, hT⟩ hr₉ S₉
          have hr := kR₈.trans hr₉
          clear kR₈ hr₉ S₈ C₇
          rw [List.take_of_length_le (by rw [List.length_map, hll7.1]; exact Nat.le_refl _)] at hT
          have F := S₉.F
          have N := S₉.N
          iterate 1 (first | walk1 | (dsimp only; walk1))
          rename Cx _ _ _ _ _ => C'
          have hlen9 : ∀ σ ∈ oss.map (patt es), σ.length = es.length := fun σ hσ => by
            obtain ⟨o, _, rfl⟩ := List.mem_map.mp hσ
            rw [patt, List.length_map]
          obtain ⟨hnd9, hmem9⟩ := ins_spec (oss.map (patt es)) [] List.nodup_nil
          have hle9 : ((oss.map (patt es)).foldl ins []).length ≤ 1000 := by
            have := nodup_sub _ (oss.map (patt es)) hnd9 fun x hx => by
              rcases (hmem9 x).mp hx with q | q
              · cases q
              · exact q
            rw [List.length_map] at this
            have := hol.1
            omega
          refine setListS (σs := oss.map (patt es)) (mm := es.length) C'.hh S₉ List.mem_cons_self (hT.mono fun p hp => .tail _ (List.mem_append_left _ hp)) hlen9 hes (by show A.units + 3 + 20 < cLine; omega) fun D9 o9 s₁₀ hr₁₀ S₁₀ hab9 hT9 => ?_
          have hr₁₁ := hr.trans hr₁₀
          clear hr hr₁₀ S₉
          have F := S₁₀.F
          have N := S₁₀.N
          iterate 1 (first | walk1 | (dsimp only; walk1))
          rename St _ _ _ _ _ => hS₁₀
          refine lenTupsS hS₁₀ hT9 hle9 fun s₁₁ t₁₁ hr₁₂ S₁₁ => ?_
          have hr := hr₁₁.trans hr₁₂
          clear hr₁₁ hr₁₂ hS₁₀
          have F := S₁₁.F
          have N := S₁₁.N
          iterate 1 (first | walk1 | (dsimp only; walk1))
          rename St _ _ _ _ _ => kS
          have e : dirs n es = ((oss.map (patt es)).foldl ins []).length := by unfold dirs; rw [if_neg hl, hoss]
          rw [e] at h
          exact h _ _ hr (kS.sub (.cons _ (.cons _ ((List.Sublist.cons _ hnb).trans (List.sublist_append_right il _)))))

end Mine
end
section
open PySem PySem.W PySem.Calls PyProof.Rows
set_option maxRecDepth 100000
namespace Mine
/-! a class of the program raised, in any frame -/
section
variable {w : World} {A : Around} {E : Value → Shared → Prop} {s : Shared} {h₀ : Heap} {L : Addr} {m : Str → Option Value} {news : List (Addr × Obj)} {env : Env} {x : Str} {c : Addr} {np cpos pos : Pos} {Q : Flow → Shared → Prop}
theorem raiseX {bmB : List Value} {B newId initId : String} {e₀ : PySem.Expr} {rest : List PySem.Expr} (C : Cx w A env L h₀) (S : St h₀ L m news s.heap) (ex : nsIn (hd.heap_39 w.params) mainGlobals x = some (some (.ref c)))
    (q : excIn (hd.heap_39 w.params) c bmB newId = true) (FB : ExcBaseFacts B newId initId bmB)
    (h : wpAny (model PP w) A (spliced (backTo cpos (starEach (e₀ :: rest) env))) (fun vs s₂ => vs.length ≤ sizeLine ∧ (∃ news', St h₀ L m news' s₂.heap) ∧
      ∀ h' e, Heap.MadeExcOf s₂.heap h' e (.ref c) vs → E (.ref e) { s₂ with heap := h' }) E s)
    (hg : env.globals = mainGlobals := by rfl) (hx : env.kindOf x = some .globalImplicit := by rfl) (hd : (x == ("__debug__" : Str)) = false := by decide)
    (he : starEach (e₀ :: rest) env = (false, eval e₀ env) :: starEach rest env := by rfl)
    (hplain : (backTo cpos (starEach rest env)).any (·.1) = false := by rfl) :
    wpAny (model PP w) A (exec (.Raise (some (.Call (.Name x np) (e₀ :: rest) [] cpos)) none pos) env) Q E s := by
  obtain ⟨mean, mg, mb, T⟩ := C.T
  have O : OwnCls x c bmB newId mg h₀ := own_of_in C.X (topRead_of T) ex q
  obtain ⟨tl, N, nm, q', bs, hdct, sn, sub, ab, col, dd, k0, k1, k2, k3, k5, mN, hC, hN, hni, TL⟩ := O.obj
  refine wpAny_Raise_call_subT (C := c) (nm := nm) (q := q') (N := N) (bs := bs) (bm := tl) (hdct := hdct) (sn := sn) (sub := sub) (ab := ab) (col := col) (dd := dd) (k0 := k0) (k1 := k1) (k2 := k2) (k3 := k3) (k5 := k5)
    FB (mN := mN) (TL.hasType FB.hasBase) C.hh (by rw [he]; show (false || (backTo cpos (starEach rest env)).any (·.1)) = false; rw [hplain]; rfl) hni (nmG C S ex ⟨rfl, ?_⟩ hg hx hd)
  rw [he] at h ⊢
  refine Calls.evalArgs_plain (wpAny_mono h (fun vs s₂ h₂ => ?_) fun _ _ y => y)
  obtain ⟨h1, ⟨_, S2⟩, h3⟩ := h₂
  exact ⟨rfl, h1, S2.F.keep _ _ hC, hN.keeps S2.F.keep, TL.keeps S2.F.keep, h3⟩
end
/-! frames below, and what a raise leaves -/
def FramesIn (l : List Env) (G : Heap) : Prop := ∀ env ∈ l, env.scope.kind ≠ .module ∧ ∃ L o, env.frame = some L ∧ G.get? L = some o ∧ ∀ vs, o.data ≠ .fields vs
def Threw (l : List Env) (G : Heap) (e : Addr) (h' : Heap) : Prop :=
  ∃ B a0, (∀ b o, G.get? b = some o → b ∉ l.filterMap (·.frame) → B.get? b = some o) ∧ Heap.FlyingW B l e (.ref 65) a0 h' ∧ G.UpToSlots h'
theorem FramesIn.fun {l : List Env} {G h B : Heap} (x : FramesIn l G) (k : ∀ b o, G.get? b = some o → h.get? b = some o) (hB : ∀ a ∈ l.filterMap (·.frame), B.get? a = none) : h.FunFrames B l := by
  induction l with
  | nil => trivial
  | cons env r ih =>
    obtain ⟨hk, L, o, hf, ho, hd⟩ := x env (.head _)
    refine ⟨hk, ⟨L, o, hf, hB L (List.mem_filterMap.mpr ⟨env, .head _, hf⟩), k L o ho, hd⟩, ih (fun e he => x e (.tail _ he)) fun a ha => hB a ?_⟩
    obtain ⟨e, he, hf⟩ := List.mem_filterMap.mp ha
    exact List.mem_filterMap.mpr ⟨e, .tail _ he, hf⟩
theorem throws {M : Model} {A : Around} {s : Shared} {env : Env} {l : List Env} {L e : Addr} {m : Str → Option Value} {G h : Heap} {vs : List Value} {Q : Unit → Shared → Prop} {E : Value → Shared → Prop}
    (hfr : A.frames = some (env :: l)) (hf : env.frame = some L) (hk : env.scope.kind ≠ .module) (x : FramesIn l G) (hG : ∀ b o, G.get? b = some o → h.get? b = some o) (hL : G.get? L = none) (hn : h.Ns L m)
    (hx : Heap.MadeExcOf h s.heap e (.ref 65) vs) (hQ : ∀ h', Threw l G e h' → Q () { s with heap := h' }) : wpAny M A (leaving env (.ref e)) Q E s := by
  have hin : ∀ a ∈ (env :: l).filterMap (·.frame), (hideAll h ((env :: l).filterMap (·.frame))).get? a = none := fun a ha => hideAll_none _ ha
  refine wpAny_leaves_madeW (h := h) (base := hideAll h ((env :: l).filterMap (·.frame))) hfr hf (fun b o q => of_hideAll _ q) ?_ hx fun h' t x1 x2 x3 x4 => hQ h' ⟨_, _, fun b o q nm => ?_, x1, ?_⟩
  · obtain ⟨oL, es, ep, ho, hc, hd, _⟩ := hn
    refine ⟨hk, ⟨L, oL, hf, hin L (List.mem_filterMap.mpr ⟨env, .head _, hf⟩), ho, fun vs q => ?_⟩, x.fun hG fun a ha => hin a ?_⟩
    · first | (rw [hd] at q; cases q) | (rw [hc] at q; cases q)
    · obtain ⟨e, he, hf⟩ := List.mem_filterMap.mp ha
      exact List.mem_filterMap.mpr ⟨e, .tail _ he, hf⟩
  · refine hideAll_get _ (hG b o q) fun hm => ?_
    obtain ⟨e, he, hf'⟩ := List.mem_filterMap.mp hm
    rcases List.mem_cons.mp he with rfl | he
    · rw [hf] at hf'; obtain rfl := Option.some.inj hf'; rw [q] at hL; cases hL
    · exact nm (List.mem_filterMap.mpr ⟨e, he, hf'⟩)
  · exact ((Heap.UpToSlots.of_keeps hG).trans (Heap.UpToSlots.of_keeps hx.keeps)).trans x4
/-! entering, the ends in the open -/
theorem enterCR {w : World} {A : Around} {s : Shared} {h₀ : Heap} {env : Env} {L f : Addr} {m : Str → Option Value} {news : List (Addr × Obj)} {R : Result → Shared → Prop}
    {name qual : Str} {params : Arguments} {body : List Stmt} {scope : Scope} {dV kV doc pm cdv ct oc : Value} {an od : Option Addr} {osl : Array (Option Value)} {args : Args} {binds : List (Str × Value)} {cn : List Str}
    (C : Cx w A env L h₀) (S : St h₀ L m news s.heap)
    (ho : (hd.heap_39 w.params).lookup f = some ⟨oc, od, .func (fnOf name qual params body scope dV kV doc pm an cdv ct), osl⟩) (hcd : codeIn (hd.heap_39 w.params) cdv qual = true)
    (hbind : BindsTo s (fnOf name qual params body scope dV kV doc pm an cdv ct) args binds)
    (hkind : ∀ n, ∀ x ∈ binds, scope.names.lookup x.1 = some .local ∨ (scope.names.lookup x.1 = some .cell ∧ ((cellsFrom n scope.names []).lookup x.1).isSome = true))
    (hcn : (cellsFrom 0 scope.names []).map (·.1) = cn) (hnd : cn.Nodup)
    (h : ∀ g L' s₁ cs cells, Rest s s₁ → g = hideAll s.heap (news.map (·.1)) → Fr h₀ L g m → h₀.StaysIn g → g.get? L' = none → (∀ b o, s.heap.get? b = some o → s₁.heap.get? b = some o) →
      Cx w (A.deeper (envX qual scope L' f cdv cs)) (envX qual scope L' f cdv cs) L' g → cs.map (·.1) = cn →
      CellsAre (bindC (fun x => scope.names.lookup x) binds fun _ => none) cs cells →
      St g L' (bindL (fun x => scope.names.lookup x) binds fun _ => none) (cells ++ news) s₁.heap → (∀ p ∈ cells, ∀ q ∈ news, q.1 < p.1) → (∀ q ∈ news, q.1 < L') → s.heap.get? L' = none →
      wpAny (model PP w) (A.deeper (envX qual scope L' f cdv cs)) (execs body (envX qual scope L' f cdv cs))
        (fun fl s' => R (.ok (.ret (match fl with | .ret v => v | _ => .none))) s')
        (fun e s' => wpAny (model PP w) (A.deeper (envX qual scope L' f cdv cs)) (leaving (envX qual scope L' f cdv cs) e) (fun _ s'' => R (.error e) s'') (fun e' s'' => R (.error e') s'') s')
        s₁)
    (hroom : A.depth < recursionLimit) (hco : scope.isCoroutine = false := by rfl) (hgen : scope.isGenerator = false := by rfl) (hk : scope.kind = .function := by rfl) :
    codeAny (model PP w) A (.call (.ref f) args) R s := by
  obtain ⟨mean, mg, mb, T⟩ := C.T
  obtain ⟨FG, st⟩ := hideS S
  refine codeAny_call_function hroom ((C.X.keeps S.F.keep) _ _ ho) rfl hco hgen rfl (codeRec_of (C.X.keeps S.F.keep) hcd) (hbind _ _ _ _ ?_)
  refine wpAny_newFunctionEnv_cells hk (hkind _) fun env' he s' x => ?_
  subst he
  have hk₁ := x.toInCall.keep
  have T' := T.keeps st
  have X' := C.X.keeps st
  refine ⟨(T.nolimit.keeps S.F.keep).keeps hk₁, codeAny_func ?_⟩
  obtain ⟨h₁, tk, rfl, _⟩ := x.done
  obtain ⟨cells, NC, Y⟩ := Cl.news (h₀ := s.heap) (Nat.le_refl _) fun n c hm => ⟨x.cell n c (lookup_of_mem_nodup (by show ((cellsFrom (s.heap.objs.size + 1) scope.names []).map (·.1)).Nodup; rw [cells_names hcn]; exact hnd) hm), x.above n c hm⟩
  have Fg : Fr (hideAll s.heap (news.map (·.1))) s.heap.objs.size h₁ _ := ⟨x.toInCall.ns, fun b o e => hk₁ b o (of_hideAll _ e), Nat.le_of_eq (hideAll_size _ _)⟩
  have lo : 1 < s.heap.objs.size := Nat.lt_of_lt_of_le (modules_low T'.nolimit) Fg.above
  have cab : ∀ p ∈ cells, s.heap.objs.size < p.1 := fun p hp => by
    have : p.1 ∈ cells.map (·.1) := List.mem_map.mpr ⟨p, hp, rfl⟩
    rw [CellsAre.fst Y] at this
    obtain ⟨q, hq, e⟩ := List.mem_map.mp this
    rw [← e]; exact x.above q.1 q.2 hq
  refine wpAny_mono (h _ s.heap.objs.size { s with heap := h₁, toks := tk } _ cells ⟨rfl, rfl⟩ rfl FG st (Heap.get?_none_of_le (Nat.le_of_eq (hideAll_size _ _))) hk₁ ⟨X', ⟨mean, mg, mb, T'⟩, C.hh, hk, rfl⟩ (cells_names hcn _) Y
    ⟨Fg, fun p hp => ?_, ?_, lo, fun p hp => ?_⟩ (fun p hp q hq => Nat.lt_trans (S.lt q hq) (cab p hp)) S.lt (Heap.get?_none_of_le (Nat.le_refl _))) (fun fl s' hl => hl) fun _ _ y => y
  · rcases List.mem_append.mp hp with hp | hp
    · refine ⟨(NC p hp).1, (NC p hp).2.1, ?_⟩
      cases q : (hideAll s.heap (news.map (·.1))).get? p.1 with
      | none => rfl
      | some o => have := of_hideAll _ q; rw [(NC p hp).2.2] at this; cases this
    · exact ⟨hk₁ _ _ (S.N p hp).1, Nat.ne_of_lt (Heap.lt_size (S.N p hp).1), hideAll_none _ (List.mem_map_of_mem hp)⟩
  · rw [List.map_append, CellsAre.fst Y, List.nodup_append]
    refine ⟨List.pairwise_map.mpr x.apart, S.D, fun a ha b hb e => ?_⟩
    rw [← CellsAre.fst Y] at ha
    obtain ⟨p, hp, rfl⟩ := List.mem_map.mp ha
    obtain ⟨q, hq, rfl⟩ := List.mem_map.mp hb
    exact absurd (Nat.lt_trans (S.lt q hq) (cab p hp)) (by rw [e]; exact Nat.lt_irrefl _)
  · rcases List.mem_append.mp hp with hp | hp
    · exact Nat.lt_trans lo (cab p hp)
    · exact S.low.2 p hp
end Mine
end
section
open PySem PySem.W PySem.Calls PyProof.Rows
set_option maxRecDepth 100000
namespace Mine

local macro_rules | `(tactic| tb_start) => `(tactic| first | with_reducible assumption | with_reducible exact Ne.symm (by assumption) | (refine' fresh_ne ?l ?h0 ?h; (case l => with_reducible assumption); (case h0 => with_reducible assumption); (case h => tb_rel)) | (refine' Ne.symm (fresh_ne ?l ?h0 ?h); (case l => with_reducible assumption); (case h0 => with_reducible assumption); (case h => tb_rel)))
local macro_rules | `(tactic| tb_rel) => `(tactic| first | with_reducible assumption | with_reducible exact List.mem_cons_self | (with_reducible refine List.mem_cons_of_mem _ ?_; tb_rel) | (with_reducible refine mem_put_self (o := ?oo) ?hh; case hh => tb_rel) | (with_reducible refine mem_put_ne ?h1 ?h2; (case h1 => tb_rel); (case h2 => tb_start)) | (with_reducible refine List.mem_append_left _ ?_; tb_rel) | (with_reducible refine List.mem_append_right _ ?_; tb_rel))
local macro_rules | `(tactic| k_mem) => `(tactic| tb_rel)
local macro_rules | `(tactic| walk_at "compareOp In int ref") => `(tactic| (k_here; (with_reducible rename St _ _ _ _ _ => kS); (with_reducible rename Rest _ _ => kR); k_dflt (refine' in_D (knd := intKind PP _) ?h0 kS ?hm ?hd ?hk ?hv ?_; (case h0 => with_reducible assumption); (case hm => tb_rel); (case hd => first | with_reducible assumption | with_reducible exact isDict_nil _); (case hk => exact intKind_is _ _ _ _); (case hv => first | with_reducible assumption | with_reducible exact isSome_node _ (by assumption) | with_reducible exact isSome_node_none _ (by assumption) | with_reducible exact valueAt_adjS _ _)); (intro s' hr' kS'); (have kR' := Rest.comp kR hr'); clear kS kR hr'; (have kF := kS'.F); (have kN := kS'.N); (try k_sweep)))
local macro_rules | `(tactic| walk_at "compareOp NotIn int ref") => `(tactic| (k_here; (with_reducible rename St _ _ _ _ _ => kS); (with_reducible rename Rest _ _ => kR); k_dflt (refine' notin_D (knd := intKind PP _) ?h0 kS ?hm ?hd ?hk ?hv ?_; (case h0 => with_reducible assumption); (case hm => tb_rel); (case hd => first | with_reducible assumption | with_reducible exact isDict_nil _); (case hk => exact intKind_is _ _ _ _); (case hv => first | with_reducible assumption | with_reducible exact isSome_node _ (by assumption) | with_reducible exact isSome_node_none _ (by assumption) | with_reducible exact valueAt_adjS _ _)); (intro s' hr' kS'); (have kR' := Rest.comp kR hr'); clear kS kR hr'; (have kF := kS'.F); (have kN := kS'.N); (try k_sweep)))
local macro_rules | `(tactic| walk_at "subscriptTail Name Name ref int") => `(tactic| (k_here; (with_reducible show wpAny _ _ (subscriptTail _ _ (Value.ref _) (Value.int _ _)) _ _ _); (with_reducible rename St _ _ _ _ _ => kS); (with_reducible rename Rest _ _ => kR); k_dflt (refine' sub_D (knd := intKind PP _) ?h0 kS ?hm ?hd ?hk ?hv ?_; (case h0 => with_reducible assumption); (case hm => tb_rel); (case hd => first | with_reducible assumption | with_reducible exact isDict_nil _); (case hk => exact intKind_is _ _ _ _); (case hv => first | with_reducible assumption | with_reducible exact valueAt_node _ (by assumption) | with_reducible exact valueAt_stored _ _ _)); (intro s' hr' kS'); (have kR' := Rest.comp kR hr'); clear kS kR hr'; (have kF := kS'.F); (have kN := kS'.N); (try k_sweep)))
local macro_rules | `(tactic| walk_at "subscriptTail Attribute Name Name ref int") => `(tactic| (k_here; (with_reducible show wpAny _ _ (subscriptTail _ _ (Value.ref _) (Value.int _ _)) _ _ _); (with_reducible rename St _ _ _ _ _ => kS); (with_reducible rename Rest _ _ => kR); k_dflt (refine' sub_D (knd := intKind PP _) ?h0 kS ?hm ?hd ?hk ?hv ?_; (case h0 => with_reducible assumption); (case hm => tb_rel); (case hd => first | with_reducible assumption | with_reducible exact isDict_nil _); (case hk => exact intKind_is _ _ _ _); (case hv => first | with_reducible assumption | with_reducible exact valueAt_node _ (by assumption) | with_reducible exact valueAt_stored _ _ _)); (intro s' hr' kS'); (have kR' := Rest.comp kR hr'); clear kS kR hr'; (have kF := kS'.F); (have kN := kS'.N); (try k_sweep)))
local macro_rules | `(tactic| walk_at "subscriptTail Subscript Attribute Name Name ref int") => `(tactic| (k_here; (with_reducible show wpAny _ _ (subscriptTail _ _ (Value.ref _) (Value.int _ _)) _ _ _); (with_reducible rename St _ _ _ _ _ => kS); (with_reducible rename Rest _ _ => kR); k_dflt (refine' sub_D (knd := intKind PP _) ?h0 kS ?hm ?hd ?hk ?hv ?_; (case h0 => with_reducible assumption); (case hm => tb_rel); (case hd => first | with_reducible assumption | with_reducible exact isDict_nil _); (case hk => exact intKind_is _ _ _ _); (case hv => first | with_reducible assumption | with_reducible exact valueAt_node _ (by assumption) | with_reducible exact valueAt_stored _ _ _)); (intro s' hr' kS'); (have kR' := Rest.comp kR hr'); clear kS kR hr'; (have kF := kS'.F); (have kN := kS'.N); (try k_sweep)))
local macro_rules | `(tactic| walk_at "subscriptTail Subscript Name ref int") => `(tactic| (k_here; (with_reducible show wpAny _ _ (subscriptTail _ _ (Value.ref _) (Value.int _ _)) _ _ _); (with_reducible rename St _ _ _ _ _ => kS); (with_reducible rename Rest _ _ => kR); k_dflt (refine' sub_D (knd := intKind PP _) ?h0 kS ?hm ?hd ?hk ?hv ?_; (case h0 => with_reducible assumption); (case hm => tb_rel); (case hd => first | with_reducible assumption | with_reducible exact isDict_nil _); (case hk => exact intKind_is _ _ _ _); (case hv => first | with_reducible assumption | with_reducible exact valueAt_node _ (by assumption) | with_reducible exact valueAt_stored _ _ _)); (intro s' hr' kS'); (have kR' := Rest.comp kR hr'); clear kS kR hr'; (have kF := kS'.F); (have kN := kS'.N); (try k_sweep)))
local macro_rules | `(tactic| walk_at "storeName") => `(tactic| (k_here; (with_reducible rename St _ _ _ _ _ => kS); (with_reducible rename Rest _ _ => kR); k_dflt (refine' storeS kS ?_ ?h1 ?h2 ?h3; (case h1 => exact rfl); (case h2 => exact rfl); (case h3 => exact rfl)); (intro s' hr' kS'); (have kR' := Rest.comp kR hr'); clear kS kR hr'; (have kF := kS'.F); (have kN := kS'.N); (try k_sweep)))
local macro_rules | `(tactic| walk_at "eval Dict nil nil") => `(tactic| (k_here; (with_reducible rename St _ _ _ _ _ => kS); (with_reducible rename Rest _ _ => kR); k_dflt (refine' dictS kS ?_); (intro d' s' hr' kS' l1); (have hm' := cons_mem kS'); (have kR' := Rest.comp kR hr'); clear kS kR hr'; (have kF := kS'.F); (have kN := kS'.N); (try k_sweep)))
local macro_rules | `(tactic| walk_at "setItem ref int ref") => `(tactic| (k_here; (with_reducible rename St _ _ _ _ _ => kS); (with_reducible rename Rest _ _ => kR); k_dflt (refine' set_D (knd := intKind PP _) ?h0 kS ?hm ?hd ?hk ?hz ?_; (case h0 => with_reducible assumption); (case hm => tb_rel); (case hd => first | with_reducible assumption | with_reducible exact isDict_nil _); (case hk => exact intKind_is _ _ _ _); (case hz => first | with_reducible assumption | exact Nat.le_of_ble_eq_true rfl)); (intro s' o' hr' kS' hd' hm'); (have kR' := Rest.comp kR hr'); clear kS kR hr'; (have kF := kS'.F); (have kN := kS'.N); (try k_sweep)))
local macro_rules | `(tactic| walk_at "delItem ref") => `(tactic| (k_here; (with_reducible rename St _ _ _ _ _ => kS); (with_reducible rename Rest _ _ => kR); k_dflt (refine' del_D (knd := intKind PP _) ?h0 kS ?hm ?hd ?hk ?hz ?hl ?_; (case h0 => with_reducible assumption); (case hm => tb_rel); (case hd => first | with_reducible assumption | with_reducible exact isDict_nil _); (case hk => exact intKind_is _ _ _ _); (case hz => with_reducible assumption); (case hl => with_reducible assumption)); (intro s' o' hr' kS' hd' hm'); (have kR' := Rest.comp kR hr'); clear kS kR hr'; (have kF := kS'.F); (have kN := kS'.N); (try k_sweep)))
local macro_rules | `(tactic| walk_at "call builtin:dict.update") => `(tactic| (k_here; (with_reducible rename St _ _ _ _ _ => kS); (with_reducible rename Rest _ _ => kR); k_dflt (refine' update_nil (knd := strKind PP _) (knd' := strKind PP _) ?h0 ?h1 kS ?hm ?hd ?hme ?he ?hde ?_; (case h0 => with_reducible assumption); (case h1 => with_reducible assumption); (case hm => tb_rel); (case hd => first | with_reducible assumption | with_reducible exact isDict_nil _); (case hme => tb_rel); (case he => first | with_reducible assumption | with_reducible exact isDict_nil _); (case hde => tb_start)); (intro s' hr' kS'); (have kR' := Rest.comp kR hr'); clear kS kR hr'; (have kF := kS'.F); (have kN := kS'.N); (try k_sweep)))
local macro_rules | `(tactic| walk_at "call builtin:dict.get") => `(tactic| (k_here; (with_reducible show wpAny _ _ (call _ [_, _, _]) _ _ _); (with_reducible rename St _ _ _ _ _ => kS); (with_reducible rename Rest _ _ => kR); k_dflt (refine' get2_D (knd := intKind PP _) ?h0 kS ?hm ?hd ?hk ?hv ?_; (case h0 => with_reducible assumption); (case hm => tb_rel); (case hd => first | with_reducible assumption | with_reducible exact isDict_nil _); (case hk => exact intKind_is _ _ _ _); (case hv => first | exact getD_of_none (by assumption) | exact getD_of_some (by assumption))); (intro s' hr' kS'); (have kR' := Rest.comp kR hr'); clear kS kR hr'; (have kF := kS'.F); (have kN := kS'.N); (try k_sweep)))
local macro_rules | `(tactic| walk_at "getMethod ref") => `(tactic| (k_here; k_dflt (first
  | ((with_reducible show wpAny _ _ (getMethod (Value.ref _) (Str.ofString "update") _) _ _ _); refine' getM_DU (knd := strKind PP _) ?h0 ?S ?hm ?hd ?_; (case h0 => with_reducible assumption); (case S => assumption); (case hm => tb_rel); (case hd => first | with_reducible assumption | with_reducible exact isDict_nil _))
  | ((with_reducible show wpAny _ _ (getMethod (Value.ref _) (Str.ofString "get") _) _ _ _); refine' getM_DG (knd := intKind PP _) ?h0 ?S ?hm ?hd ?_; (case h0 => with_reducible assumption); (case S => assumption); (case hm => tb_rel); (case hd => first | with_reducible assumption | with_reducible exact isDict_nil _)))))
local macro_rules | `(tactic| walk_at "LeaveK") => `(tactic| ((with_reducible rename St _ _ _ _ _ => kS); (refine leaveS (by assumption) kS ?_); (intro kS'); clear kS; (try dsimp only)))
local macro_rules | `(tactic| walk_at "newTuple") => `(tactic| (k_here; (with_reducible rename St _ _ _ _ _ => kS); (with_reducible rename Rest _ _ => kR); k_dflt (refine' tupS kS ?_ ?hz; (case hz => size_fits)); (intro t' s' hr' kS' l1); (have hm' := cons_mem kS'); (have kR' := Rest.comp kR hr'); clear kS kR hr'; (have kF := kS'.F); (have kN := kS'.N); (try k_sweep)))
local macro_rules | `(tactic| walk_at "newList") => `(tactic| (k_here; (with_reducible rename St _ _ _ _ _ => kS); (with_reducible rename Rest _ _ => kR); k_dflt (refine' listS kS ?_ ?hz; (case hz => size_fits)); (intro t' s' hr' kS' l1); (have hm' := cons_mem kS'); (have kR' := Rest.comp kR hr'); clear kS kR hr'; (have kF := kS'.F); (have kN := kS'.N); (try k_sweep)))
local macro_rules | `(tactic| walk_at "unpackItems ref") => `(tactic| (k_here; (with_reducible rename Cx _ _ _ _ _ => kC); (with_reducible rename St _ _ _ _ _ => kS); (with_reducible rename Rest _ _ => kR); k_dflt (refine' unpackS ?h0 kS ?hm (Cx.hh kC) ?hn ?_; (case h0 => with_reducible assumption); (case hm => tb_rel); (case hn => exact rfl)); (intro s' hr' kS'); (have kR' := Rest.comp kR hr'); clear kS kR hr'; (have kF := kS'.F); (have kN := kS'.N); (try k_sweep)))
local macro_rules | `(tactic| walk_at "compareOp NotEq int int") => `(tactic| first | with_reducible refine ne_int_t (by with_reducible assumption) ?_ | with_reducible refine ne_int_f (by with_reducible assumption) ?_)
local macro_rules | `(tactic| walk_at "compareOp Eq int int") => `(tactic| first | with_reducible refine eq_int_t (by with_reducible assumption) ?_ | with_reducible refine eq_int_f (by with_reducible assumption) ?_)
local macro_rules | `(tactic| walk_at "setAttr ref") => `(tactic| (k_here; (with_reducible rename Cx _ _ _ _ _ => kC); (with_reducible rename St _ _ _ _ _ => kS); (with_reducible rename Rest _ _ => kR); k_dflt (refine' setAttrS kC kS ?h1 ?h2 ?k6 ?k7 ?k8 ?k9 ?k10 ?k11 ?k13 ?_; (case h1 => tb_rel); (case h2 => tb_rel); (case k6 => k_is); (case k7 => k_is); (case k8 => k_is); (case k9 => k_is); (case k10 => k_get); (case k11 => k_put); (case k13 => exact Nat.le_of_ble_eq_true rfl)); (intro s' hr' kS' hm'); (have kR' := Rest.comp kR hr'); clear kS kR hr'; (have kF := kS'.F); (have kN := kS'.N); (try k_sweep)))

theorem whileR {w : World} {A : Around} {E : Value → Shared → Prop} {s : Shared} {env : Env} {test : PySem.Expr} {body : List Stmt} {pos : Pos} {Q : Flow → Shared → Prop} (hE : PassesOwn (model PP w) A env E)
    (I : Nat → Shared → Prop) (n : Nat) (h : I n s)
    (turn : ∀ n s, I n s → wpAny (model PP w) A (isTrue test env (eval test env)) (fun b s₂ => if b = true then wpAny (model PP w) A (execs body env) (fun f s₃ => match f with
        | .next | .cont => ∃ m, m < n ∧ I m s₃
        | .brk => Q .next s₃
        | .ret v => Q (.ret v) s₃) E s₂ else Q .next s₂) E s) : wpAny (model PP w) A (exec (.While test body [] pos) env) Q E s := whileG hE I n h turn
/-- the colours -/
abbrev CF := Nat → Option Nat
def cnt (cf : CF) (n : Nat) : Nat := ((List.range n).filter fun i => (cf i).isSome).length
theorem cnt_le (cf : CF) (n : Nat) : cnt cf n ≤ n := by unfold cnt; exact Nat.le_trans (List.length_filter_le _ _) (by simp)
def upC (cf : CF) (x c : Nat) : CF := fun i => if i = x then some c else cf i
theorem upC_ne {cf : CF} {x c i : Nat} (h : i ≠ x) : upC cf x c i = cf i := if_neg h
theorem upC_eq {cf : CF} {x c : Nat} : upC cf x c x = some c := if_pos rfl
theorem cnt_succ (cf : CF) (n : Nat) : cnt cf (n + 1) = cnt cf n + if (cf n).isSome = true then 1 else 0 := by
  unfold cnt; rw [List.range_succ, List.filter_append, List.length_append]; simp only [List.filter_cons, List.filter_nil]; split <;> simp_all
theorem cnt_ge {cf : CF} {x c : Nat} : ∀ {n : Nat}, n ≤ x → cnt (upC cf x c) n = cnt cf n
  | 0, _ => rfl
  | n + 1, h => by rw [cnt_succ, cnt_succ, cnt_ge (by omega), upC_ne (by omega)]
theorem cnt_up {cf : CF} {x c : Nat} (hx : cf x = none) : ∀ {n : Nat}, x < n → cnt (upC cf x c) n = cnt cf n + 1
  | n + 1, h => by
    rw [cnt_succ, cnt_succ]
    by_cases e : x = n
    · subst e; rw [cnt_ge (Nat.le_refl _), hx]; simp [upC]
    · rw [cnt_up hx (by omega), upC_ne (fun q => e q.symm)]; omega
structure ColIs (kvs : List (Int × Value)) (cf : CF) (n : Nat) : Prop where
  len : kvs.length = cnt cf n
  get : ∀ i c, cf i = some c → ∃ t, valueAt kvs (i : Int) = some (.int (c : Nat) t)
  miss : ∀ i, cf i = none → valueAt kvs (i : Int) = none
  lt : ∀ i, n ≤ i → cf i = none
theorem stored_new {kvs : List (Int × Value)} {k : Int} {v : Value} (h0 : valueAt kvs k = none) : stored kvs k v = kvs ++ [(k, v)] := by
  unfold valueAt at h0
  have h1 : kvs.find? (fun x => decide (x.1 = k)) = none := by
    cases e : kvs.find? (fun x => decide (x.1 = k)) with
    | none => rfl
    | some p => rw [e] at h0; cases h0
  have h2 : (kvs.any fun kv => decide (kv.1 = k)) = false := by
    rw [List.any_eq_false]; intro x hx; exact List.find?_eq_none.mp h1 x hx
  unfold stored; rw [h2]; rfl
theorem valueAt_stored_ne {kvs : List (Int × Value)} {k j : Int} {v : Value} (h : j ≠ k) (h0 : valueAt kvs k = none) : valueAt (stored kvs k v) j = valueAt kvs j := by
  rw [stored_new h0]
  unfold valueAt
  rw [List.find?_append]
  cases kvs.find? (fun x => decide (x.1 = j)) with
  | none => simp [Ne.symm h]
  | some p => rfl
theorem stored_len {kvs : List (Int × Value)} {k : Int} {v : Value} (h0 : valueAt kvs k = none) : (stored kvs k v).length = kvs.length + 1 := by rw [stored_new h0]; simp
theorem ColIs.up {kvs : List (Int × Value)} {cf : CF} {n x c : Nat} {t : Tok} (h : ColIs kvs cf n) (hx : cf x = none) (hn : x < n) : ColIs (stored kvs (x : Int) (.int (c : Nat) t)) (upC cf x c) n where
  len := by rw [stored_len (h.miss x hx), h.len, cnt_up hx hn]
  get := fun i d hi => by
    unfold upC at hi
    by_cases e : i = x
    · subst e; rw [if_pos rfl] at hi; obtain rfl := Option.some.inj hi; exact ⟨t, valueAt_stored _ _ _⟩
    · rw [if_neg e] at hi; obtain ⟨u, hu⟩ := h.get i d hi
      exact ⟨u, by rw [valueAt_stored_ne (by omega) (h.miss x hx)]; exact hu⟩
  miss := fun i hi => by
    unfold upC at hi
    by_cases e : i = x
    · rw [if_pos e] at hi; cases hi
    · rw [if_neg e] at hi; rw [valueAt_stored_ne (by omega) (h.miss x hx)]; exact h.miss i hi
  lt := fun i hi => by unfold upC; rw [if_neg (by omega)]; exact h.lt i hi
def Proper (G : Gr) (f : Nat → Bool) : Prop := ∀ i j, i < G.n → G.has i j → f i ≠ f j
def Bip (G : Gr) : Prop := ∃ f, Proper G f
structure Cst (G : Gr) (cf : CF) (r : Nat → Nat) : Prop where
  two : ∀ i c, cf i = some c → i < G.n ∧ (c = 0 ∨ c = 1)
  forced : ∀ f, Proper G f → ∀ i c, cf i = some c → (f i = f (r i) ↔ c = 1)
  root : ∀ i j, G.has i j → cf i ≠ none → cf j ≠ none → r i = r j
def Good (G : Gr) (cf : CF) (i : Nat) : Prop := ∀ j, G.has i j → ∃ a b, cf i = some a ∧ cf j = some b ∧ a ≠ b
theorem Good.up {G : Gr} {cf : CF} {i x c : Nat} (h : Good G cf i) (hx : cf x = none) : Good G (upC cf x c) i := fun j hj => by
  obtain ⟨a, b, h1, h2, h3⟩ := h j hj
  refine ⟨a, b, ?_, ?_, h3⟩ <;> unfold upC <;> rw [if_neg] <;> first | assumption | (intro e; simp_all)
/-- a fresh root -/
theorem Cst.start {G : Gr} {cf : CF} {r : Nat → Nat} {n : Nat} (h : Cst G cf r) (hn : n < G.n) (hx : cf n = none) (hg : ∀ i, cf i ≠ none → Good G cf i) (hsym : ∀ i j, G.has i j → G.has j i) : Cst G (upC cf n 1) (fun i => if i = n then n else r i) where
  two := fun i c hi => by
    unfold upC at hi
    by_cases e : i = n
    · rw [if_pos e] at hi; obtain rfl := Option.some.inj hi; exact ⟨by omega, .inr rfl⟩
    · rw [if_neg e] at hi; exact h.two i c hi
  forced := fun f hf i c hi => by
    unfold upC at hi
    by_cases e : i = n
    · rw [if_pos e] at hi; obtain rfl := Option.some.inj hi; rw [if_pos e, e]; simp
    · rw [if_neg e] at hi ⊢; exact h.forced f hf i c hi
  root := fun i j hij hi hj => by
    unfold upC at hi hj
    by_cases e : i = n <;> by_cases e' : j = n
    · rw [if_pos e, if_pos e']
    · rw [if_neg e'] at hj
      obtain ⟨_, _, _, h2, _⟩ := hg j hj i (hsym _ _ hij)
      rw [e, hx] at h2; cases h2
    · rw [if_neg e] at hi
      obtain ⟨_, _, _, h2, _⟩ := hg i hi j hij
      rw [e', hx] at h2; cases h2
    · rw [if_neg e] at hi ⊢; rw [if_neg e'] at hj ⊢; exact h.root i j hij hi hj
/-- one more of the component of `n` -/
theorem Cst.more {G : Gr} {cf : CF} {r : Nat → Nat} {n v x c : Nat} (h : Cst G cf r) (hsym : ∀ i j, G.has i j → G.has j i) (hlt : x < G.n) (hv : cf v = some c) (hx : cf x = none) (hr : r v = n) (hvx : G.has v x)
    (hg : ∀ i, cf i ≠ none → Good G cf i ∨ r i = n) : Cst G (upC cf x (1 - c)) (fun i => if i = x then n else r i) where
  two := fun i d hi => by
    unfold upC at hi
    by_cases e : i = x
    · rw [if_pos e] at hi; obtain rfl := Option.some.inj hi; exact ⟨by omega, by omega⟩
    · rw [if_neg e] at hi; exact h.two i d hi
  forced := fun f hf i d hi => by
    unfold upC at hi
    by_cases e : i = x
    · rw [if_pos e] at hi; obtain rfl := Option.some.inj hi; rw [if_pos e, e]
      have h1 := h.forced f hf v c hv
      have h2 := h.two v c hv
      have h3 := hf v x h2.1 hvx
      rw [hr] at h1
      rcases h2.2 with rfl | rfl
      · simp at h1 ⊢
        revert h1 h3; cases f v <;> cases f x <;> cases f n <;> simp
      · simp at h1 ⊢
        revert h1 h3; cases f v <;> cases f x <;> cases f n <;> simp
    · rw [if_neg e] at hi ⊢; exact h.forced f hf i d hi
  root := fun i j hij hi hj => by
    unfold upC at hi hj
    have key : ∀ k, G.has k x → cf k ≠ none → r k = n := fun k hk hc => by
      rcases hg k hc with q | q
      · obtain ⟨_, _, _, h2, _⟩ := q x hk; rw [hx] at h2; cases h2
      · exact q
    by_cases e : i = x <;> by_cases e' : j = x
    · rw [if_pos e, if_pos e']
    · rw [if_neg e'] at hj ⊢; rw [if_pos e]
      exact (key j (by rw [← e]; exact hsym _ _ hij) hj).symm
    · rw [if_neg e] at hi ⊢; rw [if_pos e']
      exact key i (by rw [← e']; exact hij) hi
    · rw [if_neg e] at hi ⊢; rw [if_neg e'] at hj ⊢; exact h.root i j hij hi hj
theorem Cst.clash {G : Gr} {cf : CF} {r : Nat → Nat} {v x c d : Nat} (h : Cst G cf r) (hvx : G.has v x) (hv : cf v = some c) (hx : cf x = some d) (e : d = c) : ¬ Bip G := by
  rintro ⟨f, hf⟩
  subst e
  have h1 := h.forced f hf v d hv
  have h2 := h.forced f hf x d hx
  have h3 := h.root v x hvx (by rw [hv]; simp) (by rw [hx]; simp)
  have h4 := hf v x (h.two v d hv).1 hvx
  rw [← h3] at h2
  revert h1 h2 h4
  rcases (h.two v d hv).2 with rfl | rfl <;> simp <;> cases f v <;> cases f x <;> cases f (r v) <;> simp
theorem Cst.bip {G : Gr} {cf : CF} {r : Nat → Nat} (_h : Cst G cf r) (hg : ∀ i, cf i ≠ none → Good G cf i) (ha : ∀ i, i < G.n → cf i ≠ none ∨ G.adj i = []) : Bip G := by
  refine ⟨fun i => decide (cf i = some 1), fun i j hi hij => ?_⟩
  rcases ha i hi with q | q
  · obtain ⟨a, b, h1, h2, h3⟩ := hg i q j hij
    have ha := (_h.two i a h1).2
    have hb := (_h.two j b h2).2
    show decide (cf i = some 1) ≠ decide (cf j = some 1)
    rw [h1, h2]
    intro e
    simp at e
    omega
  · unfold Gr.has at hij; rw [q] at hij; cases hij
theorem whileS {w : World} {A : Around} {E : Value → Shared → Prop} {s : Shared} {env : Env} {L : Addr} {h₀ : Heap} {m : Str → Option Value} {news : List (Addr × Obj)} {test : PySem.Expr} {body : List Stmt} {pos : Pos} {Q : Flow → Shared → Prop} (hE : PassesOwn (model PP w) A env E)
    (xs : List Str) (S : St h₀ L m news s.heap) (Inv : Nat → List (Addr × Obj) → Array GenState → OsState → Prop) (n : Nat) (hI : Inv n news s.gens s.os)
    (turn : ∀ n F news s', Inv n news s'.gens s'.os → St h₀ L (ovr xs F m) news s'.heap → wpAny (model PP w) A (isTrue test env (eval test env)) (fun b s₂ => if b = true then wpAny (model PP w) A (execs body env) (fun f s₃ => match f with
        | .next | .cont => ∃ k m' news', k < n ∧ St h₀ L m' news' s₃.heap ∧ Agree xs m' m ∧ Inv k news' s₃.gens s₃.os
        | .brk => Q .next s₃
        | .ret v => Q (.ret v) s₃) E s₂ else Q .next s₂) E s') : wpAny (model PP w) A (exec (.While test body [] pos) env) Q E s := by
  refine whileR hE (fun n s' => ∃ m' news', St h₀ L m' news' s'.heap ∧ Agree xs m' m ∧ Inv n news' s'.gens s'.os) n ⟨m, news, S, fun _ _ => rfl, hI⟩ (fun n s' hi => ?_)
  obtain ⟨m', news', S', a, hI'⟩ := hi
  rw [a.ovr] at S'
  refine wpAny_mono (turn n m' news' s' hI' S') (fun b s₂ h₂ => ?_) fun _ _ z => z
  cases b with
  | false => exact h₂
  | true =>
    rw [if_pos rfl] at h₂ ⊢
    refine wpAny_mono h₂ (fun f s₃ h₃ => ?_) fun _ _ z => z
    cases f with
    | next => obtain ⟨k, m', n', hk, S₃, a₃, hI₃⟩ := h₃; exact ⟨k, hk, m', n', S₃, a₃, hI₃⟩
    | cont => obtain ⟨k, m', n', hk, S₃, a₃, hI₃⟩ := h₃; exact ⟨k, hk, m', n', S₃, a₃, hI₃⟩
    | brk => exact h₃
    | ret v => exact h₃
theorem St.flip {h₀ h : Heap} {L : Addr} {m : Str → Option Value} {p gl r : List (Addr × Obj)} (S : St h₀ L m (p ++ (gl ++ r)) h) : St h₀ L m (gl ++ (p ++ r)) h :=
  S.perm (by rw [← List.append_assoc, ← List.append_assoc]; exact List.Perm.append_right _ List.perm_append_comm)
theorem St.flip1 {h₀ h : Heap} {L : Addr} {m : Str → Option Value} {x : Addr × Obj} {p gl r : List (Addr × Obj)} (S : St h₀ L m (x :: (p ++ (gl ++ r))) h) : St h₀ L m (x :: (gl ++ (p ++ r))) h :=
  S.perm (List.Perm.cons _ (by rw [← List.append_assoc, ← List.append_assoc]; exact List.Perm.append_right _ List.perm_append_comm))
theorem St.flop1 {h₀ h : Heap} {L : Addr} {m : Str → Option Value} {x : Addr × Obj} {p gl r : List (Addr × Obj)} (S : St h₀ L m (x :: (gl ++ (p ++ r))) h) : St h₀ L m (x :: (p ++ (gl ++ r))) h :=
  S.perm (List.Perm.cons _ (by rw [← List.append_assoc, ← List.append_assoc]; exact List.Perm.append_right _ List.perm_append_comm))
theorem St.flop {h₀ h : Heap} {L : Addr} {m : Str → Option Value} {p gl r : List (Addr × Obj)} (S : St h₀ L m (gl ++ (p ++ r)) h) : St h₀ L m (p ++ (gl ++ r)) h := S.flip
theorem node_keyC {n k : Nat} {f : Nat → Addr} {key : Int} {x : Value} (h : (nodeD n f)[k]? = some (key, x)) : k < n ∧ key = (k : Nat) := by
  unfold nodeD at h
  rw [List.getElem?_map] at h
  rcases Nat.lt_or_ge k n with hk | hk
  · rw [List.getElem?_range hk] at h; simp at h; exact ⟨hk, h.1.symm⟩
  · rw [List.getElem?_eq_none (by simpa using hk)] at h; cases h
theorem colIs_nil (n : Nat) : ColIs [] (fun _ => none) n := ⟨by induction n with | zero => rfl | succ n ih => rw [cnt_succ, ← ih]; rfl, fun _ _ h => (nomatch h), fun _ _ => rfl, fun _ _ => rfl⟩
theorem cst_nil (G : Gr) : Cst G (fun _ => none) (fun _ => 0) := ⟨fun _ _ h => (nomatch h), fun _ _ _ _ h => (nomatch h), fun _ _ _ h => absurd rfl h⟩
theorem ColIs.none_b {kvs : List (Int × Value)} {cf : CF} {n i : Nat} (h : ColIs kvs cf n) (hi : cf i = none) : (valueAt kvs (i : Int)).isSome = false := by rw [h.miss i hi]; rfl
theorem ColIs.some_b {kvs : List (Int × Value)} {cf : CF} {n i c : Nat} (h : ColIs kvs cf n) (hi : cf i = some c) : (valueAt kvs (i : Int)).isSome = true := by obtain ⟨t, e⟩ := h.get i c hi; rw [e]; rfl
theorem ColIs.small {kvs : List (Int × Value)} {cf : CF} {n : Nat} (h : ColIs kvs cf n) (hn : n ≤ 5) : kvs.length ≤ sizeLine := by
  have := cnt_le cf n; rw [h.len]; exact Nat.le_trans (Nat.le_trans this hn) (Nat.le_of_ble_eq_true rfl)
theorem adj_len {G : Gr} {i : Nat} (hok : GOk G) (hi : i < G.n) : (G.adj i).length ≤ G.n := by
  have := nodup_lt_length G.n ((G.adj i).map (·.1)) (hok.nodup i hi) fun x hx => by
    obtain ⟨p, hp, rfl⟩ := List.mem_map.mp hx
    exact hok.lt i hi p hp
  rwa [List.length_map] at this
theorem kl_last_snoc (p : List Value) (y : Value) : kl_last (p ++ [y]) = some (p, y) := by
  induction p with
  | nil => rfl
  | cons x r ih =>
    show (match kl_last (r ++ [y]) with | some (p, y) => some (x :: p, y) | none => some ([], x)) = _
    rw [ih]
theorem popS {w : World} {A : Around} {E : Value → Shared → Prop} {s : Shared} {h₀ : Heap} {L l : Addr} {m : Str → Option Value} {news l₀ : List (Addr × Obj)} {p : List Value} {y : Value} {n : Nat} {Q : Value → Shared → Prop} (_h0 : (l, lst (p ++ [y]) n) ∈ l₀) (S : St h₀ L m news s.heap) (hm : (l, lst (p ++ [y]) n) ∈ news) (hf : (p ++ [y]).length ≤ 1000000)
    (h : ∀ s', Rest s s' → St h₀ L m (put l (lst p (n + 1)) news) s'.heap → (l, lst p (n + 1)) ∈ put l (lst p (n + 1)) news → Q y s') : wpAny (model PP w) A (call (.builtin "list.pop") [.ref l]) Q E s := by
  refine kl_pop (p := p) (y := y) S.F S.N (its := (p ++ [y]).toArray) (kl_last_snoc p y) (upd_put S.D hm) (Nat.le_trans hf (by rw [sizeLine_eq]; omega)) fun h' F' N' => ?_
  refine h { s with heap := h' } ⟨rfl, rfl⟩ ⟨F', N', put_nodup S.D, S.low.1, fun q hq => ?_⟩ (mem_put_self hm)
  obtain ⟨a, z⟩ := q
  rcases of_mem_put hq with ⟨rfl, rfl⟩ | ⟨_, hq⟩
  · exact (S.low.2 _ hm : 1 < a)
  · exact S.low.2 _ hq
theorem getPopS {w : World} {A : Around} {E : Value → Shared → Prop} {s : Shared} {h₀ : Heap} {L l : Addr} {m : Str → Option Value} {news l₀ : List (Addr × Obj)} {vs : List Value} {n : Nat} {Q : Value × List Value → Shared → Prop} {pl : Sem Bool} (_h0 : (l, lst vs n) ∈ l₀) (S : St h₀ L m news s.heap) (hm : (l, lst vs n) ∈ news)
    (h : Q (.builtin "list.pop", [.ref l]) s) : wpAny (model PP w) A (getMethod (.ref l) (Str.ofString "pop") pl) Q E s :=
  getMethod_builtin ⟨_, (S.N _ hm).1, rfl⟩ PySem.F.plainAttrs_list PySem.F.slot_list_pop PySem.F.type_list_pop (fun a e => by cases e; exact ⟨_, (S.N _ hm).1, rfl⟩) h
theorem IntL.unsnoc {vs : List Value} {ns : List Nat} (h : IntL vs ns) (hne : ns ≠ []) : ∃ p t q x, vs = p ++ [.int (x : Nat) t] ∧ ns = q ++ [x] ∧ IntL p q := by
  have hl := h.1
  have hv : vs ≠ [] := fun e => by rw [e] at hl; exact hne (List.length_eq_zero_iff.mp hl.symm)
  obtain ⟨p, y, rfl⟩ : ∃ p y, vs = p ++ [y] := ⟨vs.dropLast, vs.getLast hv, (List.dropLast_concat_getLast hv).symm⟩
  obtain ⟨q, x, rfl⟩ : ∃ q x, ns = q ++ [x] := ⟨ns.dropLast, ns.getLast hne, (List.dropLast_concat_getLast hne).symm⟩
  have hpq : p.length = q.length := by simpa using hl
  obtain ⟨z, t, hz, rfl⟩ := h.2 p.length y (by simp)
  rw [hpq] at hz
  simp at hz
  subst hz
  refine ⟨p, t, q, x, rfl, rfl, hpq, fun k v hk => ?_⟩
  have hkl : k < p.length := (List.getElem?_eq_some_iff.mp hk).1
  obtain ⟨z', t', h1, h2⟩ := h.2 k v (by rw [List.getElem?_append_left hkl]; exact hk)
  exact ⟨z', t', by rw [List.getElem?_append_left (by omega)] at h1; exact h1, h2⟩
theorem keepsAll {h₀ g s h : Heap} {L L' : Addr} {m m' : Str → Option Value} {news news' : List (Addr × Obj)} (S0 : St h₀ L m news s) (hg : g = hideAll s (news.map (·.1))) (S : St g L' m' news' h) (hs : ∀ p ∈ news, p ∈ news') :
    ∀ b o, s.get? b = some o → h.get? b = some o := fun b o e => by
  by_cases hb : b ∈ news.map (·.1)
  · obtain ⟨p, hp, rfl⟩ := List.mem_map.mp hb
    have := S0.get hp
    rw [e] at this
    obtain rfl := Option.some.inj this
    exact S.get (hs p hp)
  · exact S.F.keep b o (by rw [hg]; exact hideAll_get _ e hb)
theorem FramesIn.of_hide {l : List Env} {s : Heap} {as : List Addr} (x : FramesIn l (hideAll s as)) : FramesIn l s := fun env he => by
  obtain ⟨hk, L, o, hf, ho, hd⟩ := x env he
  exact ⟨hk, L, o, hf, of_hideAll _ ho, hd⟩
theorem seen_one {l : List (Nat × Addr)} {j : Nat} {p : Nat × Addr} {P : Nat × Addr → Prop} (h : ∀ q ∈ l.take j, P q) (hp : l[j]? = some p) (hx : P p) : ∀ q ∈ l.take (j + 1), P q := by
  rw [List.take_add_one, hp]
  intro q hq
  rcases List.mem_append.mp hq with hq | hq
  · exact h q hq
  · simp at hq; rw [hq]; exact hx

end Mine
end
section
open PySem PySem.W PySem.Calls PyProof.Rows
set_option maxRecDepth 100000
namespace Mine

local macro_rules | `(tactic| tb_start) => `(tactic| first | with_reducible assumption | with_reducible exact Ne.symm (by assumption) | (refine' fresh_ne ?l ?h0 ?h; (case l => with_reducible assumption); (case h0 => with_reducible assumption); (case h => tb_rel)) | (refine' Ne.symm (fresh_ne ?l ?h0 ?h); (case l => with_reducible assumption); (case h0 => with_reducible assumption); (case h => tb_rel)))
local macro_rules | `(tactic| tb_rel) => `(tactic| first | with_reducible assumption | with_reducible exact List.mem_cons_self | (with_reducible refine List.mem_cons_of_mem _ ?_; tb_rel) | (with_reducible refine mem_put_self (o := ?oo) ?hh; case hh => tb_rel) | (with_reducible refine mem_put_ne ?h1 ?h2; (case h1 => tb_rel); (case h2 => tb_start)) | (with_reducible refine List.mem_append_left _ ?_; tb_rel) | (with_reducible refine List.mem_append_right _ ?_; tb_rel))
local macro_rules | `(tactic| k_mem) => `(tactic| tb_rel)
local macro_rules | `(tactic| walk_at "compareOp In int ref") => `(tactic| (k_here; (with_reducible rename St _ _ _ _ _ => kS); (with_reducible rename Rest _ _ => kR); k_dflt (refine' in_D (knd := intKind PP _) ?h0 kS ?hm ?hd ?hk ?hv ?_; (case h0 => with_reducible assumption); (case hm => tb_rel); (case hd => first | with_reducible assumption | with_reducible exact isDict_nil _); (case hk => exact intKind_is _ _ _ _); (case hv => first | with_reducible assumption | with_reducible exact isSome_node _ (by assumption) | with_reducible exact isSome_node_none _ (by assumption) | with_reducible exact valueAt_adjS _ _)); (intro s' hr' kS'); (have kR' := Rest.comp kR hr'); clear kS kR hr'; (have kF := kS'.F); (have kN := kS'.N); (try k_sweep)))
local macro_rules | `(tactic| walk_at "compareOp NotIn int ref") => `(tactic| (k_here; (with_reducible rename St _ _ _ _ _ => kS); (with_reducible rename Rest _ _ => kR); k_dflt (refine' notin_D (knd := intKind PP _) ?h0 kS ?hm ?hd ?hk ?hv ?_; (case h0 => with_reducible assumption); (case hm => tb_rel); (case hd => first | with_reducible assumption | with_reducible exact isDict_nil _); (case hk => exact intKind_is _ _ _ _); (case hv => first | with_reducible assumption | with_reducible exact isSome_node _ (by assumption) | with_reducible exact isSome_node_none _ (by assumption) | with_reducible exact valueAt_adjS _ _)); (intro s' hr' kS'); (have kR' := Rest.comp kR hr'); clear kS kR hr'; (have kF := kS'.F); (have kN := kS'.N); (try k_sweep)))
local macro_rules | `(tactic| walk_at "subscriptTail Name Name ref int") => `(tactic| (k_here; (with_reducible show wpAny _ _ (subscriptTail _ _ (Value.ref _) (Value.int _ _)) _ _ _); (with_reducible rename St _ _ _ _ _ => kS); (with_reducible rename Rest _ _ => kR); k_dflt (refine' sub_D (knd := intKind PP _) ?h0 kS ?hm ?hd ?hk ?hv ?_; (case h0 => with_reducible assumption); (case hm => tb_rel); (case hd => first | with_reducible assumption | with_reducible exact isDict_nil _); (case hk => exact intKind_is _ _ _ _); (case hv => first | with_reducible assumption | with_reducible exact valueAt_node _ (by assumption) | with_reducible exact valueAt_stored _ _ _)); (intro s' hr' kS'); (have kR' := Rest.comp kR hr'); clear kS kR hr'; (have kF := kS'.F); (have kN := kS'.N); (try k_sweep)))
local macro_rules | `(tactic| walk_at "subscriptTail Attribute Name Name ref int") => `(tactic| (k_here; (with_reducible show wpAny _ _ (subscriptTail _ _ (Value.ref _) (Value.int _ _)) _ _ _); (with_reducible rename St _ _ _ _ _ => kS); (with_reducible rename Rest _ _ => kR); k_dflt (refine' sub_D (knd := intKind PP _) ?h0 kS ?hm ?hd ?hk ?hv ?_; (case h0 => with_reducible assumption); (case hm => tb_rel); (case hd => first | with_reducible assumption | with_reducible exact isDict_nil _); (case hk => exact intKind_is _ _ _ _); (case hv => first | with_reducible assumption | with_reducible exact valueAt_node _ (by assumption) | with_reducible exact valueAt_stored _ _ _)); (intro s' hr' kS'); (have kR' := Rest.comp kR hr'); clear kS kR hr'; (have kF := kS'.F); (have kN := kS'.N); (try k_sweep)))
local macro_rules | `(tactic| walk_at "subscriptTail Subscript Attribute Name Name ref int") => `(tactic| (k_here; (with_reducible show wpAny _ _ (subscriptTail _ _ (Value.ref _) (Value.int _ _)) _ _ _); (with_reducible rename St _ _ _ _ _ => kS); (with_reducible rename Rest _ _ => kR); k_dflt (refine' sub_D (knd := intKind PP _) ?h0 kS ?hm ?hd ?hk ?hv ?_; (case h0 => with_reducible assumption); (case hm => tb_rel); (case hd => first | with_reducible assumption | with_reducible exact isDict_nil _); (case hk => exact intKind_is _ _ _ _); (case hv => first | with_reducible assumption | with_reducible exact valueAt_node _ (by assumption) | with_reducible exact valueAt_stored _ _ _)); (intro s' hr' kS'); (have kR' := Rest.comp kR hr'); clear kS kR hr'; (have kF := kS'.F); (have kN := kS'.N); (try k_sweep)))
local macro_rules | `(tactic| walk_at "subscriptTail Subscript Name ref int") => `(tactic| (k_here; (with_reducible show wpAny _ _ (subscriptTail _ _ (Value.ref _) (Value.int _ _)) _ _ _); (with_reducible rename St _ _ _ _ _ => kS); (with_reducible rename Rest _ _ => kR); k_dflt (refine' sub_D (knd := intKind PP _) ?h0 kS ?hm ?hd ?hk ?hv ?_; (case h0 => with_reducible assumption); (case hm => tb_rel); (case hd => first | with_reducible assumption | with_reducible exact isDict_nil _); (case hk => exact intKind_is _ _ _ _); (case hv => first | with_reducible assumption | with_reducible exact valueAt_node _ (by assumption) | with_reducible exact valueAt_stored _ _ _)); (intro s' hr' kS'); (have kR' := Rest.comp kR hr'); clear kS kR hr'; (have kF := kS'.F); (have kN := kS'.N); (try k_sweep)))
local macro_rules | `(tactic| walk_at "storeName") => `(tactic| (k_here; (with_reducible rename St _ _ _ _ _ => kS); (with_reducible rename Rest _ _ => kR); k_dflt (refine' storeS kS ?_ ?h1 ?h2 ?h3; (case h1 => exact rfl); (case h2 => exact rfl); (case h3 => exact rfl)); (intro s' hr' kS'); (have kR' := Rest.comp kR hr'); clear kS kR hr'; (have kF := kS'.F); (have kN := kS'.N); (try k_sweep)))
local macro_rules | `(tactic| walk_at "eval Dict nil nil") => `(tactic| (k_here; (with_reducible rename St _ _ _ _ _ => kS); (with_reducible rename Rest _ _ => kR); k_dflt (refine' dictS kS ?_); (intro d' s' hr' kS' l1); (have hm' := cons_mem kS'); (have kR' := Rest.comp kR hr'); clear kS kR hr'; (have kF := kS'.F); (have kN := kS'.N); (try k_sweep)))
local macro_rules | `(tactic| walk_at "setItem ref int ref") => `(tactic| (k_here; (with_reducible rename St _ _ _ _ _ => kS); (with_reducible rename Rest _ _ => kR); k_dflt (refine' set_D (knd := intKind PP _) ?h0 kS ?hm ?hd ?hk ?hz ?_; (case h0 => with_reducible assumption); (case hm => tb_rel); (case hd => first | with_reducible assumption | with_reducible exact isDict_nil _); (case hk => exact intKind_is _ _ _ _); (case hz => first | with_reducible assumption | exact Nat.le_of_ble_eq_true rfl)); (intro s' o' hr' kS' hd' hm'); (have kR' := Rest.comp kR hr'); clear kS kR hr'; (have kF := kS'.F); (have kN := kS'.N); (try k_sweep)))
local macro_rules | `(tactic| walk_at "delItem ref") => `(tactic| (k_here; (with_reducible rename St _ _ _ _ _ => kS); (with_reducible rename Rest _ _ => kR); k_dflt (refine' del_D (knd := intKind PP _) ?h0 kS ?hm ?hd ?hk ?hz ?hl ?_; (case h0 => with_reducible assumption); (case hm => tb_rel); (case hd => first | with_reducible assumption | with_reducible exact isDict_nil _); (case hk => exact intKind_is _ _ _ _); (case hz => with_reducible assumption); (case hl => with_reducible assumption)); (intro s' o' hr' kS' hd' hm'); (have kR' := Rest.comp kR hr'); clear kS kR hr'; (have kF := kS'.F); (have kN := kS'.N); (try k_sweep)))
local macro_rules | `(tactic| walk_at "call builtin:dict.update") => `(tactic| (k_here; (with_reducible rename St _ _ _ _ _ => kS); (with_reducible rename Rest _ _ => kR); k_dflt (refine' update_nil (knd := strKind PP _) (knd' := strKind PP _) ?h0 ?h1 kS ?hm ?hd ?hme ?he ?hde ?_; (case h0 => with_reducible assumption); (case h1 => with_reducible assumption); (case hm => tb_rel); (case hd => first | with_reducible assumption | with_reducible exact isDict_nil _); (case hme => tb_rel); (case he => first | with_reducible assumption | with_reducible exact isDict_nil _); (case hde => tb_start)); (intro s' hr' kS'); (have kR' := Rest.comp kR hr'); clear kS kR hr'; (have kF := kS'.F); (have kN := kS'.N); (try k_sweep)))
local macro_rules | `(tactic| walk_at "call builtin:dict.get") => `(tactic| (k_here; (with_reducible show wpAny _ _ (call _ [_, _, _]) _ _ _); (with_reducible rename St _ _ _ _ _ => kS); (with_reducible rename Rest _ _ => kR); k_dflt (refine' get2_D (knd := intKind PP _) ?h0 kS ?hm ?hd ?hk ?hv ?_; (case h0 => with_reducible assumption); (case hm => tb_rel); (case hd => first | with_reducible assumption | with_reducible exact isDict_nil _); (case hk => exact intKind_is _ _ _ _); (case hv => first | exact getD_of_none (by assumption) | exact getD_of_some (by assumption))); (intro s' hr' kS'); (have kR' := Rest.comp kR hr'); clear kS kR hr'; (have kF := kS'.F); (have kN := kS'.N); (try k_sweep)))
local macro_rules | `(tactic| walk_at "getMethod ref") => `(tactic| (k_here; k_dflt (first
  | ((with_reducible show wpAny _ _ (getMethod (Value.ref _) (Str.ofString "update") _) _ _ _); refine' getM_DU (knd := strKind PP _) ?h0 ?S ?hm ?hd ?_; (case h0 => with_reducible assumption); (case S => assumption); (case hm => tb_rel); (case hd => first | with_reducible assumption | with_reducible exact isDict_nil _))
  | ((with_reducible show wpAny _ _ (getMethod (Value.ref _) (Str.ofString "get") _) _ _ _); refine' getM_DG (knd := intKind PP _) ?h0 ?S ?hm ?hd ?_; (case h0 => with_reducible assumption); (case S => assumption); (case hm => tb_rel); (case hd => first | with_reducible assumption | with_reducible exact isDict_nil _)))))
local macro_rules | `(tactic| walk_at "LeaveK") => `(tactic| ((with_reducible rename St _ _ _ _ _ => kS); (refine leaveS (by assumption) kS ?_); (intro kS'); clear kS; (try dsimp only)))
local macro_rules | `(tactic| walk_at "newTuple") => `(tactic| (k_here; (with_reducible rename St _ _ _ _ _ => kS); (with_reducible rename Rest _ _ => kR); k_dflt (refine' tupS kS ?_ ?hz; (case hz => size_fits)); (intro t' s' hr' kS' l1); (have hm' := cons_mem kS'); (have kR' := Rest.comp kR hr'); clear kS kR hr'; (have kF := kS'.F); (have kN := kS'.N); (try k_sweep)))
local macro_rules | `(tactic| walk_at "newList") => `(tactic| (k_here; (with_reducible rename St _ _ _ _ _ => kS); (with_reducible rename Rest _ _ => kR); k_dflt (refine' listS kS ?_ ?hz; (case hz => size_fits)); (intro t' s' hr' kS' l1); (have hm' := cons_mem kS'); (have kR' := Rest.comp kR hr'); clear kS kR hr'; (have kF := kS'.F); (have kN := kS'.N); (try k_sweep)))
local macro_rules | `(tactic| walk_at "unpackItems ref") => `(tactic| (k_here; (with_reducible rename Cx _ _ _ _ _ => kC); (with_reducible rename St _ _ _ _ _ => kS); (with_reducible rename Rest _ _ => kR); k_dflt (refine' unpackS ?h0 kS ?hm (Cx.hh kC) ?hn ?_; (case h0 => with_reducible assumption); (case hm => tb_rel); (case hn => exact rfl)); (intro s' hr' kS'); (have kR' := Rest.comp kR hr'); clear kS kR hr'; (have kF := kS'.F); (have kN := kS'.N); (try k_sweep)))
local macro_rules | `(tactic| walk_at "compareOp NotEq int int") => `(tactic| first | with_reducible refine ne_int_t (by with_reducible assumption) ?_ | with_reducible refine ne_int_f (by with_reducible assumption) ?_)
local macro_rules | `(tactic| walk_at "compareOp Eq int int") => `(tactic| first | with_reducible refine eq_int_t (by with_reducible assumption) ?_ | with_reducible refine eq_int_f (by with_reducible assumption) ?_)
local macro_rules | `(tactic| walk_at "setAttr ref") => `(tactic| (k_here; (with_reducible rename Cx _ _ _ _ _ => kC); (with_reducible rename St _ _ _ _ _ => kS); (with_reducible rename Rest _ _ => kR); k_dflt (refine' setAttrS kC kS ?h1 ?h2 ?k6 ?k7 ?k8 ?k9 ?k10 ?k11 ?k13 ?_; (case h1 => tb_rel); (case h2 => tb_rel); (case k6 => k_is); (case k7 => k_is); (case k8 => k_is); (case k9 => k_is); (case k10 => k_get); (case k11 => k_put); (case k13 => exact Nat.le_of_ble_eq_true rfl)); (intro s' hr' kS' hm'); (have kR' := Rest.comp kR hr'); clear kS kR hr'; (have kF := kS'.F); (have kN := kS'.N); (try k_sweep)))

theorem iterCallS {w : World} {A : Around} {E : Value → Shared → Prop} {s : Shared} {h₀ : Heap} {L d : Addr} {m : Str → Option Value} {news l₀ : List (Addr × Obj)} {K : Type} [DecidableEq K] {knd : KeyKind PP w K} {o : Obj} {kvs : List (K × Value)} {Q : Value → Shared → Prop}
    (_h0 : (d, o) ∈ l₀) (S : St h₀ L m news s.heap) (hm : (d, o) ∈ news) (hd : o.IsDictOf knd kvs)
    (h : ∀ I oI ep s', Rest s s' → St h₀ L m ((I, oI) :: news) s'.heap → KdkIter oI d 0 kvs.length ep → KdkAt knd o kvs ep → Q (.ref I) s') : wpAny (model PP w) A (call (.builtin "iter") [.ref d]) Q E s := by
  obtain ⟨ep, ha⟩ := KdkAt.of hd
  refine call_function_entry (by decide +kernel) (by decide +kernel) kdk_entry_iter (kdk_args_iter _) ?_
  unfold Builtin.«iter»
  refine wpAny_bind (m := someArgs "iter" 1 2 _) (wpAny_of_eq (a := [Value.ref d]) (by first | rfl | kernel_rfl!) ?_)
  show wpAny _ _ (pyIter (.ref d) >>= _) _ _ _
  refine wpAny_bind (wpAny_pyIter_dict (S.notSys hm) (ha.dictAt (S.get hm)) ?_)
  exact wpAny_pure ⟨_, rfl, h _ _ ep { s with heap := _ } ⟨rfl, rfl⟩ (S.push _) ⟨rfl, rfl⟩ ha⟩
local macro_rules | `(tactic| walk_at "call builtin:iter") => `(tactic| (k_here; (with_reducible rename St _ _ _ _ _ => kS); (with_reducible rename Rest _ _ => kR); k_dflt (refine' iterCallS (knd := intKind PP _) ?h0 kS ?hm ?hd ?_; (case h0 => with_reducible assumption); (case hm => tb_rel); (case hd => with_reducible assumption)); (intro I' oI' ep' s' hr' kS' hi' hk'); (have kR' := Rest.comp kR hr'); clear kS kR hr'; (have kF := kS'.F); (have kN := kS'.N); (try k_sweep)))
local macro_rules | `(tactic| walk_at "call builtin:len") => `(tactic| (k_here; (with_reducible rename St _ _ _ _ _ => kS); (with_reducible rename Rest _ _ => kR); k_dflt (refine' len_D (knd := intKind PP _) ?h0 kS ?hm ?hd ?hz ?_; (case h0 => with_reducible assumption); (case hm => tb_rel); (case hd => with_reducible assumption); (case hz => with_reducible assumption)); (intro s' t' hr' kS'); (have kR' := Rest.comp kR hr'); clear kS kR hr'; (have kF := kS'.F); (have kN := kS'.N); (try k_sweep)))
set_option maxHeartbeats 8000000 in
theorem len_c {w : World} {A : Around} {s : Shared} {h₀ : Heap} {env : Env} {L : Addr} {a : GA} {G : Gr} {m : Str → Option Value} {gl rest : List (Addr × Obj)} {R : Result → Shared → Prop}
  (C : Cx w A env L h₀) (S : St h₀ L m (gl ++ rest) s.heap) (H : GraphIn w gl a G) {g : Addr} (hg : a.g = g) (hn : G.n ≤ 900)
  (hroom : A.depth < recursionLimit) (h : ∀ s' t, Rest s s' → St h₀ L m (gl ++ rest) s'.heap → R (.ok (.ret (.int (G.n : Nat) t))) s') :
  codeAny (model PP w) A (.call (.ref 196) ⟨[.ref g], []⟩) R s := by
  subst hg
  refine enter (binds := [(Str.ofString "self", .ref a.g)]) C S (by k_is) (by k_is) (BindsTo.of_eq rfl) (locs rfl) (fun g₀ L' s₁ hr C' S' => ?_) hroom
  have hL := S.low.1
  clear C S
  have F := S'.F
  have N := S'.N
  have X := C'.X
  obtain ⟨mean, mg, mb, T⟩ := C'.T
  have H1 := H.inst
  obtain ⟨t1, t2, t3, gr, H2⟩ := H.dict
  obtain ⟨oA, H3, H3d⟩ := H.node
  have hl : (nodeD G.n a.aN).length = G.n := by simp [nodeD]
  have hz : ((nodeD G.n a.aN).length : Int) < 2 ^ 63 := by omega
  iterate 12 (first | walk1 | (dsimp only; walk1))
  rename St _ _ _ _ _ => kS
  rw [hl]
  exact h _ _ (by assumption) kS
set_option maxHeartbeats 8000000 in
theorem iter_c {w : World} {A : Around} {s : Shared} {h₀ : Heap} {env : Env} {L : Addr} {a : GA} {G : Gr} {m : Str → Option Value} {gl rest : List (Addr × Obj)} {R : Result → Shared → Prop}
  (C : Cx w A env L h₀) (S : St h₀ L m (gl ++ rest) s.heap) (H : GraphIn w gl a G) {g : Addr} (hg : a.g = g)
  (hroom : A.depth < recursionLimit) (h : ∀ s' I oI oD ep, Rest s s' → St h₀ L m ((I, oI) :: (gl ++ rest)) s'.heap → (a.nd, oD) ∈ gl → KdkIter oI a.nd 0 (nodeD G.n a.aN).length ep → KdkAt (intKind PP w) oD (nodeD G.n a.aN) ep → R (.ok (.ret (.ref I))) s') :
  codeAny (model PP w) A (.call (.ref 182) ⟨[.ref g], []⟩) R s := by
  subst hg
  refine enter (binds := [(Str.ofString "self", .ref a.g)]) C S (by k_is) (by k_is) (BindsTo.of_eq rfl) (locs rfl) (fun g₀ L' s₁ hr C' S' => ?_) hroom
  have hL := S.low.1
  clear C S
  have F := S'.F
  have N := S'.N
  have X := C'.X
  obtain ⟨mean, mg, mb, T⟩ := C'.T
  have H1 := H.inst
  obtain ⟨t1, t2, t3, gr, H2⟩ := H.dict
  obtain ⟨oA, H3, H3d⟩ := H.node
  iterate 12 (first | walk1 | (dsimp only; walk1))
  rename St _ _ _ _ _ => kS
  exact h _ _ _ _ _ (by assumption) kS H3 (by assumption) (by assumption)
set_option maxHeartbeats 8000000 in
theorem getitem_c {w : World} {A : Around} {s : Shared} {h₀ : Heap} {env : Env} {L : Addr} {a : GA} {G : Gr} {m : Str → Option Value} {gl rest : List (Addr × Obj)} {R : Result → Shared → Prop} {u : Nat} {tu : Tok}
  (C : Cx w A env L h₀) (S : St h₀ L m (gl ++ rest) s.heap) (H : GraphIn w gl a G) {g : Addr} (hg : a.g = g) (hu : u < G.n)
  (hroom : A.depth < recursionLimit) (h : ∀ s', Rest s s' → St h₀ L m (gl ++ rest) s'.heap → R (.ok (.ret (.ref (a.aA u)))) s') :
  codeAny (model PP w) A (.call (.ref 203) ⟨[.ref g, .int u tu], []⟩) R s := by
  subst hg
  refine enter (binds := [(Str.ofString "self", .ref a.g), (Str.ofString "n", .int u tu)]) C S (by k_is) (by k_is) (BindsTo.of_eq rfl) (locs rfl) (fun g₀ L' s₁ hr C' S' => ?_) hroom
  have hL := S.low.1
  clear C S
  have F := S'.F
  have N := S'.N
  have X := C'.X
  obtain ⟨mean, mg, mb, T⟩ := C'.T
  have H1 := H.inst
  obtain ⟨t1, t2, t3, gr, H2⟩ := H.dict
  obtain ⟨oA, H3, H3d⟩ := H.adjO
  iterate 9 (first | walk1 | (dsimp only; walk1))
  rename St _ _ _ _ _ => kS
  exact h _ (by assumption) kS
set_option maxHeartbeats 8000000 in
theorem neighbors_c {w : World} {A : Around} {s : Shared} {h₀ : Heap} {env : Env} {L : Addr} {a : GA} {G : Gr} {m : Str → Option Value} {gl rest : List (Addr × Obj)} {R : Result → Shared → Prop} {u : Nat} {tu : Tok}
  (C : Cx w A env L h₀) (S : St h₀ L m (gl ++ rest) s.heap) (H : GraphIn w gl a G) {g : Addr} (hg : a.g = g) (hu : u < G.n)
  (hroom : A.depth < recursionLimit) (h : ∀ s' I oI oD ep, Rest s s' → St h₀ L m ((I, oI) :: (gl ++ rest)) s'.heap → (a.aA u, oD) ∈ gl → KdkIter oI (a.aA u) 0 (adjD (G.adj u)).length ep → KdkAt (intKind PP w) oD (adjD (G.adj u)) ep → R (.ok (.ret (.ref I))) s') :
  codeAny (model PP w) A (.call (.ref 267) ⟨[.ref g, .int u tu], []⟩) R s := by
  subst hg
  refine enter (binds := [(Str.ofString "self", .ref a.g), (Str.ofString "n", .int u tu)]) C S (by k_is) (by k_is) (BindsTo.of_eq rfl) (locs rfl) (fun g₀ L' s₁ hr C' S' => ?_) hroom
  have hL := S.low.1
  clear C S
  have F := S'.F
  have N := S'.N
  have X := C'.X
  obtain ⟨mean, mg, mb, T⟩ := C'.T
  have H1 := H.inst
  obtain ⟨t1, t2, t3, gr, H2⟩ := H.dict
  obtain ⟨oA, H3, H3d⟩ := H.adjO
  obtain ⟨oU, H4, H4d⟩ := H.nbr u hu
  iterate 26 (first | walk1 | (dsimp only; walk1))
  rename St _ _ _ _ _ => kS
  exact h _ _ _ _ _ (by assumption) kS H4 (by assumption) (by assumption)

end Mine
end
section
open PySem PySem.W PySem.Calls PyProof.Rows
set_option maxRecDepth 100000
namespace Mine

local macro_rules | `(tactic| tb_start) => `(tactic| first | with_reducible assumption | with_reducible exact Ne.symm (by assumption) | (refine' fresh_ne ?l ?h0 ?h; (case l => with_reducible assumption); (case h0 => with_reducible assumption); (case h => tb_rel)) | (refine' Ne.symm (fresh_ne ?l ?h0 ?h); (case l => with_reducible assumption); (case h0 => with_reducible assumption); (case h => tb_rel)))
local macro_rules | `(tactic| tb_rel) => `(tactic| first | with_reducible assumption | with_reducible exact List.mem_cons_self | (with_reducible refine List.mem_cons_of_mem _ ?_; tb_rel) | (with_reducible refine mem_put_self (o := ?oo) ?hh; case hh => tb_rel) | (with_reducible refine mem_put_ne ?h1 ?h2; (case h1 => tb_rel); (case h2 => tb_start)) | (with_reducible refine List.mem_append_left _ ?_; tb_rel) | (with_reducible refine List.mem_append_right _ ?_; tb_rel))
local macro_rules | `(tactic| k_mem) => `(tactic| tb_rel)
local macro_rules | `(tactic| walk_at "compareOp In int ref") => `(tactic| (k_here; (with_reducible rename St _ _ _ _ _ => kS); (with_reducible rename Rest _ _ => kR); k_dflt (refine' in_D (knd := intKind PP _) ?h0 kS ?hm ?hd ?hk ?hv ?_; (case h0 => with_reducible assumption); (case hm => tb_rel); (case hd => first | with_reducible assumption | with_reducible exact isDict_nil _); (case hk => exact intKind_is _ _ _ _); (case hv => first | with_reducible assumption | with_reducible exact isSome_node _ (by assumption) | with_reducible exact isSome_node_none _ (by assumption) | with_reducible exact valueAt_adjS _ _)); (intro s' hr' kS'); (have kR' := Rest.comp kR hr'); clear kS kR hr'; (have kF := kS'.F); (have kN := kS'.N); (try k_sweep)))
local macro_rules | `(tactic| walk_at "compareOp NotIn int ref") => `(tactic| (k_here; (with_reducible rename St _ _ _ _ _ => kS); (with_reducible rename Rest _ _ => kR); k_dflt (refine' notin_D (knd := intKind PP _) ?h0 kS ?hm ?hd ?hk ?hv ?_; (case h0 => with_reducible assumption); (case hm => tb_rel); (case hd => first | with_reducible assumption | with_reducible exact isDict_nil _); (case hk => exact intKind_is _ _ _ _); (case hv => first | with_reducible assumption | with_reducible exact isSome_node _ (by assumption) | with_reducible exact isSome_node_none _ (by assumption) | with_reducible exact valueAt_adjS _ _)); (intro s' hr' kS'); (have kR' := Rest.comp kR hr'); clear kS kR hr'; (have kF := kS'.F); (have kN := kS'.N); (try k_sweep)))
local macro_rules | `(tactic| walk_at "subscriptTail Name Name ref int") => `(tactic| (k_here; (with_reducible show wpAny _ _ (subscriptTail _ _ (Value.ref _) (Value.int _ _)) _ _ _); (with_reducible rename St _ _ _ _ _ => kS); (with_reducible rename Rest _ _ => kR); k_dflt (refine' sub_D (knd := intKind PP _) ?h0 kS ?hm ?hd ?hk ?hv ?_; (case h0 => with_reducible assumption); (case hm => tb_rel); (case hd => first | with_reducible assumption | with_reducible exact isDict_nil _); (case hk => exact intKind_is _ _ _ _); (case hv => first | with_reducible assumption | with_reducible exact valueAt_node _ (by assumption) | with_reducible exact valueAt_stored _ _ _)); (intro s' hr' kS'); (have kR' := Rest.comp kR hr'); clear kS kR hr'; (have kF := kS'.F); (have kN := kS'.N); (try k_sweep)))
local macro_rules | `(tactic| walk_at "subscriptTail Attribute Name Name ref int") => `(tactic| (k_here; (with_reducible show wpAny _ _ (subscriptTail _ _ (Value.ref _) (Value.int _ _)) _ _ _); (with_reducible rename St _ _ _ _ _ => kS); (with_reducible rename Rest _ _ => kR); k_dflt (refine' sub_D (knd := intKind PP _) ?h0 kS ?hm ?hd ?hk ?hv ?_; (case h0 => with_reducible assumption); (case hm => tb_rel); (case hd => first | with_reducible assumption | with_reducible exact isDict_nil _); (case hk => exact intKind_is _ _ _ _); (case hv => first | with_reducible assumption | with_reducible exact valueAt_node _ (by assumption) | with_reducible exact valueAt_stored _ _ _)); (intro s' hr' kS'); (have kR' := Rest.comp kR hr'); clear kS kR hr'; (have kF := kS'.F); (have kN := kS'.N); (try k_sweep)))
local macro_rules | `(tactic| walk_at "subscriptTail Subscript Attribute Name Name ref int") => `(tactic| (k_here; (with_reducible show wpAny _ _ (subscriptTail _ _ (Value.ref _) (Value.int _ _)) _ _ _); (with_reducible rename St _ _ _ _ _ => kS); (with_reducible rename Rest _ _ => kR); k_dflt (refine' sub_D (knd := intKind PP _) ?h0 kS ?hm ?hd ?hk ?hv ?_; (case h0 => with_reducible assumption); (case hm => tb_rel); (case hd => first | with_reducible assumption | with_reducible exact isDict_nil _); (case hk => exact intKind_is _ _ _ _); (case hv => first | with_reducible assumption | with_reducible exact valueAt_node _ (by assumption) | with_reducible exact valueAt_stored _ _ _)); (intro s' hr' kS'); (have kR' := Rest.comp kR hr'); clear kS kR hr'; (have kF := kS'.F); (have kN := kS'.N); (try k_sweep)))
local macro_rules | `(tactic| walk_at "subscriptTail Subscript Name ref int") => `(tactic| (k_here; (with_reducible show wpAny _ _ (subscriptTail _ _ (Value.ref _) (Value.int _ _)) _ _ _); (with_reducible rename St _ _ _ _ _ => kS); (with_reducible rename Rest _ _ => kR); k_dflt (refine' sub_D (knd := intKind PP _) ?h0 kS ?hm ?hd ?hk ?hv ?_; (case h0 => with_reducible assumption); (case hm => tb_rel); (case hd => first | with_reducible assumption | with_reducible exact isDict_nil _); (case hk => exact intKind_is _ _ _ _); (case hv => first | with_reducible assumption | with_reducible exact valueAt_node _ (by assumption) | with_reducible exact valueAt_stored _ _ _)); (intro s' hr' kS'); (have kR' := Rest.comp kR hr'); clear kS kR hr'; (have kF := kS'.F); (have kN := kS'.N); (try k_sweep)))
local macro_rules | `(tactic| walk_at "storeName") => `(tactic| (k_here; (with_reducible rename St _ _ _ _ _ => kS); (with_reducible rename Rest _ _ => kR); k_dflt (refine' storeS kS ?_ ?h1 ?h2 ?h3; (case h1 => exact rfl); (case h2 => exact rfl); (case h3 => exact rfl)); (intro s' hr' kS'); (have kR' := Rest.comp kR hr'); clear kS kR hr'; (have kF := kS'.F); (have kN := kS'.N); (try k_sweep)))
local macro_rules | `(tactic| walk_at "eval Dict nil nil") => `(tactic| (k_here; (with_reducible rename St _ _ _ _ _ => kS); (with_reducible rename Rest _ _ => kR); k_dflt (refine' dictS kS ?_); (intro d' s' hr' kS' l1); (have hm' := cons_mem kS'); (have kR' := Rest.comp kR hr'); clear kS kR hr'; (have kF := kS'.F); (have kN := kS'.N); (try k_sweep)))
local macro_rules | `(tactic| walk_at "setItem ref int ref") => `(tactic| (k_here; (with_reducible rename St _ _ _ _ _ => kS); (with_reducible rename Rest _ _ => kR); k_dflt (refine' set_D (knd := intKind PP _) ?h0 kS ?hm ?hd ?hk ?hz ?_; (case h0 => with_reducible assumption); (case hm => tb_rel); (case hd => first | with_reducible assumption | with_reducible exact isDict_nil _); (case hk => exact intKind_is _ _ _ _); (case hz => first | with_reducible assumption | exact Nat.le_of_ble_eq_true rfl)); (intro s' o' hr' kS' hd' hm'); (have kR' := Rest.comp kR hr'); clear kS kR hr'; (have kF := kS'.F); (have kN := kS'.N); (try k_sweep)))
local macro_rules | `(tactic| walk_at "delItem ref") => `(tactic| (k_here; (with_reducible rename St _ _ _ _ _ => kS); (with_reducible rename Rest _ _ => kR); k_dflt (refine' del_D (knd := intKind PP _) ?h0 kS ?hm ?hd ?hk ?hz ?hl ?_; (case h0 => with_reducible assumption); (case hm => tb_rel); (case hd => first | with_reducible assumption | with_reducible exact isDict_nil _); (case hk => exact intKind_is _ _ _ _); (case hz => with_reducible assumption); (case hl => with_reducible assumption)); (intro s' o' hr' kS' hd' hm'); (have kR' := Rest.comp kR hr'); clear kS kR hr'; (have kF := kS'.F); (have kN := kS'.N); (try k_sweep)))
local macro_rules | `(tactic| walk_at "call builtin:dict.update") => `(tactic| (k_here; (with_reducible rename St _ _ _ _ _ => kS); (with_reducible rename Rest _ _ => kR); k_dflt (refine' update_nil (knd := strKind PP _) (knd' := strKind PP _) ?h0 ?h1 kS ?hm ?hd ?hme ?he ?hde ?_; (case h0 => with_reducible assumption); (case h1 => with_reducible assumption); (case hm => tb_rel); (case hd => first | with_reducible assumption | with_reducible exact isDict_nil _); (case hme => tb_rel); (case he => first | with_reducible assumption | with_reducible exact isDict_nil _); (case hde => tb_start)); (intro s' hr' kS'); (have kR' := Rest.comp kR hr'); clear kS kR hr'; (have kF := kS'.F); (have kN := kS'.N); (try k_sweep)))
local macro_rules | `(tactic| walk_at "call builtin:dict.get") => `(tactic| (k_here; (with_reducible show wpAny _ _ (call _ [_, _, _]) _ _ _); (with_reducible rename St _ _ _ _ _ => kS); (with_reducible rename Rest _ _ => kR); k_dflt (refine' get2_D (knd := intKind PP _) ?h0 kS ?hm ?hd ?hk ?hv ?_; (case h0 => with_reducible assumption); (case hm => tb_rel); (case hd => first | with_reducible assumption | with_reducible exact isDict_nil _); (case hk => exact intKind_is _ _ _ _); (case hv => first | exact getD_of_none (by assumption) | exact getD_of_some (by assumption))); (intro s' hr' kS'); (have kR' := Rest.comp kR hr'); clear kS kR hr'; (have kF := kS'.F); (have kN := kS'.N); (try k_sweep)))
local macro_rules | `(tactic| walk_at "getMethod ref") => `(tactic| (k_here; k_dflt (first
  | ((with_reducible show wpAny _ _ (getMethod (Value.ref _) (Str.ofString "update") _) _ _ _); refine' getM_DU (knd := strKind PP _) ?h0 ?S ?hm ?hd ?_; (case h0 => with_reducible assumption); (case S => assumption); (case hm => tb_rel); (case hd => first | with_reducible assumption | with_reducible exact isDict_nil _))
  | ((with_reducible show wpAny _ _ (getMethod (Value.ref _) (Str.ofString "get") _) _ _ _); refine' getM_DG (knd := intKind PP _) ?h0 ?S ?hm ?hd ?_; (case h0 => with_reducible assumption); (case S => assumption); (case hm => tb_rel); (case hd => first | with_reducible assumption | with_reducible exact isDict_nil _)))))
local macro_rules | `(tactic| walk_at "LeaveK") => `(tactic| ((with_reducible rename St _ _ _ _ _ => kS); (refine leaveS (by assumption) kS ?_); (intro kS'); clear kS; (try dsimp only)))
local macro_rules | `(tactic| walk_at "newTuple") => `(tactic| (k_here; (with_reducible rename St _ _ _ _ _ => kS); (with_reducible rename Rest _ _ => kR); k_dflt (refine' tupS kS ?_ ?hz; (case hz => size_fits)); (intro t' s' hr' kS' l1); (have hm' := cons_mem kS'); (have kR' := Rest.comp kR hr'); clear kS kR hr'; (have kF := kS'.F); (have kN := kS'.N); (try k_sweep)))
local macro_rules | `(tactic| walk_at "newList") => `(tactic| (k_here; (with_reducible rename St _ _ _ _ _ => kS); (with_reducible rename Rest _ _ => kR); k_dflt (refine' listS kS ?_ ?hz; (case hz => size_fits)); (intro t' s' hr' kS' l1); (have hm' := cons_mem kS'); (have kR' := Rest.comp kR hr'); clear kS kR hr'; (have kF := kS'.F); (have kN := kS'.N); (try k_sweep)))
local macro_rules | `(tactic| walk_at "unpackItems ref") => `(tactic| (k_here; (with_reducible rename Cx _ _ _ _ _ => kC); (with_reducible rename St _ _ _ _ _ => kS); (with_reducible rename Rest _ _ => kR); k_dflt (refine' unpackS ?h0 kS ?hm (Cx.hh kC) ?hn ?_; (case h0 => with_reducible assumption); (case hm => tb_rel); (case hn => exact rfl)); (intro s' hr' kS'); (have kR' := Rest.comp kR hr'); clear kS kR hr'; (have kF := kS'.F); (have kN := kS'.N); (try k_sweep)))
local macro_rules | `(tactic| walk_at "compareOp NotEq int int") => `(tactic| first | with_reducible refine ne_int_t (by with_reducible assumption) ?_ | with_reducible refine ne_int_f (by with_reducible assumption) ?_)
local macro_rules | `(tactic| walk_at "compareOp Eq int int") => `(tactic| first | with_reducible refine eq_int_t (by with_reducible assumption) ?_ | with_reducible refine eq_int_f (by with_reducible assumption) ?_)
local macro_rules | `(tactic| walk_at "setAttr ref") => `(tactic| (k_here; (with_reducible rename Cx _ _ _ _ _ => kC); (with_reducible rename St _ _ _ _ _ => kS); (with_reducible rename Rest _ _ => kR); k_dflt (refine' setAttrS kC kS ?h1 ?h2 ?k6 ?k7 ?k8 ?k9 ?k10 ?k11 ?k13 ?_; (case h1 => tb_rel); (case h2 => tb_rel); (case k6 => k_is); (case k7 => k_is); (case k8 => k_is); (case k9 => k_is); (case k10 => k_get); (case k11 => k_put); (case k13 => exact Nat.le_of_ble_eq_true rfl)); (intro s' hr' kS' hm'); (have kR' := Rest.comp kR hr'); clear kS kR hr'; (have kF := kS'.F); (have kN := kS'.N); (try k_sweep)))


local macro_rules | `(tactic| walk_at "compareOp In int ref") => `(tactic| (k_here; (with_reducible rename St _ _ _ _ _ => kS); (with_reducible rename Rest _ _ => kR); k_dflt (refine' inSetS ?h0 kS ?hm ?hs ?hl ?hb ?_; (case h0 => with_reducible assumption); (case hm => tb_rel); (case hs => with_reducible assumption); (case hl => with_reducible assumption); (case hb => with_reducible assumption)); (intro s' hr' kS'); (have kR' := Rest.comp kR hr'); clear kS kR hr'; (have kF := kS'.F); (have kN := kS'.N); (try k_sweep)))
local macro_rules | `(tactic| walk_at "compareOp NotIn int ref") => `(tactic| (k_here; (with_reducible rename St _ _ _ _ _ => kS); (with_reducible rename Rest _ _ => kR); k_dflt (refine' notinSetS ?h0 kS ?hm ?hs ?hl ?hb ?_; (case h0 => with_reducible assumption); (case hm => tb_rel); (case hs => with_reducible assumption); (case hl => with_reducible assumption); (case hb => with_reducible assumption)); (intro s' hr' kS'); (have kR' := Rest.comp kR hr'); clear kS kR hr'; (have kF := kS'.F); (have kN := kS'.N); (try k_sweep)))
local macro_rules | `(tactic| walk_at "call builtin:set.add") => `(tactic| (k_here; (with_reducible rename St _ _ _ _ _ => kS); (with_reducible rename Rest _ _ => kR); k_dflt (refine' addSetS ?h0 kS ?hm ?hs ?hl ?hb ?_; (case h0 => with_reducible assumption); (case hm => tb_rel); (case hs => with_reducible assumption); (case hl => with_reducible assumption); (case hb => with_reducible assumption)); (intro s' so' hr' kS' hs' hm'); (have kR' := Rest.comp kR hr'); clear kS kR hr'; (have kF := kS'.F); (have kN := kS'.N); (try k_sweep)))
local macro_rules | `(tactic| walk_at "setAdd int") => `(tactic| (k_here; (with_reducible rename St _ _ _ _ _ => kS); (with_reducible rename Rest _ _ => kR); k_dflt (refine' setAddS kS ?hm ?hs ?hl ?hb ?_; (case hm => tb_rel); (case hs => first | with_reducible assumption | with_reducible exact setIs_nil _ _); (case hl => first | with_reducible assumption | exact Nat.zero_le _); (case hb => first | with_reducible assumption | exact List.not_mem_nil)); (intro s' so' hr' kS' hs'); (have kR' := Rest.comp kR hr'); clear kS kR hr'; (have kF := kS'.F); (have kN := kS'.N); (try k_sweep)))
local macro_rules | `(tactic| walk_at "call builtin:len") => `(tactic| (k_here; (with_reducible rename St _ _ _ _ _ => kS); (with_reducible rename Rest _ _ => kR); k_dflt (refine' lenSetS ?h0 kS ?hm ?hs ?hl ?_; (case h0 => with_reducible assumption); (case hm => tb_rel); (case hs => with_reducible assumption); (case hl => with_reducible assumption)); (intro s' t' hr' kS'); (have kR' := Rest.comp kR hr'); clear kS kR hr'; (have kF := kS'.F); (have kN := kS'.N); (try k_sweep)))
local macro_rules | `(tactic| walk_at "getMethod ref") => `(tactic| (k_here; (with_reducible show wpAny _ _ (getMethod (Value.ref _) (Str.ofString "add") _) _ _ _); (with_reducible rename St _ _ _ _ _ => kS); k_dflt (refine' getAddS ?h0 kS ?hm ?hs ?hl ?_; (case h0 => with_reducible assumption); (case hm => tb_rel); (case hs => with_reducible assumption); (case hl => with_reducible assumption))))
local macro_rules | `(tactic| walk_at "eval Set") => `(tactic| (k_here; (with_reducible rename Cx _ _ _ _ _ => kC); (with_reducible rename St _ _ _ _ _ => kS); (with_reducible rename Rest _ _ => kR); k_dflt (refine' setLit1 kC kS ?c ?r ?u ?p ?_; (case c => first | k_is | kernel_rfl!); (case r => kds_road); (case u => kds_road); (case p => kds_road)); (intro d' led' s' hr' kS' l1); (have hm' := cons_mem kS'); (have kR' := Rest.comp kR hr'); clear kS kR hr'; (have kF := kS'.F); (have kN := kS'.N); (try k_sweep)))
local macro_rules | `(tactic| walk_at "call builtin:list.append") => `(tactic| (k_here; (with_reducible rename St _ _ _ _ _ => kS); (with_reducible rename Rest _ _ => kR); k_dflt (refine' appendS ?h0 kS ?hm ?hl ?_; (case h0 => with_reducible assumption); (case hm => tb_rel); (case hl => with_reducible assumption)); (intro s' hr' kS' hm'); (have kR' := Rest.comp kR hr'); clear kS kR hr'; (have kF := kS'.F); (have kN := kS'.N); (try k_sweep)))
local macro_rules | `(tactic| walk_at "truthy ref") => `(tactic| (k_here; (with_reducible rename St _ _ _ _ _ => kS); (with_reducible rename Rest _ _ => kR); k_dflt (refine' truthyListS ?h0 kS ?hm ?hl ?hb ?_; (case h0 => with_reducible assumption); (case hm => tb_rel); (case hl => with_reducible assumption); (case hb => with_reducible assumption)); (intro s' hr' kS'); (have kR' := Rest.comp kR hr'); clear kS kR hr'; (have kF := kS'.F); (have kN := kS'.N); (try k_sweep)))
local macro_rules | `(tactic| walk_at "getMethod ref") => `(tactic| (k_here; (with_reducible show wpAny _ _ (getMethod (Value.ref _) (Str.ofString "append") _) _ _ _); (with_reducible rename St _ _ _ _ _ => kS); k_dflt (refine' getAppendS ?h0 kS ?hm ?_; (case h0 => with_reducible assumption); (case hm => tb_rel))))


/-- reached -/
inductive Reach (G : Gr) (u : Nat) : Nat → Prop
  | refl : Reach G u u
  | step {v w : Nat} : Reach G u v → G.has v w → Reach G u w
structure Found (G : Gr) (src : Nat) (sl : List Nat) : Prop where
  nodup : sl.Nodup
  mem : src ∈ sl
  all : ∀ x ∈ sl, x < G.n ∧ Reach G src x
def Cl (G : Gr) (sl : List Nat) (i : Nat) : Prop := ∀ j, G.has i j → j ∈ sl
theorem Found.len {G : Gr} {src : Nat} {sl : List Nat} (h : Found G src sl) : sl.length ≤ G.n := nodup_lt_length _ _ h.nodup fun x hx => (h.all x hx).1
theorem Found.push {G : Gr} {src : Nat} {sl : List Nat} (h : Found G src sl) {v x : Nat} (hv : v ∈ sl) (hx : x ∉ sl) (hh : G.has v x) (hl : x < G.n) : Found G src (sl ++ [x]) :=
  ⟨by rw [List.nodup_append]; exact ⟨h.nodup, by simp, fun a ha b hb e => by simp at hb; rw [e, hb] at ha; exact hx ha⟩, List.mem_append_left _ h.mem, fun y hy => by
    rcases List.mem_append.mp hy with hy | hy
    · exact h.all y hy
    · simp at hy; rw [hy]; exact ⟨hl, (h.all v hv).2.step hh⟩⟩
theorem adj_key {l : List (Nat × Addr)} {j : Nat} {key : Int} {x : Value} (h : (adjD l)[j]? = some (key, x)) : ∃ p, l[j]? = some p ∧ key = (p.1 : Nat) := by
  unfold adjD at h
  rw [List.getElem?_map] at h
  cases e : l[j]? with
  | none => rw [e] at h; cases h
  | some p => rw [e] at h; simp at h; exact ⟨p, rfl, h.1.symm⟩
theorem take_one {l : List (Nat × Addr)} {j : Nat} {p : Nat × Addr} {sl : List Nat} (h : ∀ q ∈ l.take j, q.1 ∈ sl) (hp : l[j]? = some p) (hx : p.1 ∈ sl) : ∀ q ∈ l.take (j + 1), q.1 ∈ sl := by
  rw [List.take_add_one, hp]
  intro q hq
  rcases List.mem_append.mp hq with hq | hq
  · exact h q hq
  · simp at hq; rw [hq]; exact hx
theorem not_drop {fl : List Nat} {k n i : Nat} (h : fl[k]? = some n) (hd : i ∉ fl.drop (k + 1)) (hd' : i ∈ fl.drop k) : i = n := by
  obtain ⟨hk, e⟩ := List.getElem?_eq_some_iff.mp h
  rw [List.drop_eq_getElem_cons hk, e] at hd'
  rcases List.mem_cons.mp hd' with h | h
  · exact h
  · exact absurd h hd
set_option maxHeartbeats 8000000 in
theorem bfs_c {w : World} {A : Around} {s : Shared} {h₀ : Heap} {env : Env} {L : Addr} {a : GA} {G : Gr} {m : Str → Option Value} {gl rest : List (Addr × Obj)} {R : Result → Shared → Prop} {nn : Int} {tn : Tok} {src : Nat} {tsrc : Tok}
  (C : Cx w A env L h₀) (S : St h₀ L m (gl ++ rest) s.heap) (H : GraphIn w gl a G) {g : Addr} (hg : a.g = g) (hok : GOk G) (hn : G.n ≤ 900) (hsrc : src < G.n)
  (hroom : A.depth < recursionLimit) (h : ∀ s' sa so sl, Rest s s' → St h₀ L m ((sa, so) :: (gl ++ rest)) s'.heap → Above (gl ++ rest) sa → SetIs w so sl → Found G src sl → ((sl.length : Int) = nn ∨ ∀ i ∈ sl, Cl G sl i) → R (.ok (.ret (.ref sa))) s') :
  codeAny (model PP w) A (.call (.ref 42) ⟨[.ref g, .int nn tn, .int (src : Nat) tsrc], []⟩) R s := by
  subst hg
  refine enter (binds := [(Str.ofString "G", .ref a.g), (Str.ofString "n", .int nn tn), (Str.ofString "source", .int (src : Nat) tsrc)]) C S (by k_is) (by k_is) (BindsTo.of_eq rfl) (locs rfl) (fun g₀ L' s₁ hr C' S' => ?_) hroom
  have hL := S.low.1
  clear C S
  have F := S'.F
  have N := S'.N
  have X := C'.X
  obtain ⟨mean, mg, mb, T⟩ := C'.T
  have H1 := H.inst
  obtain ⟨t1, t2, t3, gr, H2⟩ := H.dict
  obtain ⟨oA, H3, H3d⟩ := H.adjO
  iterate 11 (first | walk1 | (dsimp only; walk1))
  rename St _ _ _ _ _ => kS
  rename (SetIs _ _ _) => hs1
  rename (Above (gl ++ rest) _) => hab
  replace kS := St.put_hd kS
  have kF := kS.F
  have kN := kS.N
  iterate 10 (first | walk1 | (dsimp only; walk1))
  rename St _ _ _ _ _ => kS
  rename Rest _ _ => kR
  refine whileN (fun k s' => ∃ FF nl nv c sa so sl fl, Rest s s' ∧ k = 2 * (G.n - sl.length) + (if fl = [] then 0 else 1) ∧
    St g₀ L' (ovr [Str.ofString "thislevel", Str.ofString "v", Str.ofString "w"] FF (fun y => if y = Str.ofString "nextlevel" then some (.ref nl) else if y = Str.ofString "seen" then some (.ref sa) else if y = Str.ofString "adj" then some (.ref a.ad)
        else List.lookup y [(Str.ofString "G", Value.ref a.g), (Str.ofString "n", Value.int nn tn), (Str.ofString "source", Value.int (↑src) tsrc)].reverse)) ((nl, lst nv c) :: (sa, so) :: (gl ++ rest)) s'.heap ∧ Above (gl ++ rest) sa ∧
    SetIs w so sl ∧ IntL nv fl ∧ fl.length ≤ G.n ∧ Found G src sl ∧ (∀ x ∈ fl, x ∈ sl) ∧ (∀ i ∈ sl, i ∉ fl → Cl G sl i)) _
    ⟨_, _, [_], 0, _, _, [src], [src], kR, rfl, kS.ovr _, hab, hs1, IntL.one _ _, by simp; omega, ⟨by simp, by simp, fun x hx => by simp at hx; rw [hx]; exact ⟨hsrc, .refl⟩⟩, by simp, by simp⟩ ?_
  clear kS kR
  rintro k s₂ ⟨FF, nl, nv, c, sa, so, sl, fl, hr, rfl, S, hab, hs, hi, hfl, hf, hsub, hcl⟩
  have F := S.F
  have N := S.N
  have hnl : (nl, lst nv c) ∈ (nl, lst nv c) :: (sa, so) :: (gl ++ rest) := .head _
  have hsa : (sa, so) ∈ (nl, lst nv c) :: (sa, so) :: (gl ++ rest) := .tail _ (.head _)
  have hlv : nv.length ≤ 1000000 := by rw [hi.1]; omega
  have hls : sl.length ≤ 1000 := by have := hf.len; omega
  by_cases hfe : fl = []
  · have hb : (!nv.isEmpty) = false := by rw [hi.isEmpty, hfe]; rfl
    iterate 8 (first | walk1 | (dsimp only; walk1))
    rename St _ _ _ _ _ => kS
    rename Rest _ _ => kR
    exact h _ sa so sl kR kS.tl hab hs hf (.inr fun i hi => hcl i hi (by rw [hfe]; simp))
  · have hb : (!nv.isEmpty) = true := by rw [hi.isEmpty]; cases fl <;> simp_all
    iterate 15 (first | walk1 | (dsimp only; walk1))
    rename St _ _ _ _ _ => kS
    rename Rest _ _ => kR
    rename Cx _ _ _ _ _ => C'
    rename Addr => t'
    refine forC (h₀ := g₀) (L := L') C'.hh ?_
    iterate 1 (first | walk1 | (dsimp only; walk1))
    refine iter_listS kS (.tail _ (.head _)) fun I o s₃ hr₃ S₃ hP => ?_
    have hr₃ := Rest.comp kR hr₃
    clear kS kR
    refine ⟨I, o, _, _, _, _, [Str.ofString "w"], _, _, fun k news g q => ∃ nx xv cx so', news = (t', lst xv cx) :: (nl, lst nv c) :: (sa, so') :: (gl ++ rest) ∧ g = s.gens ∧ q = s.os ∧ SetIs w so' (sl ++ nx) ∧ IntL xv nx ∧ Found G src (sl ++ nx) ∧
      (∀ i ∈ sl, i ∉ fl.drop k → Cl G (sl ++ nx) i), rfl, Iter.list I nl nv c, S₃, hP, ⟨[], [], 0, so, rfl, hr₃.1, hr₃.2, by rw [List.append_nil]; exact hs, IntL.nil, by rw [List.append_nil]; exact hf, by rw [List.append_nil]; exact hcl⟩, ?_, ?_, ?_⟩
    · rintro k news g q ⟨nx, xv, cx, so', rfl, _⟩; exact .tail _ (.head _)
    · rintro k vv FF2 news o' s₄ hk hv ⟨nx, xv, cx, so', rfl, hg, hq, hs', hi', hf', hcl'⟩ hP' S₄
      obtain ⟨n, t, hn', rfl⟩ := hi.2 k vv hv
      have hnm := List.mem_of_getElem? hn'
      have hnG := (hf.all n (hsub n hnm)).1
      obtain ⟨oU, H4, H4d⟩ := H.nbr n hnG
      have hr : Rest s s₄ := ⟨hg, hq⟩
      have F := S₄.F
      have N := S₄.N
      iterate 1 (first | walk1 | (dsimp only; walk1))
      refine forC (h₀ := g₀) (L := L') C'.hh ?_
      iterate 4 (first | walk1 | (dsimp only; walk1))
      rename St _ _ _ _ _ => kS
      rename Rest _ _ => kR
      refine iter_keysS kS (.tail _ (.tail _ (.tail _ (.tail _ (List.mem_append_left _ H4))))) H4d fun I2 o2 ep s₅ hr₅ S₅ hP2 hk2 => ?_
      have hr₅ := Rest.comp kR hr₅
      clear kS kR
      refine ⟨I2, o2, _, _, _, _, [], _, _, fun j news g q => ∃ nx xv cx so', news = (I, o') :: (t', lst xv cx) :: (nl, lst nv c) :: (sa, so') :: (gl ++ rest) ∧ g = s.gens ∧ q = s.os ∧ SetIs w so' (sl ++ nx) ∧ IntL xv nx ∧ Found G src (sl ++ nx) ∧
        (∀ i ∈ sl, i ∉ fl.drop k → Cl G (sl ++ nx) i) ∧ ∀ p ∈ (G.adj n).take j, p.1 ∈ sl ++ nx, rfl, Iter.keys I2 (a.aA n) oU _ ep hk2, S₅, hP2, ⟨nx, xv, cx, so', rfl, hr₅.1, hr₅.2, hs', hi', hf', hcl', by simp⟩, ?_, ?_, ?_⟩
      · rintro j news g q ⟨_, _, _, _, rfl, _⟩; exact .tail _ (.tail _ (.tail _ (.tail _ (List.mem_append_left _ H4))))
      · clear hg hq hs' hi' hf' hcl' S₅
        rintro j vv FF3 news o2' s₆ hj ⟨key, xx, hkx, hkey⟩ ⟨nx, xv, cx, so', rfl, hg, hq, hs', hi', hf', hcl', hdone⟩ hP2' S₆
        obtain ⟨p, hp, rfl⟩ := adj_key hkx
        obtain ⟨tw, rfl⟩ := Value.isInt_shape hkey
        have hr : Rest s s₆ := ⟨hg, hq⟩
        have hpm := List.mem_of_getElem? hp
        have hpG := hok.lt n hnG p hpm
        have F := S₆.F
        have N := S₆.N
        have hm1 : (sa, so') ∈ (I2, o2') :: (I, o') :: (t', lst xv cx) :: (nl, lst nv c) :: (sa, so') :: (gl ++ rest) := by simp
        have hm2 : (t', lst xv cx) ∈ (I2, o2') :: (I, o') :: (t', lst xv cx) :: (nl, lst nv c) :: (sa, so') :: (gl ++ rest) := by simp
        have hls' : (sl ++ nx).length ≤ 1000 := by have := hf'.len; omega
        have hlx : xv.length ≤ 1000000 := by rw [hi'.1]; simp at hls'; omega
        by_cases hx : p.1 ∈ sl ++ nx
        · have hb := decide_eq_true hx
          iterate 10 (first | walk1 | (dsimp only; walk1))
          rename St _ _ _ _ _ => kS
          rename Rest _ _ => kR
          exact ⟨_, _, kS, by (intro y hy; (simp only [List.mem_cons, List.not_mem_nil, or_false, not_or] at hy); simp only [ovr, hy, if_false, or_self, List.mem_cons, List.not_mem_nil, ite_self]), nx, xv, cx, so', rfl, kR.1, kR.2, hs', hi', hf', hcl', take_one hdone hp hx⟩
        · have hb := decide_eq_false hx
          iterate 18 (first | walk1 | (dsimp only; walk1))
          rename St _ _ _ _ _ => kS
          rename (SetIs _ _ (_ ++ [p.1])) => hs''
          replace kS := St.put_at (pre := [(_, _), (_, _), (_, _), (_, _)]) kS
          rename Obj => so''
          have F := kS.F
          have N := kS.N
          have hm2 : (t', lst xv cx) ∈ (I2, o2') :: (I, o') :: (t', lst xv cx) :: (nl, lst nv c) :: (sa, so'') :: (gl ++ rest) := by simp
          iterate 12 (first | walk1 | (dsimp only; walk1))
          rename St _ _ _ _ _ => kS
          rename Rest _ _ => kR
          replace kS := St.put_at (pre := [(_, _), (_, _)]) kS
          refine ⟨_, _, kS, by (intro y hy; (simp only [List.mem_cons, List.not_mem_nil, or_false, not_or] at hy); simp only [ovr, hy, if_false, or_self, List.mem_cons, List.not_mem_nil, ite_self]), nx ++ [p.1], _, _, so'', rfl, kR.1, kR.2, by rw [← List.append_assoc]; exact hs'', hi'.push _ _, by rw [← List.append_assoc]; exact hf'.push (List.mem_append_left _ (hsub n hnm)) hx (List.mem_map.mpr ⟨p, hpm, rfl⟩) hpG, fun i hi hd j hj => ?_, ?_⟩
          · rw [← List.append_assoc]; exact List.mem_append_left _ (hcl' i hi hd j hj)
          · rw [← List.append_assoc]; exact take_one (fun q hq => List.mem_append_left _ (hdone q hq)) hp (by simp)
      · clear hg hq hs' hi' hf' hcl' S₅
        rintro FF3 news s₆ ⟨nx, xv, cx, so', rfl, hg, hq, hs', hi', hf', hcl', hdone⟩ S₆
        have hr : Rest s s₆ := ⟨hg, hq⟩
        have F := S₆.F
        have N := S₆.N
        have hm1 : (sa, so') ∈ (I, o') :: (t', lst xv cx) :: (nl, lst nv c) :: (sa, so') :: (gl ++ rest) := by simp
        have hls' : (sl ++ nx).length ≤ 1000 := by have := hf'.len; omega
        have hcl2 : ∀ i ∈ sl, i ∉ fl.drop (k + 1) → Cl G (sl ++ nx) i := fun i hi hd => by
          by_cases hd' : i ∈ fl.drop k
          · rw [not_drop hn' hd hd']
            intro j hj
            obtain ⟨p, hp, rfl⟩ := List.mem_map.mp hj
            refine hdone p ?_
            rw [show (adjD (G.adj n)).length = (G.adj n).length by simp [adjD], List.take_length]; exact hp
          · exact hcl' i hi hd'
        by_cases hlen : ((sl ++ nx).length : Int) = nn
        · iterate 18 (first | walk1 | (dsimp only; walk1))
          rename St _ _ _ _ _ => kS
          rename Rest _ _ => kR
          exact h _ sa so' (sl ++ nx) kR kS.tl.tl.tl hab hs' hf' (.inl hlen)
        · iterate 16 (first | walk1 | (dsimp only; walk1))
          rename St _ _ _ _ _ => kS
          rename Rest _ _ => kR
          exact ⟨_, _, kS, by (intro y hy; (simp only [List.mem_cons, List.not_mem_nil, or_false, not_or] at hy); simp only [ovr, hy, if_false, or_self, List.mem_cons, List.not_mem_nil, ite_self]), nx, xv, cx, so', rfl, kR.1, kR.2, hs', hi', hf', hcl2⟩
    · rintro FF2 news s₄ ⟨nx, xv, cx, so', rfl, hg, hq, hs', hi', hf', hcl'⟩ S₄
      have hr : Rest s s₄ := ⟨hg, hq⟩
      have F := S₄.F
      have N := S₄.N
      iterate 1 (first | walk1 | (dsimp only; walk1))
      have hlt : 2 * (G.n - (sl ++ nx).length) + (if nx = [] then 0 else 1) < 2 * (G.n - sl.length) + (if fl = [] then 0 else 1) := by
        have h1 := hf'.len
        rw [if_neg hfe]
        rw [List.length_append] at h1 ⊢
        cases nx with
        | nil => simp
        | cons x r => simp at h1 ⊢; omega
      refine ⟨_, hlt, _, t', xv, cx, sa, so', sl ++ nx, nx, hr, rfl, (S₄.agree (xs := [Str.ofString "thislevel", Str.ofString "v", Str.ofString "w"]) ?_).sub ?_, hab, hs', hi', ?_, hf', fun x hx => List.mem_append_right _ hx, fun i hi hni => ?_⟩
      · intro y hy
        simp only [List.mem_cons, List.not_mem_nil, or_false, not_or] at hy
        simp only [ovr, hy, if_false, or_self, List.mem_cons, List.not_mem_nil]
        by_cases hz : y = Str.ofString "nextlevel"
        · rw [if_pos hz, if_pos hz]
        · rw [if_neg hz, if_neg hz, if_neg hz]
      · exact .cons₂ _ (.cons _ (List.Sublist.refl _))
      · have h1 := hf'.len; rw [List.length_append] at h1; omega
      · rcases List.mem_append.mp hi with hi | hi
        · exact hcl' i hi (by rw [‹IntL nv fl›.1, List.drop_length]; simp)
        · exact absurd hi hni

end Mine
end
section
open PySem PySem.W PySem.Calls PyProof.Rows
set_option maxRecDepth 100000
namespace Mine
theorem setIs_congr {w : World} {o : Obj} {l l' : List Nat} (h : SetIs w o l) (hm : ∀ x, x ∈ l ↔ x ∈ l') (hl : l.length = l'.length) : SetIs w o l' := by
  unfold SetIs at *
  rw [← hl]
  rw [show (fun k : Int => decide (∃ x ∈ l', (x : Int) = k)) = fun k => decide (∃ x ∈ l, (x : Int) = k) from by
    funext k; congr 1; apply propext; simp only [hm]]
  exact h
theorem elems_of {w : World} {o : Obj} {l : List Nat} {es : Array (Int × Value)} {ep : Nat} {t : SetTable} (hs : SetIs w o l) (hd : o.data = .set es ep t) (hl : ∀ x ∈ l, x < 5) :
    (∀ e ∈ es.toList, ∃ x ∈ l, ∃ t, e.1 = ((x : Nat) : Int) ∧ e.2 = .int (x : Nat) t) ∧ ∀ x, x ∈ es.toList.map (fun e => e.1.toNat) ↔ x ∈ l := by
  obtain ⟨hex, es', ep', t', hd', hel, hmem, hsz, hf⟩ := hs
  rw [hd] at hd'
  obtain ⟨rfl, rfl, rfl⟩ : es = es' ∧ ep = ep' ∧ t = t' := by injection hd' with a b c; exact ⟨a, b, c⟩
  have key : ∀ e ∈ es.toList, ∃ x ∈ l, ∃ t, e.1 = ((x : Nat) : Int) ∧ e.2 = .int (x : Nat) t := fun e he => by
    obtain ⟨⟨k, hk, hh⟩, _⟩ := hel e he
    have hS := (hmem k).mpr ⟨e, he, hk⟩
    obtain ⟨x, hx, rfl⟩ := of_decide_eq_true hS
    obtain ⟨tk, hv⟩ := Value.isInt_shape hk
    exact ⟨x, hx, tk, by rw [hh]; exact hashInt_small (hl x hx), hv⟩
  refine ⟨key, fun x => ⟨fun hx => ?_, fun hx => ?_⟩⟩
  · obtain ⟨e, he, rfl⟩ := List.mem_map.mp hx
    obtain ⟨y, hy, _, e1, _⟩ := key e he
    rw [e1]; simpa using hy
  · obtain ⟨e, he, hk⟩ := (hmem x).mp (decide_eq_true ⟨x, hx, rfl⟩)
    obtain ⟨y, hy, tk, e1, e2⟩ := key e he
    refine List.mem_map.mpr ⟨e, he, ?_⟩
    rw [e2] at hk
    have hv := (intKind PP w).inj _ _ _ hk (intKind_is PP w (y : Int) tk)
    rw [e1, ← hv]; simp
theorem setMerge_eq (s o : Addr) (each : Sem Unit) : setMerge s o each = (do
  if s == o then return
  let (eo, epoch, to) ← setState o
  if eo.isEmpty then return
  setRoomFor s eo.size
  let (_, _, ts) ← setState s
  match ts.road to with
  | .slotForSlot => storeSet s eo { to with finger := ts.finger, led := ts.led && to.led, moves := ts.moves, plain := ts.plain && to.plain }
  | .clean =>
    let (es, t) ← (do
      let some (t, order) := SetTable.laid ts.mask ts.finger ts.moves (led := ts.led && to.led) (plain := ts.plain && to.plain) (eo.map (·.1)) | unsupported "internal:set-table-without-room"
      let es' := order.filterMap (eo[·]?)
      if es'.size != eo.size then unsupported "internal:set-table-lost-an-element"
      pure (es', t) : Sem (Array (Int × Value) × SetTable))
    storeSet s es t
  | .oneByOne =>
    for (h, x) in ← setWalkUnseen o [s] (some s) do
      let _ ← holding [x] (setAddHashed s x h)
      each
      if (← setState o).2.1 != epoch then unsupported "set.changed-during-merge") := by rfl
section
variable {w : World} {A : Around} {E : Value → Shared → Prop} {s : Shared}
/-- a set object that takes the elements of another, being empty -/
theorem takeOver {oS oO : Obj} {a : Addr} {l : List Nat} {es eo eo' : Array (Int × Value)} {ep epo : Nat} {t to t' : SetTable} {h : Heap} (ho : h.get? a = some oS) (hs : SetIs w oS []) (hd : oS.data = .set es ep t) (hso : SetIs w oO l) (hdo : oO.data = .set eo epo to) (hl : l.length ≤ 1000)
    (hp : List.Perm eo'.toList eo.toList) (hf : t'.fits eo'.size = true) : ∃ o', (h.update a (Obj.putSet eo' t')).get? a = some o' ∧ SetIs w o' l := by
  obtain ⟨hex, _⟩ := hs
  obtain ⟨_, es0, ep0, t0, hd0, hel, hmem, hsz, hf0⟩ := hso
  rw [hdo] at hd0
  obtain ⟨rfl, rfl, rfl⟩ : eo = es0 ∧ epo = ep0 ∧ to = t0 := by injection hd0 with a b c; exact ⟨a, b, c⟩
  have hz : eo'.size = eo.size := by rw [← Array.length_toList, hp.length_eq, Array.length_toList]
  have hmem' : ∀ k, decide (∃ x ∈ l, (x : Int) = k) = true ↔ ∃ e ∈ eo'.toList, (intKind PP w).is k e.2 = true := fun k => (hmem k).trans ⟨fun ⟨e, he, q⟩ => ⟨e, hp.mem_iff.mpr he, q⟩, fun ⟨e, he, q⟩ => ⟨e, hp.mem_iff.mp he, q⟩⟩
  obtain ⟨hg, _⟩ := SetOf_store (knd := intKind PP w) ho hex hd (hel.perm hp) hmem' (by rw [hz, hsz]; unfold scanBound; omega) hf
  exact ⟨_, hg, hex, eo', ep + 1, t', rfl, hel.perm hp, hmem', by rw [hz, hsz], hf⟩
set_option maxHeartbeats 400000 in
theorem setMerge_of {a b : Addr} {oS oO : Obj} {l1 l2 : List Nat} {each : Sem Unit} {Q : Unit → Shared → Prop} (hne : a ≠ b) (ho : s.heap.get? a = some oS) (hs : SetIs w oS l1) (hob : s.heap.get? b = some oO) (hso : SetIs w oO l2)
    (hn : (l1 ++ l2).Nodup) (hl : ∀ x ∈ l1 ++ l2, x < 5) (h2 : l2 ≠ []) (hfr : l1 = [] → ∃ led, oS = freshSet led)
    (heach : ∀ s' (Q : Unit → Shared → Prop), s'.heap.get? b = some oO → Q () s' → wpAny (model PP w) A each Q E s')
    (h : ∀ h' o', Heap.SameBut a s.heap h' → h'.get? a = some o' → SetIs w o' (l1 ++ l2) → Q () { s with heap := h' }) : wpAny (model PP w) A (setMerge a b each) Q E s := by
  have h5 : (l1 ++ l2).length ≤ 5 := nodup_lt_length 5 _ hn hl
  rw [List.length_append] at h5
  have hn1 : l1.Nodup := (List.nodup_append.mp hn).1
  have hn2 : l2.Nodup := (List.nodup_append.mp hn).2.1
  have hl1 : ∀ x ∈ l1, x < 5 := fun x hx => hl x (List.mem_append_left _ hx)
  have hl2 : ∀ x ∈ l2, x < 5 := fun x hx => hl x (List.mem_append_right _ hx)
  obtain ⟨hexO, eo, epo, to, hdo, helo, hmemo, hszo, hfo⟩ := id hso
  obtain ⟨hexS, es, ep, t, hds, hels, hmems, hszs, hfs⟩ := id hs
  have hpos : l2.length ≠ 0 := fun e => h2 (List.eq_nil_of_length_eq_zero e)
  rw [setMerge_eq]
  rw [if_neg (by simpa using hne)]
  refine wpAny_bind (wpAny_setState_of hob hdo hfo ?_)
  dsimp only
  rw [if_neg (by rw [Array.isEmpty_iff_size_eq_zero, hszo]; exact hpos)]
  refine wpAny_bind (setRoomFor_of ho hs hds hn1 hl1 (by rw [hszo]; exact h5) (fun e0 => ?_) fun h1 oS1 es1 ep1 t1 hsb1 hg1 hs1 hd1 hf1 hz1 hm1 => ?_)
  · obtain ⟨led, rfl⟩ := hfr (List.eq_nil_of_length_eq_zero (by rw [← hszs, e0]))
    injection hds with _ _ e
    rw [← e]; rfl
  have hob1 : h1.get? b = some oO := hsb1.2 b (Ne.symm hne) ▸ hob
  refine wpAny_bind (wpAny_setState_of hg1 hd1 hf1 ?_)
  dsimp only
  have hp1 : t1.place.size = l1.length := by unfold SetTable.fits at hf1; simp at hf1; rw [hf1.1, hz1, hszs]
  unfold SetTable.road
  cases hfl : (t1.fill != 0) with
  | false =>
    have h0 : l1 = [] := List.eq_nil_of_length_eq_zero (by have := bne_eq_false_iff_eq.mp hfl; unfold SetTable.fill at this; omega)
    subst h0
    rw [if_neg Bool.false_ne_true]
    split
    · rename_i hroad
      obtain ⟨o', ho', hs'⟩ := takeOver (t' := { to with finger := t1.finger, led := t1.led && to.led, moves := t1.moves, plain := t1.plain && to.plain }) hg1 hs1 hd1 hso hdo (by omega) (.refl _) (by cases to; exact hfo)
      exact wpAny_storeSet_of hg1 hd1 (h _ o' (hsb1.trans (Heap.SameBut.update _ a _)) ho' hs') (by rw [hszo, sizeLine_eq]; omega)
    · obtain ⟨H, hH, Hn, Hl, Hz⟩ := keys_of hso hdo hn2 hl2
      obtain ⟨t', order, hlaid, hperm, hfit, hmk⟩ := laid_of (finger := t1.finger) (moves := t1.moves) (led := t1.led && to.led) (plain := t1.plain && to.plain) (layOk_of Hn Hl (hm1 (by rw [hszs]; rfl)))
      rw [← hH] at hlaid
      have hp := laid_perm (es := eo) (order := order) (by rw [← Hz]; exact hperm)
      have hz : (order.filterMap (eo[·]?)).size = eo.size := by rw [← Array.length_toList, hp.length_eq, Array.length_toList]
      have hfit' : t'.fits (order.filterMap (eo[·]?)).size = true := by rw [hz, ← Hz]; exact hfit
      refine wpAny_bind ?_
      rw [hlaid]
      dsimp only
      rw [if_neg (by rw [hz]; simp)]
      refine wpAny_pure ?_
      obtain ⟨o', ho', hs'⟩ := takeOver (t' := t') hg1 hs1 hd1 hso hdo (by omega) hp hfit'
      exact wpAny_storeSet_of hg1 hd1 (h _ o' (hsb1.trans (Heap.SameBut.update _ a _)) ho' hs') (by rw [hz, hszo, sizeLine_eq]; omega)
    · rename_i hroad
      split at hroad <;> cases hroad
  | true =>
    rw [if_pos rfl]
    dsimp only
    refine wpAny_bind (walkUnseen_of hne hob1 hso hdo hg1 hs1 (by omega) fun es' h2' o2 hpe hsb2 hg2 hs2 => ?_)
    have hob2 : h2'.get? b = some oO := hsb2.2 b (Ne.symm hne) ▸ hob1
    obtain ⟨hel2, hkm⟩ := elems_of hso hdo hl2
    have hks : ∀ x, x ∈ es'.toList.map (fun e => e.1.toNat) ↔ x ∈ l2 := fun x => by rw [← hkm x]; exact (hpe.map _).mem_iff
    have hkl : (es'.toList.map (fun e => e.1.toNat)).length = l2.length := by rw [List.length_map, hpe.length_eq, Array.length_toList, hszo]
    have hkn : (es'.toList.map (fun e => e.1.toNat)).Nodup := nodup_of_cover _ l2 hn2 (fun x hx => (hks x).mpr hx) (by omega)
    refine wpAny_bind ?_
    rw [← Array.forIn_toList]
    refine wpAny_forIn_list _ (fun rest _ s' => ∃ hh oo done, s' = { s with heap := hh } ∧ Heap.SameBut a s.heap hh ∧ hh.get? a = some oo ∧ SetIs w oo (l1 ++ done) ∧ done ++ rest.map (fun e => e.1.toNat) = es'.toList.map (fun e => e.1.toNat) ∧ ∀ e ∈ rest, e ∈ eo.toList) _ ?_ ?_ es'.toList _
      ⟨h2', o2, [], rfl, hsb1.trans hsb2, hg2, by rw [List.append_nil]; exact hs2, rfl, fun e he => hpe.mem_iff.mp he⟩
    · rintro e rest _ s' ⟨hh, oo, done, rfl, hsb, hg, hso', hdone, hre⟩
      obtain ⟨x, hx, tk, e1, e2⟩ := hel2 e (hre e (.head _))
      have hx5 := hl2 x hx
      have hob' : hh.get? b = some oO := hsb.2 b (Ne.symm hne) ▸ hob
      have hxn : x ∉ l1 ++ done := fun hm => by
        rcases List.mem_append.mp hm with hm | hm
        · exact (List.nodup_append.mp hn).2.2 x hm x hx rfl
        · rw [← hdone, List.map_cons, e1] at hkn
          have := (List.nodup_append.mp hkn).2.2 x hm x (by simp)
          exact this rfl
      have hlen : (l1 ++ done).length ≤ 5 := by
        have := congrArg List.length hdone
        rw [hkl, List.length_append] at this
        rw [List.length_append]; omega
      have hhx : (intKind PP w).hash (x : Int) = (x : Int) := hashInt_small hx5
      have he : e = ((intKind PP w).hash (x : Int), .int (x : Nat) tk) := Prod.ext (by rw [hhx]; exact e1) e2
      subst he
      dsimp only
      have hS0 := Obj.SetObjOf.setOf hso' hg (show (l1 ++ done).length < scanBound by unfold scanBound; omega)
      refine wpAny_bind (wpAny_holding ?_)
      refine wpAny_setAddHashed_of (knd := intKind PP w) (k := (x : Int)) (S := fun k => decide (∃ y ∈ l1 ++ done, (y : Int) = k)) (n := (l1 ++ done).length) ?_ ?_ hS0 ?_ fun h3 hsb3 hS3 => ?_
      · exact intKind_is PP w (x : Int) tk
      · rfl
      · unfold scanBound; omega
      obtain ⟨o3, ho3, hso3⟩ := hS3.objOf
      have hob3 : h3.get? b = some oO := hsb3.2 b (Ne.symm hne) ▸ hob'
      refine wpAny_bind (heach _ _ hob3 ?_)
      refine wpAny_bind (wpAny_setState_of hob3 hdo hfo ?_)
      dsimp only
      rw [if_neg (by simp)]
      refine wpAny_pure ⟨h3, o3, done ++ [x], rfl, hsb.trans hsb3, ho3, by rw [← List.append_assoc]; exact setIs_add hso3 hxn, ?_, fun e he => hre e (.tail _ he)⟩
      rw [← hdone, List.map_cons]
      simp [hhx]
    · rintro _ s' ⟨hh, oo, done, rfl, hsb, hg, hso', hdone, _⟩
      simp only [List.map_nil, List.append_nil] at hdone
      subst hdone
      exact wpAny_pure (h hh oo hsb hg (setIs_congr hso' (fun x => by rw [List.mem_append, List.mem_append, hks]) (by rw [List.length_append, List.length_append, hkl])))
end

section
variable {w : World} {A : Around} {E : Value → Shared → Prop} {s : Shared} {h₀ : Heap} {L a b : Addr} {m : Str → Option Value} {news l₀ : List (Addr × Obj)} {oS oO : Obj} {l1 l2 : List Nat}
theorem getUpdateS {pl : Sem Bool} {Q : Value × List Value → Shared → Prop} (_h0 : (a, oS) ∈ l₀) (S : St h₀ L m news s.heap) (hm : (a, oS) ∈ news) (hs : SetIs w oS l1) (hl : l1.length ≤ 1000) (h : Q (.builtin "set.update", [.ref a]) s) :
    wpAny (model PP w) A (getMethod (.ref a) "update" pl) Q E s := by
  have hS := Obj.SetObjOf.setOf hs (S.get hm) (show l1.length < scanBound by unfold scanBound; omega)
  exact getMethod_builtin hS.typeIs PySem.F.plainAttrs_set PySem.F.slot_set_update PySem.F.type_set_update hS.noDict h
theorem updateSetS {Q : Value → Shared → Prop} (_h0 : (a, oS) ∈ l₀) (_h1 : (b, oO) ∈ l₀) (S : St h₀ L m news s.heap) (hma : (a, oS) ∈ news) (hmb : (b, oO) ∈ news) (hne : a ≠ b) (hs : SetIs w oS l1) (hso : SetIs w oO l2)
    (hn : (l1 ++ l2).Nodup) (hl : ∀ x ∈ l1 ++ l2, x < 5) (h2 : l2 ≠ []) (hfr : l1 = [] → ∃ led, oS = freshSet led)
    (h : ∀ s' o', Rest s s' → St h₀ L m (put a o' news) s'.heap → SetIs w o' (l1 ++ l2) → (a, o') ∈ put a o' news → Q .none s') : wpAny (model PP w) A (call (.builtin "set.update") [.ref a, .ref b]) Q E s := by
  have h5 : (l1 ++ l2).length ≤ 5 := nodup_lt_length 5 _ hn hl
  rw [List.length_append] at h5
  have hS := Obj.SetObjOf.setOf hs (S.get hma) (show l1.length < scanBound by unfold scanBound; omega)
  have hO := Obj.SetObjOf.setOf hso (S.get hmb) (show l2.length < scanBound by unfold scanBound; omega)
  obtain ⟨hexO, eo, epo, to, hdo, helo, hmemo, hszo, hfo⟩ := id hso
  refine wpAny_call_entry PySem.F.slot_set_update hS.typeIs PySem.F.entry_set_update ?_ (PySem.F.args_set_update_2 _ _)
  unfold Builtin.«set.update» Builtin.Frozenset.manyOthers
  simp only [List.isEmpty_nil, Bool.not_true, Bool.false_eq_true, if_false, bind_assoc]
  unfold Builtin.Frozenset.addrOf
  refine wpAny_bind (wpAny_pure ?_)
  try dsimp only
  refine wpAny_bind (wpAny_pure ?_)
  try dsimp only
  refine wpAny_bind ?_
  rw [List.forIn_cons]
  refine wpAny_bind (wpAny_bind ?_)
  unfold Builtin.Frozenset.updateFrom
  refine wpAny_bind (m := Builtin.Frozenset.isAnySet (.ref b)) ?_
  unfold Builtin.Frozenset.isAnySet
  refine wpAny_bind (m := isInstance (.ref b) (.type "set")) (wpAny_isInstance (b := true) hO.typeIs (by rw [isSubtype_type]; kernel_rfl) ?_)
  refine wpAny_pure ?_
  rw [if_pos rfl]
  unfold Builtin.Frozenset.addrOf
  refine wpAny_bind (wpAny_pure ?_)
  unfold Builtin.Frozenset.merge
  refine wpAny_bind (wpAny_setEpoch_of (S.get hmb) hdo hfo ?_)
  refine setMerge_of hne (S.get hma) hs (S.get hmb) hso hn hl h2 hfr (fun s' Q' hb hq => ?_) fun h' o' hsb ho' hs' => ?_
  · unfold Builtin.Frozenset.unchanged
    refine wpAny_bind (wpAny_setEpoch_of hb hdo hfo ?_)
    rw [if_neg (by simp)]
    exact wpAny_pure hq
  · refine wpAny_pure ?_
    dsimp only
    rw [List.forIn_nil]
    refine wpAny_pure ?_
    exact wpAny_pure ⟨_, rfl, h { s with heap := h' } o' ⟨rfl, rfl⟩ (S.change hma hsb ho') hs' (mem_put_self hma)⟩
end
end Mine
end
section
open PySem PySem.W PySem.Calls PyProof.Rows
set_option maxRecDepth 100000
namespace Mine
section
variable {M : Model} {A : Around} {R : GenEnd} {Y : Protocol} {n : Nat} {s₀ : Shared} {c : Code} {fs : List Frame} {s : Shared} {env : Env}
  {K : Flow → Sem Fin} {H : Value → Sem Fin} {gd : Bool → Bool} {lv : List Value → List Value}
/-- a statement that yields nothing -/
theorem seg_stmt {st : Stmt} (h : wpAny M (A.over c fs) (exec st env) (fun f s' => Seg M A R Y n s₀ c (K f) fs s') (fun _ _ => False) s) : Seg M A R Y n s₀ c ((exec st env).wrap K H gd lv) fs s :=
  seg_wrap (wpAny_mono h (fun _ _ x => x) fun _ _ x => x.elim)
theorem seg_If {test : Expr} {body orelse : List Stmt} {pos : Pos} (h : wpAny M (A.over c fs) (isTrue test env (eval test env)) (fun b s' => if b = true then Seg M A R Y n s₀ c ((execs body env).wrap K H gd lv) fs s' else Seg M A R Y n s₀ c ((execs orelse env).wrap K H gd lv) fs s') (fun _ _ => False) s) :
    Seg M A R Y n s₀ c ((exec (.If test body orelse pos) env).wrap K H gd lv) fs s := by
  rw [exec_If]
  refine seg_bind_wrap (wpAny_standAt ?_)
  refine seg_bind_wrap (wpAny_mono h (fun b s' h' => ?_) fun _ _ x => x.elim)
  cases b with
  | true => rw [if_pos rfl] at h' ⊢; exact h'
  | false => rw [if_neg Bool.false_ne_true] at h' ⊢; exact h'
theorem seg_For {target iter : Expr} {body orelse : List Stmt} {pos : Pos}
    (h : wpAny M (A.over c fs) (eval iter env) (fun x s₁ => wpAny M (A.over c fs) (pyIter x) (fun it s₂ => ∀ p, Seg M A R Y n s₀ (.forLoop target it body orelse env) (M.den (.forLoop target it body orelse env))
      (.ret (fun r => ((match r with | .ok f => (.pure f : Sem Flow) | .error e => .raise e).onRaise fun (x : Value) => do
        if (← field x 1) == Value.none then unsupported "frame.own-activation:exception-without-traceback"
        setFlight x env.frame).wrap K H gd lv) none (gd false) (lv []) c p [] :: fs) s₂) (fun _ _ => False) s₁) (fun _ _ => False) s)
    (hs : ∀ x, foldedSetIterable iter env x = pure x := by intro _; rfl) :
    Seg M A R Y n s₀ c ((exec (.For target iter body orelse pos) env).wrap K H gd lv) fs s := by
  rw [exec_For]
  refine seg_bind_wrap (wpAny_standAt ?_)
  refine seg_bind_wrap (wpAny_mono h (fun x s₁ h₁ => ?_) fun _ _ z => z.elim)
  refine seg_bind_wrap (wpAny_of_eq (hs x) ?_)
  refine seg_bind_wrap (wpAny_standAt ?_)
  refine seg_bind_wrap (wpAny_holding (wpAny_mono h₁ (fun it s₂ h₂ => ?_) fun _ _ z => z.elim))
  exact seg_call h₂
end
section
variable {prog : Program} {w : World} {A : Around} {R : GenEnd} {Y : Protocol} {n : Nat} {s₀ : Shared} {fs : List Frame} {s : Shared} {env : Env}
theorem seg_forLoop {target : Expr} {it : Value} {body : List Stmt} (ht : ∀ v, letOwnedTupleGo target it v = pure ())
    (h : wpAny (model prog w) (A.over (.forLoop target it body [] env) fs) (pyNext it) (fun r s₁ => match r with
      | none => Seg (model prog w) A R Y n s₀ (.block [] env) ((model prog w).den (.block [] env)) fs s₁
      | some v => wpAny (model prog w) (A.over (.forLoop target it body [] env) fs) (assign target env v) (fun _ s₂ =>
          ∀ H, Seg (model prog w) A R Y n s₀ (.forLoop target it body [] env) ((execs body env).wrap (fun f => match f with
            | .next | .cont => .pure (.again (.forLoop target it body [] env))
            | .brk => .pure (.done .next)
            | .ret v => .pure (.done (.ret v))) H id id) fs s₂) (fun _ _ => False) s₁) (fun _ _ => False) s) :
    Seg (model prog w) A R Y n s₀ (.forLoop target it body [] env) ((model prog w).den (.forLoop target it body [] env)) fs s := by
  show Seg _ A R Y n s₀ _ ((forTurn target it body [] env).onRaise (fun x => do noteFrame x env; theTreesLotGoes x)) fs s
  unfold forTurn
  rw [Sem.onRaise_eq_wrap]
  refine seg_bind_wrap (wpAny_standAt ?_)
  refine seg_bind_wrap (wpAny_onRaise (wpAny_mono h (fun r s₁ h₁ => ?_) fun _ _ z => z.elim))
  cases r with
  | none => exact seg_again rfl h₁
  | some v =>
    refine seg_bind_wrap (wpAny_of_eq (ht v) ?_)
    refine seg_bind_wrap (wpAny_mono h₁ (fun _ s₂ h₂ => ?_) fun _ _ z => z.elim)
    rw [Sem.bind_eq_wrap', Sem.wrap_wrap]
    rw [Sem.wrap_congr (execs body env) _ _ (K' := fun f => match f with
            | .next | .cont => .pure (.again (.forLoop target it body [] env))
            | .brk => .pure (.done .next)
            | .ret v => .pure (.done (.ret v))) (fun f => by cases f <;> rfl) (fun e => rfl)]
    exact h₂ _
theorem seg_block_nil (h : Seg (model prog w) A R Y n s₀ (.block [] env) (leafOf (.ok .next)) fs s) : Seg (model prog w) A R Y n s₀ (.block [] env) ((model prog w).den (.block [] env)) fs s := h
theorem seg_pop {k : Result → Sem Fin} {h : Option Value} {g : Bool} {l : List Value} {c c₁ : Code} {p₁ : Pos} {kp : List Value} (hk : Seg (model prog w) A R Y n s₀ c₁ (k (.ok .next)) fs s) :
    Seg (model prog w) A R Y n s₀ c (leafOf (.ok .next)) (.ret k h g l c₁ p₁ kp :: fs) s := seg_leaf (.ok .next) hk
end

def IsGenO (o : Obj) (g : Nat) : Prop := ∃ nm qn, o.cls = .type "generator" ∧ o.data = .fields #[.int g 0, nm, qn] ∧ o.slots = #[]
theorem IsGenO.at {h : Heap} {a : Addr} {o : Obj} {g : Nat} (x : IsGenO o g) (ho : h.get? a = some o) : h.IsGen a g := let ⟨nm, qn, r⟩ := x; ⟨o, nm, qn, ho, r⟩
/-- the base of a frame: what its surroundings need -/
structure Ground (w : World) (h₀ : Heap) : Prop where
  X : (hd.heap_39 w.params).In h₀
  T : ∃ mean mg mb, Top thinP thinL mean mg mb h₀
theorem Ground.cx {w : World} {h₀ : Heap} (G : Ground w h₀) {A : Around} {env : Env} {L : Addr} (hh : A.handled = none) (hk : env.scope.kind = .function) (hl : env.locals = L) : Cx w A env L h₀ := ⟨G.X, G.T, hh, hk, hl⟩
theorem genCall {w : World} {A : Around} {s : Shared} {h₀ : Heap} {env : Env} {L f : Addr} {m : Str → Option Value} {news : List (Addr × Obj)} {R : Result → Shared → Prop}
    {name qual : Str} {params : Arguments} {body : List Stmt} {scope : Scope} {dV kV doc pm cdv ct oc : Value} {an od : Option Addr} {osl : Array (Option Value)} {args : Args} {binds : List (Str × Value)}
    (C : Cx w A env L h₀) (S : St h₀ L m news s.heap)
    (ho : (hd.heap_39 w.params).lookup f = some ⟨oc, od, .func (fnOf name qual params body scope dV kV doc pm an cdv ct), osl⟩) (hcd : codeIn (hd.heap_39 w.params) cdv qual = true)
    (hbind : BindsTo s (fnOf name qual params body scope dV kV doc pm an cdv ct) args binds) (hloc : ∀ y ∈ binds, scope.names.lookup y.1 = some .local)
    (h : ∀ gb Lg ga o s', Fr h₀ L gb m → h₀.StaysIn gb → Ground w gb → St gb Lg (fun y => binds.reverse.lookup y) ((ga, o) :: news) s'.heap → IsGenO o s.gens.size →
      s'.gens = s.gens.push (.fresh (.func body (envOf qual scope Lg f cdv))) → s'.os = s.os → Lg < ga → R (.ok (.ret (.ref ga))) s')
    (hroom : A.depth < recursionLimit) (hco : scope.isCoroutine = false := by rfl) (hgen : scope.isGenerator = true := by rfl) (hk : scope.kind = .function := by rfl)
    (hcell : ∀ x ∈ scope.names, x.2 ≠ .cell := by decide) :
    codeAny (model PP w) A (.call (.ref f) args) R s := by
  obtain ⟨mean, mg, mb, T⟩ := C.T
  obtain ⟨FG, st⟩ := hideS S
  refine codeAny_call_generator (fd := fnOf name qual params body scope dV kV doc pm an cdv ct) (body := body) hroom ((C.X.keeps S.F.keep) _ _ ho) rfl hco hgen rfl (codeRec_of (C.X.keeps S.F.keep) hcd) (hbind _ _ _ _ ?_)
  refine wpAny_newFunctionEnv hcell hloc (fun h₁ hns hsb => ⟨(T.nolimit.keeps S.F.keep).fresh _ hsb, ?_⟩) hk
  have hk₁ : ∀ b o, s.heap.get? b = some o → h₁.get? b = some o := fun b o e => hsb.extBut b o (Nat.ne_of_lt (Heap.lt_size e)) (Heap.get?_push_of_some _ e)
  have Fg : Fr (hideAll s.heap (news.map (·.1))) s.heap.objs.size h₁ (fun y => binds.reverse.lookup y) := ⟨hns, fun b o e => hk₁ b o (of_hideAll _ e), Nat.le_of_eq (hideAll_size _ _)⟩
  have T' := T.keeps st
  have S₁ : St (hideAll s.heap (news.map (·.1))) s.heap.objs.size (fun y => binds.reverse.lookup y) news h₁ :=
    ⟨Fg, fun p hp => ⟨hk₁ _ _ (S.N p hp).1, Nat.ne_of_lt (Heap.lt_size (S.N p hp).1), hideAll_none _ (List.mem_map_of_mem hp)⟩, S.D, Nat.lt_of_lt_of_le (modules_low T'.nolimit) Fg.above, S.low.2⟩
  have hlt : s.heap.objs.size < h₁.objs.size := hns.lt
  exact h _ s.heap.objs.size h₁.objs.size _ { s with heap := h₁.push _, toks := _, gens := _ } FG st ⟨C.X.keeps st, ⟨mean, mg, mb, T'⟩⟩ (S₁.push _) ⟨_, _, rfl, rfl, rfl⟩ rfl rfl hlt

/-! the state of a generator that sleeps -/
def CS (gb : Heap) (Lg : Addr) (all : List (Addr × Obj)) (cl : List Addr) (pl : List (Addr × Obj)) (mg : Str → Option Value) (h : Heap) : Prop :=
  ∃ cs : List (Addr × Obj), cs.map (·.1) = cl ∧ St gb Lg mg (pl ++ (all ++ cs)) h
def Kept (cl : List Addr) (h h' : Heap) : Prop := ∀ b ∈ cl, ∀ o, h.get? b = some o → h'.get? b = some o
def ccY (gb : Heap) (Lg : Addr) (all : List (Addr × Obj)) (cl : List Addr) : Protocol := fun _ s₀ _ s kap =>
  s.gens = s₀.gens ∧ s.os = s₀.os ∧ Kept cl s₀.heap s.heap ∧ ∃ pl mg, CS gb Lg all cl pl mg s.heap ∧ ∀ s'', CS gb Lg all cl pl mg s''.heap → kap (.send .none) s''
def ccP (gb : Heap) (Lg : Addr) (all : List (Addr × Obj)) (cl : List Addr) : Nat → Shared → Shared → Prop := fun n s₀ s =>
  n = 0 ∧ s.gens = s₀.gens ∧ s.os = s₀.os ∧ Kept cl s₀.heap s.heap ∧ ∃ pl mg, CS gb Lg all cl pl mg s.heap
def ccR (gb : Heap) (Lg : Addr) (all : List (Addr × Obj)) (cl : List Addr) : GenEnd := fun n s₀ r s => r = .ok (.ret .none) ∧ ccP gb Lg all cl n s₀ s
theorem kept_of {cs : List (Addr × Obj)} {h h' : Heap} (S : ∀ p ∈ cs, h.get? p.1 = some p.2) (S' : ∀ p ∈ cs, h'.get? p.1 = some p.2) : Kept (cs.map (·.1)) h h' := by
  intro b hb o ho
  obtain ⟨p, hp, rfl⟩ := List.mem_map.mp hb
  rw [S p hp] at ho; rw [← ho]; exact S' p hp
theorem withCx {w : World} {gb : Heap} {A : Around} {env : Env} {L : Addr} {st : Stmt} {Q : Flow → Shared → Prop} {E : Value → Shared → Prop} {s : Shared} (G : Ground w gb) (k : Cx w A env L gb → wpAny (model PP w) A (exec st env) Q E s)
    (hh : A.handled = none) (hk : env.scope.kind = .function := by rfl) (hl : env.locals = L := by rfl) : wpAny (model PP w) A (exec st env) Q E s := k (G.cx hh hk hl)
theorem withCxE {w : World} {gb : Heap} {A : Around} {env : Env} {L : Addr} {e : PySem.Expr} {Q : Value → Shared → Prop} {E : Value → Shared → Prop} {s : Shared} (G : Ground w gb) (k : Cx w A env L gb → wpAny (model PP w) A (eval e env) Q E s)
    (hh : A.handled = none) (hk : env.scope.kind = .function := by rfl) (hl : env.locals = L := by rfl) : wpAny (model PP w) A (eval e env) Q E s := k (G.cx hh hk hl)
/-- the iterator of a graph -/
theorem iter_graph {w : World} {A : Around} {E : Value → Shared → Prop} {s : Shared} {h₀ : Heap} {env : Env} {L : Addr} {a : GA} {G : Gr} {m : Str → Option Value} {gl rest : List (Addr × Obj)} {f : Addr} {Q : Value → Shared → Prop}
    (C : Cx w A env L h₀) (S : St h₀ L m (gl ++ rest) s.heap) (H : GraphIn w gl a G)
    (hs : findIn (hd.heap_39 w.params) (.ref 310) "__iter__" = some (some (.ref f))) (hf : isFn (hd.heap_39 w.params) (.ref f) = true)
    (h : wpAny (model PP w) A (call (.ref f) [.ref a.g]) (fun v s' => ∃ I oI d i n ep l, v = .ref I ∧ (I, oI) ∈ l ∧ St h₀ L m l s'.heap ∧ KdkIter oI d i n ep ∧ Q v s') E s) : wpAny (model PP w) A (pyIter (.ref a.g)) Q E s := by
  obtain ⟨t1, t2, t3, gr, H2⟩ := H.dict
  refine owit_iter (h₀ := h₀) (L := L) S.F C.X (InstAt.of_news S.N (List.mem_append_left _ H.inst) (List.mem_append_left _ H2)) hs hf (wpAny_mono h (fun v s' h' => ?_) fun _ _ z => z)
  obtain ⟨I, oI, d, i, n, ep, l, rfl, hm, S', hk, hq⟩ := h'
  unfold OwitIt
  exact wpAny_specialOf (hk.at (S'.get hm)).typeIs PySem.F.slot_dict_keyiterator_next.lookup hq
theorem seg_forLoop_ind {prog : Program} {w : World} {A : Around} {R : GenEnd} {Y : Protocol} {fs : List Frame} {env : Env} {target : PySem.Expr} {it : Value} {body : List Stmt} (J : Nat → Nat → Shared → Shared → Prop)
    (turn : ∀ k n s₀ s, (∀ k', k' < k → ∀ n' s₀' s', J k' n' s₀' s' → Seg (model prog w) A R Y n' s₀' (.forLoop target it body [] env) ((model prog w).den (.forLoop target it body [] env)) fs s') → J k n s₀ s →
      wpAny (model prog w) (A.over (.forLoop target it body [] env) fs) (pyNext it) (fun r s₁ => match r with
      | none => Seg (model prog w) A R Y n s₀ (.block [] env) (leafOf (.ok .next)) fs s₁
      | some v => wpAny (model prog w) (A.over (.forLoop target it body [] env) fs) (assign target env v) (fun _ s₂ =>
          ∀ H, Seg (model prog w) A R Y n s₀ (.forLoop target it body [] env) ((execs body env).wrap (fun f => match f with
            | .next | .cont => .pure (.again (.forLoop target it body [] env))
            | .brk => .pure (.done .next)
            | .ret v => .pure (.done (.ret v))) H id id) fs s₂) (fun _ _ => False) s₁) (fun _ _ => False) s)
    (ht : ∀ v, letOwnedTupleGo target it v = pure ()) : ∀ k n s₀ s, J k n s₀ s → Seg (model prog w) A R Y n s₀ (.forLoop target it body [] env) ((model prog w).den (.forLoop target it body [] env)) fs s := by
  intro k
  induction k using Nat.strongRecOn with
  | _ k ih =>
    intro n s₀ s hJ
    refine seg_forLoop ht (wpAny_mono (turn k n s₀ s ih hJ) (fun r s₁ h₁ => ?_) fun _ _ z => z)
    cases r with
    | none => exact seg_block_nil h₁
    | some v => exact h₁
theorem withCxT {w : World} {gb : Heap} {A : Around} {env : Env} {L : Addr} {e : PySem.Expr} {Q : Bool → Shared → Prop} {E : Value → Shared → Prop} {s : Shared} (G : Ground w gb) (k : Cx w A env L gb → wpAny (model PP w) A (isTrue e env (eval e env)) Q E s)
    (hh : A.handled = none) (hk : env.scope.kind = .function := by rfl) (hl : env.locals = L := by rfl) : wpAny (model PP w) A (isTrue e env (eval e env)) Q E s := k (G.cx hh hk hl)
theorem node_key {n i : Nat} {f : Nat → Addr} {key : Int} {x : Value} (h : (nodeD n f)[i]? = some (key, x)) : key = (i : Nat) := by
  unfold nodeD at h
  rw [List.getElem?_map] at h
  cases e : (List.range n)[i]? with
  | none => rw [e] at h; cases h
  | some j =>
    rw [e] at h
    have := List.getElem?_eq_some_iff.mp e
    obtain ⟨hi, e2⟩ := this
    rw [List.getElem_range] at e2
    simp at h
    rw [← h.1, e2]
end Mine
end
section
open PySem PySem.W PySem.Calls PyProof.Rows
set_option maxRecDepth 100000
namespace Mine

local macro_rules | `(tactic| tb_start) => `(tactic| first | with_reducible assumption | with_reducible exact Ne.symm (by assumption) | (refine' fresh_ne ?l ?h0 ?h; (case l => with_reducible assumption); (case h0 => with_reducible assumption); (case h => tb_rel)) | (refine' Ne.symm (fresh_ne ?l ?h0 ?h); (case l => with_reducible assumption); (case h0 => with_reducible assumption); (case h => tb_rel)))
local macro_rules | `(tactic| tb_rel) => `(tactic| first | with_reducible assumption | with_reducible exact List.mem_cons_self | (with_reducible refine List.mem_cons_of_mem _ ?_; tb_rel) | (with_reducible refine mem_put_self (o := ?oo) ?hh; case hh => tb_rel) | (with_reducible refine mem_put_ne ?h1 ?h2; (case h1 => tb_rel); (case h2 => tb_start)) | (with_reducible refine List.mem_append_left _ ?_; tb_rel) | (with_reducible refine List.mem_append_right _ ?_; tb_rel))
local macro_rules | `(tactic| k_mem) => `(tactic| tb_rel)
local macro_rules | `(tactic| walk_at "compareOp In int ref") => `(tactic| (k_here; (with_reducible rename St _ _ _ _ _ => kS); (with_reducible rename Rest _ _ => kR); k_dflt (refine' in_D (knd := intKind PP _) ?h0 kS ?hm ?hd ?hk ?hv ?_; (case h0 => with_reducible assumption); (case hm => tb_rel); (case hd => first | with_reducible assumption | with_reducible exact isDict_nil _); (case hk => exact intKind_is _ _ _ _); (case hv => first | with_reducible assumption | with_reducible exact isSome_node _ (by assumption) | with_reducible exact isSome_node_none _ (by assumption) | with_reducible exact valueAt_adjS _ _)); (intro s' hr' kS'); (have kR' := Rest.comp kR hr'); clear kS kR hr'; (have kF := kS'.F); (have kN := kS'.N); (try k_sweep)))
local macro_rules | `(tactic| walk_at "compareOp NotIn int ref") => `(tactic| (k_here; (with_reducible rename St _ _ _ _ _ => kS); (with_reducible rename Rest _ _ => kR); k_dflt (refine' notin_D (knd := intKind PP _) ?h0 kS ?hm ?hd ?hk ?hv ?_; (case h0 => with_reducible assumption); (case hm => tb_rel); (case hd => first | with_reducible assumption | with_reducible exact isDict_nil _); (case hk => exact intKind_is _ _ _ _); (case hv => first | with_reducible assumption | with_reducible exact isSome_node _ (by assumption) | with_reducible exact isSome_node_none _ (by assumption) | with_reducible exact valueAt_adjS _ _)); (intro s' hr' kS'); (have kR' := Rest.comp kR hr'); clear kS kR hr'; (have kF := kS'.F); (have kN := kS'.N); (try k_sweep)))
local macro_rules | `(tactic| walk_at "subscriptTail Name Name ref int") => `(tactic| (k_here; (with_reducible show wpAny _ _ (subscriptTail _ _ (Value.ref _) (Value.int _ _)) _ _ _); (with_reducible rename St _ _ _ _ _ => kS); (with_reducible rename Rest _ _ => kR); k_dflt (refine' sub_D (knd := intKind PP _) ?h0 kS ?hm ?hd ?hk ?hv ?_; (case h0 => with_reducible assumption); (case hm => tb_rel); (case hd => first | with_reducible assumption | with_reducible exact isDict_nil _); (case hk => exact intKind_is _ _ _ _); (case hv => first | with_reducible assumption | with_reducible exact valueAt_node _ (by assumption) | with_reducible exact valueAt_stored _ _ _)); (intro s' hr' kS'); (have kR' := Rest.comp kR hr'); clear kS kR hr'; (have kF := kS'.F); (have kN := kS'.N); (try k_sweep)))
local macro_rules | `(tactic| walk_at "subscriptTail Attribute Name Name ref int") => `(tactic| (k_here; (with_reducible show wpAny _ _ (subscriptTail _ _ (Value.ref _) (Value.int _ _)) _ _ _); (with_reducible rename St _ _ _ _ _ => kS); (with_reducible rename Rest _ _ => kR); k_dflt (refine' sub_D (knd := intKind PP _) ?h0 kS ?hm ?hd ?hk ?hv ?_; (case h0 => with_reducible assumption); (case hm => tb_rel); (case hd => first | with_reducible assumption | with_reducible exact isDict_nil _); (case hk => exact intKind_is _ _ _ _); (case hv => first | with_reducible assumption | with_reducible exact valueAt_node _ (by assumption) | with_reducible exact valueAt_stored _ _ _)); (intro s' hr' kS'); (have kR' := Rest.comp kR hr'); clear kS kR hr'; (have kF := kS'.F); (have kN := kS'.N); (try k_sweep)))
local macro_rules | `(tactic| walk_at "subscriptTail Subscript Attribute Name Name ref int") => `(tactic| (k_here; (with_reducible show wpAny _ _ (subscriptTail _ _ (Value.ref _) (Value.int _ _)) _ _ _); (with_reducible rename St _ _ _ _ _ => kS); (with_reducible rename Rest _ _ => kR); k_dflt (refine' sub_D (knd := intKind PP _) ?h0 kS ?hm ?hd ?hk ?hv ?_; (case h0 => with_reducible assumption); (case hm => tb_rel); (case hd => first | with_reducible assumption | with_reducible exact isDict_nil _); (case hk => exact intKind_is _ _ _ _); (case hv => first | with_reducible assumption | with_reducible exact valueAt_node _ (by assumption) | with_reducible exact valueAt_stored _ _ _)); (intro s' hr' kS'); (have kR' := Rest.comp kR hr'); clear kS kR hr'; (have kF := kS'.F); (have kN := kS'.N); (try k_sweep)))
local macro_rules | `(tactic| walk_at "subscriptTail Subscript Name ref int") => `(tactic| (k_here; (with_reducible show wpAny _ _ (subscriptTail _ _ (Value.ref _) (Value.int _ _)) _ _ _); (with_reducible rename St _ _ _ _ _ => kS); (with_reducible rename Rest _ _ => kR); k_dflt (refine' sub_D (knd := intKind PP _) ?h0 kS ?hm ?hd ?hk ?hv ?_; (case h0 => with_reducible assumption); (case hm => tb_rel); (case hd => first | with_reducible assumption | with_reducible exact isDict_nil _); (case hk => exact intKind_is _ _ _ _); (case hv => first | with_reducible assumption | with_reducible exact valueAt_node _ (by assumption) | with_reducible exact valueAt_stored _ _ _)); (intro s' hr' kS'); (have kR' := Rest.comp kR hr'); clear kS kR hr'; (have kF := kS'.F); (have kN := kS'.N); (try k_sweep)))
local macro_rules | `(tactic| walk_at "storeName") => `(tactic| (k_here; (with_reducible rename St _ _ _ _ _ => kS); (with_reducible rename Rest _ _ => kR); k_dflt (refine' storeS kS ?_ ?h1 ?h2 ?h3; (case h1 => exact rfl); (case h2 => exact rfl); (case h3 => exact rfl)); (intro s' hr' kS'); (have kR' := Rest.comp kR hr'); clear kS kR hr'; (have kF := kS'.F); (have kN := kS'.N); (try k_sweep)))
local macro_rules | `(tactic| walk_at "eval Dict nil nil") => `(tactic| (k_here; (with_reducible rename St _ _ _ _ _ => kS); (with_reducible rename Rest _ _ => kR); k_dflt (refine' dictS kS ?_); (intro d' s' hr' kS' l1); (have hm' := cons_mem kS'); (have kR' := Rest.comp kR hr'); clear kS kR hr'; (have kF := kS'.F); (have kN := kS'.N); (try k_sweep)))
local macro_rules | `(tactic| walk_at "setItem ref int ref") => `(tactic| (k_here; (with_reducible rename St _ _ _ _ _ => kS); (with_reducible rename Rest _ _ => kR); k_dflt (refine' set_D (knd := intKind PP _) ?h0 kS ?hm ?hd ?hk ?hz ?_; (case h0 => with_reducible assumption); (case hm => tb_rel); (case hd => first | with_reducible assumption | with_reducible exact isDict_nil _); (case hk => exact intKind_is _ _ _ _); (case hz => first | with_reducible assumption | exact Nat.le_of_ble_eq_true rfl)); (intro s' o' hr' kS' hd' hm'); (have kR' := Rest.comp kR hr'); clear kS kR hr'; (have kF := kS'.F); (have kN := kS'.N); (try k_sweep)))
local macro_rules | `(tactic| walk_at "delItem ref") => `(tactic| (k_here; (with_reducible rename St _ _ _ _ _ => kS); (with_reducible rename Rest _ _ => kR); k_dflt (refine' del_D (knd := intKind PP _) ?h0 kS ?hm ?hd ?hk ?hz ?hl ?_; (case h0 => with_reducible assumption); (case hm => tb_rel); (case hd => first | with_reducible assumption | with_reducible exact isDict_nil _); (case hk => exact intKind_is _ _ _ _); (case hz => with_reducible assumption); (case hl => with_reducible assumption)); (intro s' o' hr' kS' hd' hm'); (have kR' := Rest.comp kR hr'); clear kS kR hr'; (have kF := kS'.F); (have kN := kS'.N); (try k_sweep)))
local macro_rules | `(tactic| walk_at "call builtin:dict.update") => `(tactic| (k_here; (with_reducible rename St _ _ _ _ _ => kS); (with_reducible rename Rest _ _ => kR); k_dflt (refine' update_nil (knd := strKind PP _) (knd' := strKind PP _) ?h0 ?h1 kS ?hm ?hd ?hme ?he ?hde ?_; (case h0 => with_reducible assumption); (case h1 => with_reducible assumption); (case hm => tb_rel); (case hd => first | with_reducible assumption | with_reducible exact isDict_nil _); (case hme => tb_rel); (case he => first | with_reducible assumption | with_reducible exact isDict_nil _); (case hde => tb_start)); (intro s' hr' kS'); (have kR' := Rest.comp kR hr'); clear kS kR hr'; (have kF := kS'.F); (have kN := kS'.N); (try k_sweep)))
local macro_rules | `(tactic| walk_at "call builtin:dict.get") => `(tactic| (k_here; (with_reducible show wpAny _ _ (call _ [_, _, _]) _ _ _); (with_reducible rename St _ _ _ _ _ => kS); (with_reducible rename Rest _ _ => kR); k_dflt (refine' get2_D (knd := intKind PP _) ?h0 kS ?hm ?hd ?hk ?hv ?_; (case h0 => with_reducible assumption); (case hm => tb_rel); (case hd => first | with_reducible assumption | with_reducible exact isDict_nil _); (case hk => exact intKind_is _ _ _ _); (case hv => first | exact getD_of_none (by assumption) | exact getD_of_some (by assumption))); (intro s' hr' kS'); (have kR' := Rest.comp kR hr'); clear kS kR hr'; (have kF := kS'.F); (have kN := kS'.N); (try k_sweep)))
local macro_rules | `(tactic| walk_at "getMethod ref") => `(tactic| (k_here; k_dflt (first
  | ((with_reducible show wpAny _ _ (getMethod (Value.ref _) (Str.ofString "update") _) _ _ _); refine' getM_DU (knd := strKind PP _) ?h0 ?S ?hm ?hd ?_; (case h0 => with_reducible assumption); (case S => assumption); (case hm => tb_rel); (case hd => first | with_reducible assumption | with_reducible exact isDict_nil _))
  | ((with_reducible show wpAny _ _ (getMethod (Value.ref _) (Str.ofString "get") _) _ _ _); refine' getM_DG (knd := intKind PP _) ?h0 ?S ?hm ?hd ?_; (case h0 => with_reducible assumption); (case S => assumption); (case hm => tb_rel); (case hd => first | with_reducible assumption | with_reducible exact isDict_nil _)))))
local macro_rules | `(tactic| walk_at "LeaveK") => `(tactic| ((with_reducible rename St _ _ _ _ _ => kS); (refine leaveS (by assumption) kS ?_); (intro kS'); clear kS; (try dsimp only)))
local macro_rules | `(tactic| walk_at "newTuple") => `(tactic| (k_here; (with_reducible rename St _ _ _ _ _ => kS); (with_reducible rename Rest _ _ => kR); k_dflt (refine' tupS kS ?_ ?hz; (case hz => size_fits)); (intro t' s' hr' kS' l1); (have hm' := cons_mem kS'); (have kR' := Rest.comp kR hr'); clear kS kR hr'; (have kF := kS'.F); (have kN := kS'.N); (try k_sweep)))
local macro_rules | `(tactic| walk_at "newList") => `(tactic| (k_here; (with_reducible rename St _ _ _ _ _ => kS); (with_reducible rename Rest _ _ => kR); k_dflt (refine' listS kS ?_ ?hz; (case hz => size_fits)); (intro t' s' hr' kS' l1); (have hm' := cons_mem kS'); (have kR' := Rest.comp kR hr'); clear kS kR hr'; (have kF := kS'.F); (have kN := kS'.N); (try k_sweep)))
local macro_rules | `(tactic| walk_at "unpackItems ref") => `(tactic| (k_here; (with_reducible rename Cx _ _ _ _ _ => kC); (with_reducible rename St _ _ _ _ _ => kS); (with_reducible rename Rest _ _ => kR); k_dflt (refine' unpackS ?h0 kS ?hm (Cx.hh kC) ?hn ?_; (case h0 => with_reducible assumption); (case hm => tb_rel); (case hn => exact rfl)); (intro s' hr' kS'); (have kR' := Rest.comp kR hr'); clear kS kR hr'; (have kF := kS'.F); (have kN := kS'.N); (try k_sweep)))
local macro_rules | `(tactic| walk_at "compareOp NotEq int int") => `(tactic| first | with_reducible refine ne_int_t (by with_reducible assumption) ?_ | with_reducible refine ne_int_f (by with_reducible assumption) ?_)
local macro_rules | `(tactic| walk_at "compareOp Eq int int") => `(tactic| first | with_reducible refine eq_int_t (by with_reducible assumption) ?_ | with_reducible refine eq_int_f (by with_reducible assumption) ?_)
local macro_rules | `(tactic| walk_at "setAttr ref") => `(tactic| (k_here; (with_reducible rename Cx _ _ _ _ _ => kC); (with_reducible rename St _ _ _ _ _ => kS); (with_reducible rename Rest _ _ => kR); k_dflt (refine' setAttrS kC kS ?h1 ?h2 ?k6 ?k7 ?k8 ?k9 ?k10 ?k11 ?k13 ?_; (case h1 => tb_rel); (case h2 => tb_rel); (case k6 => k_is); (case k7 => k_is); (case k8 => k_is); (case k9 => k_is); (case k10 => k_get); (case k11 => k_put); (case k13 => exact Nat.le_of_ble_eq_true rfl)); (intro s' hr' kS' hm'); (have kR' := Rest.comp kR hr'); clear kS kR hr'; (have kF := kS'.F); (have kN := kS'.N); (try k_sweep)))


local macro_rules | `(tactic| walk_at "compareOp In int ref") => `(tactic| (k_here; (with_reducible rename St _ _ _ _ _ => kS); (with_reducible rename Rest _ _ => kR); k_dflt (refine' inSetS ?h0 kS ?hm ?hs ?hl ?hb ?_; (case h0 => with_reducible assumption); (case hm => tb_rel); (case hs => with_reducible assumption); (case hl => with_reducible assumption); (case hb => with_reducible assumption)); (intro s' hr' kS'); (have kR' := Rest.comp kR hr'); clear kS kR hr'; (have kF := kS'.F); (have kN := kS'.N); (try k_sweep)))
local macro_rules | `(tactic| walk_at "compareOp NotIn int ref") => `(tactic| (k_here; (with_reducible rename St _ _ _ _ _ => kS); (with_reducible rename Rest _ _ => kR); k_dflt (refine' notinSetS ?h0 kS ?hm ?hs ?hl ?hb ?_; (case h0 => with_reducible assumption); (case hm => tb_rel); (case hs => with_reducible assumption); (case hl => with_reducible assumption); (case hb => with_reducible assumption)); (intro s' hr' kS'); (have kR' := Rest.comp kR hr'); clear kS kR hr'; (have kF := kS'.F); (have kN := kS'.N); (try k_sweep)))
local macro_rules | `(tactic| walk_at "call builtin:set.add") => `(tactic| (k_here; (with_reducible rename St _ _ _ _ _ => kS); (with_reducible rename Rest _ _ => kR); k_dflt (refine' addSetS ?h0 kS ?hm ?hs ?hl ?hb ?_; (case h0 => with_reducible assumption); (case hm => tb_rel); (case hs => with_reducible assumption); (case hl => with_reducible assumption); (case hb => with_reducible assumption)); (intro s' so' hr' kS' hs' hm'); (have kR' := Rest.comp kR hr'); clear kS kR hr'; (have kF := kS'.F); (have kN := kS'.N); (try k_sweep)))
local macro_rules | `(tactic| walk_at "setAdd int") => `(tactic| (k_here; (with_reducible rename St _ _ _ _ _ => kS); (with_reducible rename Rest _ _ => kR); k_dflt (refine' setAddS kS ?hm ?hs ?hl ?hb ?_; (case hm => tb_rel); (case hs => first | with_reducible assumption | with_reducible exact setIs_nil _ _); (case hl => first | with_reducible assumption | exact Nat.zero_le _); (case hb => first | with_reducible assumption | exact List.not_mem_nil)); (intro s' so' hr' kS' hs'); (have kR' := Rest.comp kR hr'); clear kS kR hr'; (have kF := kS'.F); (have kN := kS'.N); (try k_sweep)))
local macro_rules | `(tactic| walk_at "call builtin:len") => `(tactic| (k_here; (with_reducible rename St _ _ _ _ _ => kS); (with_reducible rename Rest _ _ => kR); k_dflt (refine' lenSetS ?h0 kS ?hm ?hs ?hl ?_; (case h0 => with_reducible assumption); (case hm => tb_rel); (case hs => with_reducible assumption); (case hl => with_reducible assumption)); (intro s' t' hr' kS'); (have kR' := Rest.comp kR hr'); clear kS kR hr'; (have kF := kS'.F); (have kN := kS'.N); (try k_sweep)))
local macro_rules | `(tactic| walk_at "getMethod ref") => `(tactic| (k_here; (with_reducible show wpAny _ _ (getMethod (Value.ref _) (Str.ofString "add") _) _ _ _); (with_reducible rename St _ _ _ _ _ => kS); k_dflt (refine' getAddS ?h0 kS ?hm ?hs ?hl ?_; (case h0 => with_reducible assumption); (case hm => tb_rel); (case hs => with_reducible assumption); (case hl => with_reducible assumption))))
local macro_rules | `(tactic| walk_at "eval Set") => `(tactic| (k_here; (with_reducible rename Cx _ _ _ _ _ => kC); (with_reducible rename St _ _ _ _ _ => kS); (with_reducible rename Rest _ _ => kR); k_dflt (refine' setLit1 kC kS ?c ?r ?u ?p ?_; (case c => first | k_is | kernel_rfl!); (case r => kds_road); (case u => kds_road); (case p => kds_road)); (intro d' led' s' hr' kS' l1); (have hm' := cons_mem kS'); (have kR' := Rest.comp kR hr'); clear kS kR hr'; (have kF := kS'.F); (have kN := kS'.N); (try k_sweep)))
local macro_rules | `(tactic| walk_at "call builtin:list.append") => `(tactic| (k_here; (with_reducible rename St _ _ _ _ _ => kS); (with_reducible rename Rest _ _ => kR); k_dflt (refine' appendS ?h0 kS ?hm ?hl ?_; (case h0 => with_reducible assumption); (case hm => tb_rel); (case hl => with_reducible assumption)); (intro s' hr' kS' hm'); (have kR' := Rest.comp kR hr'); clear kS kR hr'; (have kF := kS'.F); (have kN := kS'.N); (try k_sweep)))
local macro_rules | `(tactic| walk_at "truthy ref") => `(tactic| (k_here; (with_reducible rename St _ _ _ _ _ => kS); (with_reducible rename Rest _ _ => kR); k_dflt (refine' truthyListS ?h0 kS ?hm ?hl ?hb ?_; (case h0 => with_reducible assumption); (case hm => tb_rel); (case hl => with_reducible assumption); (case hb => with_reducible assumption)); (intro s' hr' kS'); (have kR' := Rest.comp kR hr'); clear kS kR hr'; (have kF := kS'.F); (have kN := kS'.N); (try k_sweep)))
local macro_rules | `(tactic| walk_at "getMethod ref") => `(tactic| (k_here; (with_reducible show wpAny _ _ (getMethod (Value.ref _) (Str.ofString "append") _) _ _ _); (with_reducible rename St _ _ _ _ _ => kS); k_dflt (refine' getAppendS ?h0 kS ?hm ?_; (case h0 => with_reducible assumption); (case hm => tb_rel))))

local macro_rules | `(tactic| walk_at "call type:set nil nil") => `(tactic| (k_here; (with_reducible rename St _ _ _ _ _ => kS); (with_reducible rename Rest _ _ => kR); k_dflt (refine' newSetS kS ?_); (intro d' led' s' hr' kS' l1); (have hm' := cons_mem kS'); (have kR' := Rest.comp kR hr'); clear kS kR hr'; (have kF := kS'.F); (have kN := kS'.N); (try k_sweep)))
local macro_rules | `(tactic| walk_at "getMethod ref") => `(tactic| (k_here; (with_reducible show wpAny _ _ (getMethod (Value.ref _) (Str.ofString "update") _) _ _ _); (with_reducible rename St _ _ _ _ _ => kS); k_dflt (refine' getUpdateS ?h0 kS ?hm ?hs ?hl ?_; (case h0 => with_reducible assumption); (case hm => tb_rel); (case hs => with_reducible assumption); (case hl => with_reducible assumption))))
local macro_rules | `(tactic| walk_at "call builtin:set.update") => `(tactic| (k_here; (with_reducible rename St _ _ _ _ _ => kS); (with_reducible rename Rest _ _ => kR); k_dflt (refine' updateSetS ?h0 ?h1 kS ?ma ?mb ?ne ?hs ?hso ?hn ?hl ?h2 ?hfr ?_; (case h0 => with_reducible assumption); (case h1 => with_reducible assumption); (case ma => tb_rel); (case mb => tb_rel); (case ne => tb_start); (case hs => with_reducible assumption); (case hso => with_reducible assumption); (case hn => with_reducible assumption); (case hl => with_reducible assumption); (case h2 => with_reducible assumption); (case hfr => with_reducible assumption)); (intro s' so' hr' kS' hs' hm'); (have kR' := Rest.comp kR hr'); clear kS kR hr'; (have kF := kS'.F); (have kN := kS'.N); (try k_sweep)))


open PySem
/-- the lowest of its piece -/
def Low (G : Gr) (i : Nat) : Prop := ∀ j, j < i → ¬ Reach G j i
theorem Reach.trans {G : Gr} {x y z : Nat} (h : Reach G x y) (h' : Reach G y z) : Reach G x z := by
  induction h' with
  | refl => exact h
  | step _ e ih => exact ih.step e
theorem Reach.symm {G : Gr} (hs : ∀ i j, G.has i j → G.has j i) {x y : Nat} (h : Reach G x y) : Reach G y x := by
  induction h with
  | refl => exact .refl
  | step _ e ih => exact (Reach.step .refl (hs _ _ e)).trans ih
open Classical in
noncomputable def remG (G : Gr) : Nat → Nat → Nat
  | 0, _ => 0
  | k + 1, i => (if Low G i then 1 else 0) + remG G k (i + 1)
theorem remG_low {G : Gr} {k i : Nat} (h : Low G i) : remG G (k + 1) i = remG G k (i + 1) + 1 := by
  rw [remG, if_pos h, Nat.add_comm]
theorem remG_not {G : Gr} {k i : Nat} (h : ¬ Low G i) : remG G (k + 1) i = remG G k (i + 1) := by
  rw [remG, if_neg h, Nat.zero_add]
/-- the pieces from node i on -/
noncomputable def rem (G : Gr) (i : Nat) : Nat := remG G (G.n - i) i
theorem Reach.lt {G : Gr} (hok : GOk G) {x y : Nat} (hx : x < G.n) (h : Reach G x y) : y < G.n := by
  induction h with
  | refl => exact hx
  | step _ e ih => obtain ⟨p, hp, rfl⟩ := List.mem_map.mp e; exact hok.lt _ ih p hp
theorem closed_all {G : Gr} {sl : List Nat} {i : Nat} (hi : i ∈ sl) (hcl : ∀ x ∈ sl, Cl G sl x) {y : Nat} (h : Reach G i y) : y ∈ sl := by
  induction h with
  | refl => exact hi
  | step _ e ih => exact hcl _ ih _ e
/-- what one turn finds -/
theorem cc_step {G : Gr} {seen sl : List Nat} {i : Nat} (hok : GOk G) (hsym : ∀ i j, G.has i j → G.has j i) (hsn : seen.Nodup) (hsm : ∀ x, x ∈ seen ↔ x < G.n ∧ ∃ y, y < i ∧ Reach G y x) (hx : i ∉ seen) (hF : Found G i sl) (hi : i < G.n)
    (hcl : (sl.length : Int) = (G.n : Int) - (seen.length : Int) ∨ ∀ x ∈ sl, Cl G sl x) :
    (seen ++ sl).Nodup ∧ (∀ x ∈ seen ++ sl, x < G.n) ∧ (∀ x, x ∈ seen ++ sl ↔ x < G.n ∧ ∃ y, y < i + 1 ∧ Reach G y x) ∧ sl ≠ [] := by
  have hdis : ∀ x ∈ seen, ∀ y ∈ sl, x ≠ y := fun x hxs y hy e => by
    subst e
    obtain ⟨_, z, hz, hzr⟩ := (hsm x).mp hxs
    exact hx ((hsm i).mpr ⟨hi, z, hz, hzr.trans ((hF.all x hy).2.symm hsym)⟩)
  have hnd : (seen ++ sl).Nodup := List.nodup_append.mpr ⟨hsn, hF.nodup, hdis⟩
  have hlt : ∀ x ∈ seen ++ sl, x < G.n := fun x hx => by
    rcases List.mem_append.mp hx with h | h
    · exact ((hsm x).mp h).1
    · exact (hF.all x h).1
  have hreach : ∀ x, Reach G i x → x ∈ sl := fun x hr => by
    rcases hcl with h | h
    · have hlen : (seen ++ sl).length = G.n := by rw [List.length_append]; omega
      have hcov : ∀ y ∈ List.range G.n, y ∈ seen ++ sl := fun y hy => by
        refine Classical.byContradiction fun hn => ?_
        have := nodup_lt_length G.n (y :: (seen ++ sl)) (List.nodup_cons.mpr ⟨hn, hnd⟩) fun z hz => by
          rcases List.mem_cons.mp hz with rfl | hz
          · exact List.mem_range.mp hy
          · exact hlt z hz
        rw [List.length_cons] at this; omega
      rcases List.mem_append.mp (hcov x (List.mem_range.mpr (hr.lt hok hi))) with h1 | h1
      · obtain ⟨_, z, hz, hzr⟩ := (hsm x).mp h1
        exact absurd ((hsm i).mpr ⟨hi, z, hz, hzr.trans (hr.symm hsym)⟩) hx
      · exact h1
    · exact closed_all hF.mem h hr
  refine ⟨hnd, hlt, fun x => ?_, fun e => by have := hF.mem; rw [e] at this; cases this⟩
  rw [List.mem_append, hsm x]
  constructor
  · rintro (⟨h1, y, h2, h3⟩ | h1)
    · exact ⟨h1, y, by omega, h3⟩
    · exact ⟨(hF.all x h1).1, i, by omega, (hF.all x h1).2⟩
  · rintro ⟨h1, y, h2, h3⟩
    by_cases hy : y = i
    · subst hy; exact .inr (hreach x h3)
    · exact .inl ⟨h1, y, by omega, h3⟩
set_option maxHeartbeats 8000000 in
theorem cc_c {w : World} {A : Around} {s : Shared} {h₀ : Heap} {env : Env} {L : Addr} {a : GA} {G : Gr} {m : Str → Option Value} {gl rest fr : List (Addr × Obj)} {R : Result → Shared → Prop}
  (C : Cx w A env L h₀) (S : St h₀ L m (gl ++ (rest ++ fr)) s.heap) (H : GraphIn w gl a G) {g : Addr} (hg : a.g = g) (hok : GOk G) (hn : G.n ≤ 5) (hsym : ∀ i j, G.has i j → G.has j i)
  (hroom : A.depth < recursionLimit)
  (h : ∀ gb Lg ga o s' gs m', Fr h₀ L gb m → h₀.StaysIn gb → Ground w gb → St gb Lg m' ((ga, o) :: (gl ++ (rest ++ fr))) s'.heap → IsGenO o s.gens.size → s'.gens = s.gens.push gs → s'.os = s.os → Lg < ga → gs.bare = true →
    (∀ (A' : Around) (cl : List Addr) (s'' : Shared), A'.handled = none → A'.depth + 5 < recursionLimit → CS gb Lg (gl ++ rest) cl [] m' s''.heap → gs.Goes (model PP w) A' (ccR gb Lg (gl ++ rest) cl) (ccY gb Lg (gl ++ rest) cl) (rem G 0) (.send .none) s'') →
    R (.ok (.ret (.ref ga))) s') :
  codeAny (model PP w) A (.call (.ref 28) ⟨[.ref g], []⟩) R s := by
  subst hg
  refine genCall (binds := [(Str.ofString "G", .ref a.g)]) C S (by k_is) (by k_is) (BindsTo.of_eq rfl) (locs rfl) (fun gb Lg ga o s' FG st hgr S' ho hgens hos hlt => ?_) hroom
  refine h gb Lg ga o s' _ _ FG st hgr S' ho hgens hos hlt rfl fun A' cl s'' hh hd hcs => ⟨rfl, ?_⟩
  clear FG st S' ho hgens hos hlt h C S
  obtain ⟨cs, rfl, S⟩ := hcs
  have hk0 : ∀ p ∈ cs, s''.heap.get? p.1 = some p.2 := fun p hp => S.get (List.mem_append_right _ (List.mem_append_right _ hp))
  rw [List.nil_append, List.append_assoc] at S
  have hr : Rest s'' s'' := Rest.refl _
  refine seg_func (seg_execs_cons (seg_stmt (withCx hgr (fun C' => ?_) hh)))
  have F := S.F
  have N := S.N
  have X := C'.X
  obtain ⟨mean, mg, mb, T⟩ := C'.T
  have H1 := H.inst
  obtain ⟨t1, t2, t3, gr, H2⟩ := H.dict
  iterate 6 (first | walk1 | (dsimp only; walk1))
  rename St _ _ _ _ _ => S₁
  rename Rest _ _ => hr₁
  rename Addr => sa
  rename Bool => led
  clear C'
  dsimp only
  refine seg_execs_cons (seg_stmt (withCx hgr (fun C' => ?_) hh))
  iterate 8 (first | walk1 | (dsimp only; walk1))
  refine wpAny_call (len_c C'.in1 S₁.mid H rfl (by omega) (by show A'.depth + 0 + 1 < recursionLimit; omega) fun s₂ t₂ hr₂ S₂ => ?_)
  show ((_ : Prop) ∧ (_ : Prop)) ∧ (_ : Prop)
  have hr₂ := Rest.comp hr₁ hr₂
  clear S₁ hr₁
  refine ⟨⟨by omega, by omega⟩, ?_⟩
  have F := S₂.F
  have N := S₂.N
  iterate 1 (first | walk1 | (dsimp only; walk1))
  rename St _ _ _ _ _ => S₃
  rename Rest _ _ => hr₃
  clear C'
  try dsimp only
  refine seg_execs_cons (seg_For (withCxE hgr (fun C' => ?_) hh))
  have F := S₃.F
  have N := S₃.N
  iterate 1 (first | walk1 | (dsimp only; walk1))
  refine iter_graph C' S₃ H (f := 182) (by k_is) (by k_is) (wpAny_call (iter_c C' S₃ H rfl (by show A'.depth + 0 + 1 < recursionLimit; omega) fun s₄ I oI oD ep hr₄ S₄ hD hki hka => ?_))
  refine ⟨I, oI, _, _, _, ep, _, rfl, List.mem_cons_self, S₄, hki, fun p => ?_⟩
  have hr₄ := Rest.comp hr₃ hr₄
  clear S₃ hr₃ F N C' X T
  refine seg_forLoop_ind (fun k n s₀ s => ∃ FF i seen so oI cs', i + k = G.n ∧ n = remG G k i ∧ s.gens = s₀.gens ∧ s.os = s₀.os ∧ cs'.map (·.1) = cs.map (·.1) ∧ (∀ p ∈ cs', s₀.heap.get? p.1 = some p.2) ∧
    St gb Lg (ovr [Str.ofString "v", Str.ofString "c"] FF (fun y => if y = Str.ofString "n" then some (Value.int (↑G.n) s₂.toks) else if y = Str.ofString "seen" then some (Value.ref sa) else List.lookup y [(Str.ofString "G", Value.ref a.g)].reverse))
      ((I, oI) :: (sa, so) :: (gl ++ (rest ++ cs'))) s.heap ∧ KdkIter oI a.nd i (nodeD G.n a.aN).length ep ∧ SetIs w so seen ∧ seen.Nodup ∧ (∀ x, x ∈ seen ↔ x < G.n ∧ ∃ y, y < i ∧ Reach G y x) ∧ (seen = [] → ∃ led, so = freshSet led))
    (fun k n s₀ s ih hJ => ?_) (fun _ => rfl) G.n _ _ _ ⟨_, 0, [], _, _, cs, by omega, rfl, hr₄.1, hr₄.2, rfl, hk0, ((S₄.perm (List.Perm.cons _ List.perm_middle)).ovr [Str.ofString "v", Str.ofString "c"]), hki, setIs_nil w led, by simp, by simp, fun _ => ⟨led, rfl⟩⟩
  clear S₄ hki hr₄ hk0
  obtain ⟨FF, i, seen, so, oI, cs', hik, rfl, hge, hos, hcs, hk0, S, hki, hs, hsn, hsm, hfr⟩ := hJ
  have hl : (nodeD G.n a.aN).length = G.n := by simp [nodeD]
  cases k with
  | zero =>
    have hi : i = (nodeD G.n a.aN).length := by omega
    refine (Iter.keys I a.nd oD (nodeD G.n a.aN) ep hka).done hh S (by rw [hi] at hki; exact hki) (.tail _ (List.mem_append_left _ hD)) fun s₅ hr₅ S₅ => ?_
    refine seg_pop ?_
    show Seg (model PP w) A' _ _ _ _ _ (leafOf (.ok (.ret .none))) [] _
    have hkp : Kept (cs.map (·.1)) s₀.heap s₅.heap := by rw [← hcs]; exact kept_of hk0 fun p hp => S₅.get (.tail _ (List.mem_append_right _ (List.mem_append_right _ hp)))
    have S₅' := S₅
    rw [← List.append_assoc] at S₅'
    exact seg_end (.ok (.ret .none)) ⟨rfl, rfl, hr₅.1.trans hge, hr₅.2.trans hos, hkp, [(sa, so)], _, cs', hcs, S₅'⟩
  | succ k =>
    refine (Iter.keys I a.nd oD (nodeD G.n a.aN) ep hka).item hh S hki (.tail _ (List.mem_append_left _ hD)) (by omega) fun v oI' s₅ hr₅ S₅ hki' hv => ?_
    obtain ⟨key, xv, hkx, hkey⟩ := hv
    obtain rfl := node_key hkx
    obtain ⟨tv, rfl⟩ := Value.isInt_shape hkey
    refine wpAny_assign_Name (storeS S₅ (fun s₆ hr₆ S₆ => ?_) rfl rfl rfl)
    have hr₆ := Rest.comp hr₅ hr₆
    clear S S₅ hr₅ hki
    intro Hh
    have hge' : s₆.gens = s₀.gens := hr₆.1.trans hge
    have hos' : s₆.os = s₀.os := hr₆.2.trans hos
    clear hr₆ hge hos
    have hr : Rest s₆ s₆ := Rest.refl _
    have hlen : seen.length ≤ 1000 := by have := nodup_lt_length G.n seen hsn (fun x hx => ((hsm x).mp hx).1); omega
    have hsaM : (sa, so) ∈ (I, oI') :: (sa, so) :: (gl ++ (rest ++ cs')) := by simp
    have F := S₆.F
    have N := S₆.N
    have X := hgr.X
    obtain ⟨mean, mg, mb, T⟩ := hgr.T
    by_cases hx : i ∈ seen
    · have hb := decide_eq_true hx
      refine seg_execs_cons (seg_If (withCxT hgr (fun C' => ?_) hh))
      iterate 6 (first | walk1 | (dsimp only; walk1))
      rename St _ _ _ _ _ => S₇
      rename Rest _ _ => hr₇
      refine seg_execs_nil (seg_execs_nil (seg_again rfl (ih k (by omega) _ _ _ ⟨_, i + 1, seen, so, oI', cs', by omega, ?_, hr₇.1.trans hge', hr₇.2.trans hos', hcs, hk0, S₇.agree ?_, hki', hs, hsn, ?_, hfr⟩)))
      · exact remG_not fun hlow => by obtain ⟨_, y, hy, hyr⟩ := (hsm i).mp hx; exact hlow y hy hyr
      · (intro y hy; (simp only [List.mem_cons, List.not_mem_nil, or_false, not_or] at hy); simp only [ovr, hy, if_false, or_self, List.mem_cons, List.not_mem_nil, ite_self])
      · intro x
        rw [hsm x]
        refine ⟨fun ⟨h1, y, h2, h3⟩ => ⟨h1, y, by omega, h3⟩, fun ⟨h1, y, h2, h3⟩ => ⟨h1, ?_⟩⟩
        by_cases hy : y = i
        · subst hy
          obtain ⟨_, z, hz, hzr⟩ := (hsm y).mp hx
          exact ⟨z, hz, hzr.trans h3⟩
        · exact ⟨y, by omega, h3⟩
    · have hb := decide_eq_false hx
      refine seg_execs_cons (seg_If (withCxT hgr (fun C' => ?_) hh))
      iterate 6 (first | walk1 | (dsimp only; walk1))
      rename St _ _ _ _ _ => S₇
      rename Rest _ _ => hr₇
      clear C'
      try dsimp only
      refine seg_execs_cons (seg_stmt (withCx hgr (fun C' => ?_) hh))
      iterate 21 (first | walk1 | (dsimp only; walk1))
      rename St _ _ _ _ _ => S₇
      rename Rest _ _ => hr₇
      refine' wpAny_call (bfs_c (src := i) (gl := gl) (rest := [(I, oI'), (sa, so)] ++ (rest ++ cs')) C' ?hS H rfl hok (by omega) (by omega) ?hroom ?k)
      case hS => exact S₇.perm (List.perm_append_comm_assoc [(_, _), (_, _)] gl (rest ++ cs'))
      case hroom => show A'.depth + 1 + 0 < recursionLimit; omega
      intro s₈ ca co sl hr₈ S₈ hab hs2 hF hcl
      have S₈ := S₈.perm (List.Perm.cons _ (List.perm_append_comm_assoc gl [(_, _), (_, _)] (rest ++ cs')))
      replace hr₈ := Rest.comp hr₇ hr₈
      clear S₇ hr₇
      obtain ⟨hnd, h5, hall, hne2⟩ := cc_step hok hsym hsn hsm hx hF (by omega) hcl
      have hn5 : ∀ x ∈ seen ++ sl, x < 5 := fun x hx => by have := h5 x hx; omega
      have F := S₈.F
      have N := S₈.N
      have hcaM : (ca, co) ∈ (ca, co) :: (I, oI') :: (sa, so) :: (gl ++ (rest ++ cs')) := List.mem_cons_self
      have hne : sa ≠ ca := Nat.ne_of_lt (hab (sa, so) (List.mem_append_right _ (by simp)))
      have hsaM : (sa, so) ∈ (ca, co) :: (I, oI') :: (sa, so) :: (gl ++ (rest ++ cs')) := by simp
      dsimp only
      iterate 1 (first | walk1 | (dsimp only; walk1))
      rename St _ _ _ _ _ => S₉
      rename Rest _ _ => hr₉
      clear C'
      try dsimp only
      refine seg_execs_cons (seg_stmt (withCx hgr (fun C' => ?_) hh))
      have F := S₉.F
      have N := S₉.N
      iterate 9 (first | walk1 | (dsimp only; walk1))
      rename St _ _ _ _ _ => T₁
      rename Rest _ _ => hr₁₀
      rename (SetIs _ _ (seen ++ sl)) => hs3
      rename Obj => so3
      replace T₁ : St gb Lg _ ((I, oI') :: (sa, so3) :: (gl ++ (rest ++ cs'))) _ := (St.put_at (pre := [(_, _), (_, _)]) T₁).tl
      clear C'
      try dsimp only
      refine seg_execs_cons ?_
      rw [remG_low fun j hj hjr => hx ((hsm i).mpr ⟨by omega, j, hj, hjr⟩)]
      refine seg_Expr_Yield rfl rfl rfl (withCxE hgr (fun C' => ?_) hh)
      have F := T₁.F
      have N := T₁.N
      iterate 1 (first | walk1 | (dsimp only; walk1))
      intro kap hkap
      have T₂ := T₁
      rw [← List.append_assoc] at T₂
      refine ⟨hr₁₀.1.trans hge', hr₁₀.2.trans hos', (by rw [← hcs]; exact kept_of hk0 fun p hp => T₁.get (.tail _ (.tail _ (List.mem_append_right _ (List.mem_append_right _ hp))))), [(I, oI'), (sa, so3)], _, ⟨cs', hcs, T₂⟩, fun z hz => hkap .none z ?_⟩
      obtain ⟨cs2, hcs2, U⟩ := hz
      rw [List.append_assoc] at U
      replace U : St gb Lg _ ((I, oI') :: (sa, so3) :: (gl ++ (rest ++ cs2))) _ := U
      exact seg_execs_nil (seg_execs_nil (seg_again rfl (ih k (by omega) _ _ _ ⟨_, i + 1, seen ++ sl, so3, oI', cs2, by omega, rfl, rfl, rfl, hcs2, fun p hp => U.get (.tail _ (.tail _ (List.mem_append_right _ (List.mem_append_right _ hp)))), U.agree (by (intro y hy; (simp only [List.mem_cons, List.not_mem_nil, or_false, not_or] at hy); simp only [ovr, hy, if_false, or_self, List.mem_cons, List.not_mem_nil, ite_self])), hki', hs3, hnd, hall, fun e => absurd (List.append_eq_nil_iff.mp e).2 hne2⟩)))

end Mine
end
section
open PySem PySem.W PySem.Calls PyProof.Rows
set_option maxRecDepth 100000
namespace Mine
/-- the object that holds the running sum -/
def accO (i : Nat) (t : Tok) (c : Nat) : Obj := { cls := .type "list", dict := none, data := .seq #[.int (i : Nat) t] c, slots := #[] }
/-- an iterator that gives ones: J n: n are left -/
structure Ones (w : World) (A : Around) (I S : Addr) (J : Nat → Shared → Prop) (Jend : Shared → Prop) : Prop where
  item : ∀ n (s : Shared) (o : Obj) (Q : Option Value → Shared → Prop) (E : Value → Shared → Prop), J (n + 1) s → s.heap.get? S = some o →
    (∀ s' t b, b = 1 → J n s' → s'.heap.get? S = some o → Q (some (.int b t)) s') → wpAny (model PP w) A (pyNext (.ref I)) Q E s
  done : ∀ (s : Shared) (Q : Option Value → Shared → Prop) (E : Value → Shared → Prop), J 0 s → (∀ s', Jend s' → Q none s') → wpAny (model PP w) A (pyNext (.ref I)) Q E s
  acc : ∀ n (s s' : Shared), J n s → Heap.SameBut S s.heap s'.heap → (∃ o, s'.heap.get? S = some o) → s'.gens = s.gens → s'.os = s.os → J n s'
theorem sum_loop {w : World} {A : Around} {I S : Addr} {J : Nat → Shared → Prop} {Jend : Shared → Prop} {R : Result → Shared → Prop} (W : Ones w A.in1 I S J Jend) :
    ∀ (n i : Nat) (s : Shared) (tA : Tok) (c : Nat), i + n ≤ 1000000 → J n s → s.heap.get? S = some (accO i tA c) → (∀ s' t, Jend s' → R (.ok (.ret (.int ((i + n : Nat) : Int) t))) s') →
      codeAny (model PP w) A (.builtin "sum.loop" ⟨[.ref I, .ref S, rawInt 0, rawInt 0], []⟩) R s := by
  intro n
  induction n with
  | zero =>
    intro i s tA c hb hJ hS hR
    refine codeAny_builtin F.entry_sum_loop ?_
    rw [Around.under_plainId F.plain_sum_loop _]
    show wpAny _ A.in1 (seqItems? (.ref S) >>= _) _ _ s
    refine wpAny_bind (wpAny_seqItems hS rfl ?_)
    show wpAny _ A.in1 (tryCatch (pyNext (.ref I)) _ >>= _) _ _ s
    refine wpAny_bind (wpAny_tryCatch (W.done s _ _ hJ fun s' hj => ?_))
    exact wpAny_pure (hR s' tA hj)
  | succ n ih =>
    intro i s tA c hb hJ hS hR
    refine codeAny_builtin F.entry_sum_loop ?_
    rw [Around.under_plainId F.plain_sum_loop _]
    show wpAny _ A.in1 (seqItems? (.ref S) >>= _) _ _ s
    refine wpAny_bind (wpAny_seqItems hS rfl ?_)
    show wpAny _ A.in1 (tryCatch (pyNext (.ref I)) _ >>= _) _ _ s
    refine wpAny_bind (wpAny_tryCatch (W.item n s _ _ _ hJ hS fun s' t b hb1 hJ' hS' => ?_))
    have hc : ((decide (-(2 ^ 63) ≤ b) && decide (b < 2 ^ 63)) && (decide (-(2 ^ 63) ≤ ((i : Nat) : Int) + b) && decide (((i : Nat) : Int) + b < 2 ^ 63))) = true := by
      subst hb1
      simp only [Bool.and_eq_true, decide_eq_true_eq]; omega
    show wpAny _ A.in1 (if (_ : Bool) = true then (mkInt (((i : Nat) : Int) + b) >>= _) else _) _ _ _
    split
    · subst hb1
      refine wpAny_bind (wpAny_mkInt ?_)
      show wpAny _ A.in1 (updateSeq S (fun _ => #[.int (((i : Nat) : Int) + 1) _]) >>= _) _ _ _
      refine wpAny_bind ?_
      refine wpAny_updateSeq hS' rfl (wpAny_pure ⟨plainId_quiet F.plain_sum_loop _, ih (i + 1) _ s'.toks _ (by omega) (W.acc n s' _ hJ' (Heap.SameBut.update _ _ _) ⟨_, Heap.get?_update_self _ hS' rfl⟩ rfl rfl) (Heap.get?_update_self _ hS' rfl) fun s'' t'' hj => ?_⟩)
      have := hR s'' t'' hj
      rwa [show i + (n + 1) = i + 1 + n by omega] at this
    · rename_i hneg
      exact absurd hc hneg
theorem call_sum_ones {w : World} {A : Around} {E : Value → Shared → Prop} {s : Shared} {x : Value} {Q : Value → Shared → Prop}
    (h : wpAny (model PP w) A.in1 (pyIter x) (fun it s₂ => ∃ I n J Jend, it = .ref I ∧ n ≤ 1000 ∧ Ones w A.in1 I s₂.heap.objs.size J Jend ∧ (∀ o tk, o.isFreed = false → J n { s₂ with heap := s₂.heap.push o, toks := tk }) ∧
      ∀ s' t, Jend s' → Q (.int (n : Nat) t) s') E s) : wpAny (model PP w) A (call (.builtin "sum") [x]) Q E s := by
  refine call_function_tree F.kind_sum F.plain_sum F.entry_sum (F.args_sum1 _) ?_
  unfold Builtin.«sum»
  simp only [List.length_cons, List.length_nil]
  rw [if_neg (by decide)]
  refine wpAny_bind (wpAny_of_eq (show Builtin.Builtins.bindParams "sum" ["start"] 0 { } = pure [none] from rfl) ?_)
  refine wpAny_bind (wpAny_mono h (fun it s₂ h₂ => ?_) fun _ _ e => e)
  obtain ⟨I, n, J, Jend, rfl, hn, W, hJ, hQ⟩ := h₂
  refine wpAny_bind (wpAny_mkInt ?_)
  refine wpAny_bind (wpAny_pure ?_)
  simp only [List.forIn_cons, List.forIn_nil]
  refine wpAny_bind (wpAny_bind (wpAny_bind (wpAny_isInstance (T := "int") (b := false) (typeIs_int _ _ _) PySem.sub_int_str ?_)))
  simp only [Bool.false_eq_true, if_false]
  refine wpAny_pure (wpAny_bind (wpAny_bind (wpAny_isInstance (T := "int") (b := false) (typeIs_int _ _ _) PySem.sub_int_bytes ?_)))
  simp only [Bool.false_eq_true, if_false]
  refine wpAny_pure (wpAny_bind (wpAny_bind (wpAny_isInstance (T := "int") (b := false) (typeIs_int _ _ _) PySem.sub_int_bytearray ?_)))
  simp only [Bool.false_eq_true, if_false]
  refine wpAny_pure (wpAny_pure ?_)
  refine wpAny_bind (wpAny_newObj_type ?_)
  exact wpAny_pure ⟨plainId_quiet F.plain_sum_loop _, sum_loop W n 0 _ s₂.toks 0 (by omega) (hJ _ _ rfl) (Heap.get?_push_size _ rfl) fun s' t hj => by rw [Nat.zero_add]; exact hQ s' t hj⟩
end Mine
end
section
open PySem PySem.W PySem.Calls PyProof.Rows
set_option maxRecDepth 100000
namespace Mine
/-- the table of a def's code object: what a generator expression has left there -/
def TabOk (pos : Pos) (o : Obj) : Prop := ∃ ps : Array Value, o = tabObj ps ∧ TriplesOk ps.toList ∧ (ps = #[] ∨ ∃ c', codeAmong pos ps.toList = some c')
theorem TabOk.nil (pos : Pos) : TabOk pos (tabObj #[]) := ⟨#[], rfl, True.intro, .inl rfl⟩
section
variable {prog : Program} {w : World} {A : Around} {E : Value → Shared → Prop} {s : Shared}
theorem wpAny_pyNext_genQ {a : Addr} {g n : Nat} {gs : GenState} {P : Nat → Shared → Shared → Prop} {Y : Protocol} {Q : Option Value → Shared → Prop} (hh : A.handled = none)
    (hl : s.heap.NoLimit) (hroom : A.depth < recursionLimit)
    (hg : s.heap.IsGen a g) (hgs : s.gens[g]? = some gs)
    (hgo : gs.Goes (model prog w) A.in1 (fun n s₀ r s₁ => r = .ok (.ret .none) ∧ P n s₀ s₁) Y n (.send .none) (s.setGen g .running))
    (hY : ∀ v s₁ gs', gs'.bare = true → Y (n - 1) (s.setGen g .running) v s₁ (fun r' s'' => match n with
        | 0 => False
        | m + 1 => gs'.Goes (model prog w) A.in1 (fun n s₀ r s₁ => r = .ok (.ret .none) ∧ P n s₀ s₁) Y m r' s'') → Q (some v) (s₁.setGen g gs'))
    (hP : ∀ s₁, P n (s.setGen g .running) s₁ → ∀ h', (∀ b o, s₁.heap.get? b = some o → h'.get? b = some o) → Q none { s₁.setGen g .finished with heap := h' }) :
    wpAny (model prog w) A (pyNext (.ref a)) Q E s := by
  unfold pyNext
  refine wpAny_bind (wpAny_attempt (wpAny_callSpecial?_slot (name := Str.ofString "__next__") hg.typeIs slot_gen_next
    (wpAny_call_entry slot_gen_next hg.typeIs entry_gen_next ?_ (args_gen_next _))))
  show wpAny _ A.in1 (Builtin.Generator.genWake (.ref a) (.send .none)) _ _ s
  unfold Builtin.Generator.genWake
  refine wpAny_bind (wpAny_holding (wpAny_genNumber hg (wpAny_bind (wpAny_genState hgs ?_))))
  cases gs with
  | running => exact hgo.elim
  | finished => exact hgo.elim
  | _ =>
    refine wpAny_bind (wpAny_roomToWake hl hroom ?_)
    show wpAny _ A.in1 (.resume g (.send .none) [] _) _ _ s
    refine wpAny_resumeQ hgs hgo (fun x s₁ hx => ?_) (fun v s₁ gs' hb hv => ?_)
    · obtain ⟨rfl, hp⟩ := hx
      show wpAny _ A.in1 (newExc (.type "StopIteration") [] >>= _) _ _ _
      refine wpAny_bind ?_
      simp only [newExc, newTuple]
      refine wpAny_bind (wpAny_newObj_type ?_ (by size_fits))
      refine wpAny_bind (m := firstArgMember _ _) (wpAny_of_eq (a := Value.none) (by first | rfl | (simp only [firstArgMember]; rfl)) ?_)
      refine wpAny_newObj_type ?_ (by size_fits)
      simp only [raiseNew]
      refine wpAny_bind (wpAny_bind (wpAny_handled ?_))
      first | rw [show A.in1.handled = none from hh] | rw [hh]
      refine wpAny_throw ?_
      refine wpAny_bind (wpAny_isInstance (T := "StopIteration") (b := true) ⟨_, Heap.get?_push_size _ rfl, rfl⟩ isSubtype_stop ?_)
      exact wpAny_pure (hP s₁ hp _ fun b o hb => Heap.get?_push_of_some _ (Heap.get?_push_of_some _ hb))
    · exact wpAny_pure ⟨v, rfl, wpAny_pure (hY v s₁ gs' hb hv)⟩
end

section
variable {w : World} {A : Around} {E : Value → Shared → Prop} {s : Shared} {h₀ : Heap} {env : Env} {L : Addr} {m : Str → Option Value}
/-- a generator expression is made -/
theorem genMake {c P : Addr} {elt target iter : PySem.Expr} {ifs : List PySem.Expr} {scope : Scope} {pos : Pos} {clo : List (Str × Addr)} {Q : Value → Shared → Prop}
    (C : Cx w A env L h₀) (hcode : env.code = .ref c) (HC : CodeHd h₀ c P) (hclos : closureFor scope env = pure clo) (hcell : ∀ y ∈ scope.names, y.2 ≠ .cell) (h0 : scope.names.lookup (".0" : Str) = some NameKind.local) (hkind : scope.kind = .function)
    (hco : scope.isCoroutine = false) (hroom : A.depth < recursionLimit) (hG : env.globals = mainGlobals)
    (h : wpAny (model PP w) A (eval iter env) (fun xv s₁ => wpAny (model PP w) A (pyIter xv) (fun it s₂ => ∃ news oT, St h₀ L m news s₂.heap ∧ (P, oT) ∈ news ∧ TabOk pos oT ∧
      ∀ oT' Lx gx oLx og s₃ code, TabOk pos oT' → s₃.os = s₂.os →
        s₃.gens = s₂.gens.push (.fresh (.compStart (.GeneratorExp elt [⟨target, iter, ifs, 0⟩] scope pos) 0 it .none (genEnv scope clo Lx code builtinsNs env))) → IsGenO og s₂.gens.size → og.dict = none →
        Heap.ExtBut P s₂.heap s₃.heap → s₃.heap.get? P = some oT' → s₃.heap.get? Lx = some oLx → s₃.heap.get? gx = some og → s₂.heap.objs.size ≤ Lx → Lx < gx →
        s₃.heap.Ns Lx (fun y => if y = ".0" then some it else none) → Q (.ref gx) s₃) E s₁) E s)
    (hs : ∀ x, genFold iter env x = pure x) :
    wpAny (model PP w) A (eval (.GeneratorExp elt [⟨target, iter, ifs, 0⟩] scope pos) env) Q E s := by
  obtain ⟨mean, mg, mb, T⟩ := C.T
  refine wpAny_GeneratorExp_make hco hclos hcell h0 hkind hroom (wpAny_mono h (fun xv s₁ h₁ => wpAny_mono h₁ (fun it s₂ h₂ => ?_) fun _ _ e => e) fun _ _ e => e) hs
  obtain ⟨news, oT, S, hPm, ⟨ps, rfl, htr, hps⟩, k⟩ := h₂
  have hP : s₂.heap.get? P = some (tabObj ps) := S.get hPm
  have HC₂ := HC.keeps S.F.keep
  refine ⟨T.nolimit.keeps S.F.keep, ?_⟩
  obtain ⟨bm, ob, b1, b2, b3, b4, b5, b6⟩ := T.bmain
  have hgs := T.g.keeps S.F.keep
  have hbo := S.F.keep _ _ b3
  have hgP : mainGlobals ≠ P := fun q => by
    obtain ⟨o, es, ep, e, hd, _⟩ := hgs
    rw [q, hP] at e; cases e; cases hd
  have hbP : bm ≠ P := fun q => by rw [q, hP] at hbo; cases hbo; cases b4
  -- what follows, whatever the code object is
  have tail : ∀ (code : Value) (h₃ : Heap) (tk : Tok) (ps' : Array Value), Heap.ExtBut P s₂.heap h₃ → h₃.get? P = some (tabObj ps') → TabOk pos (tabObj ps') → s₂.heap.objs.size ≤ h₃.objs.size →
      wpAny (model PP w) A (builtinsFor env.globals env.builtins) (fun bi s₄ => ∀ h', h'.Ns s₄.heap.objs.size (fun y => if y = ".0" then some it else none) → Heap.SameBut s₄.heap.objs.size (s₄.heap.push { cls := .type "frame", data := .dict #[] }) h' →
          Q (.ref h'.objs.size) { s₄ with
            gens := s₄.gens.push (.fresh (.compStart (.GeneratorExp elt [⟨target, iter, ifs, 0⟩] scope pos) 0 it .none (genEnv scope clo s₄.heap.objs.size code bi env))),
            toks := s₄.toks + 1 + 1 + 1,
            heap := h'.push { cls := .type "generator", data := .fields #[.int s₄.gens.size 0, .str "<genexpr>" (s₄.toks + 1), .str (env.qual ++ "<genexpr>") (s₄.toks + 1 + 1)] } }) E { s₂ with heap := h₃, toks := tk } := by
    intro code h₃ tk ps' hx hP' hok hsz
    refine wpAny_builtinsFor (hG ▸ hgs.extBut hx hgP) b1 b2 (hx _ _ hbP hbo) b4 b5 b6 fun h' hns hsb => ?_
    have hlt : h₃.objs.size < h'.objs.size := hns.lt
    have old : ∀ b o, h₃.get? b = some o → h'.get? b = some o := fun b o e => hsb.extBut b o (Nat.ne_of_lt (Heap.lt_size e)) (Heap.get?_push_of_some _ e)
    obtain ⟨oX, es, ep, hX, _⟩ := id hns
    refine k (tabObj ps') h₃.objs.size h'.objs.size oX _ _ code hok rfl rfl ⟨_, _, rfl, rfl, rfl⟩ rfl (fun b o hb e => Heap.get?_push_of_some _ (old b o (hx b o hb e))) (Heap.get?_push_of_some _ (old _ _ hP')) (Heap.get?_push_of_some _ hX) (Heap.get?_push_size _ rfl) hsz hlt (hns.push _)
  rcases hps with rfl | ⟨c', hc'⟩
  · refine wpAny_genexprCodeX hcode (HC₂.code hP htr) (HC₂.tab hP) rfl fun c' h' tk hx hge hlt hic _ htb _ => ?_
    refine tail _ h' tk _ hx htb.2 ⟨_, rfl, ?_, .inr ⟨.ref c', ?_⟩⟩ (Nat.le_trans hge (Nat.le_of_lt hlt))
    · simp [TriplesOk, rawInt]
    · simp [codeAmong, rawInt]
  · exact wpAny_genexprCode_hit hcode (HC₂.code hP htr) hc' (tail c' s₂.heap s₂.toks ps (Heap.ExtBut.refl _ _) hP ⟨ps, rfl, htr, .inr ⟨c', hc'⟩⟩ (Nat.le_refl _))
/-- the ledger behind the making of a generator expression -/
theorem St.made {news : List (Addr × Obj)} {h h' : Heap} {P Lx gx : Addr} {oT oT' oX og : Obj} (S : St h₀ L m news h) (hm : (P, oT) ∈ news) (hx : Heap.ExtBut P h h') (hP : h'.get? P = some oT') (hX : h'.get? Lx = some oX) (hg : h'.get? gx = some og)
    (h1 : h.objs.size ≤ Lx) (h2 : Lx < gx) : St h₀ L m ((gx, og) :: (Lx, oX) :: put P oT' news) h' := by
  have hPn := S.N _ hm
  have hLlt := S.F.ns.lt
  have hf : ∀ b, h.objs.size ≤ b → h₀.get? b = none := fun b hb => by
    cases e : h₀.get? b with
    | none => rfl
    | some o => exact absurd (Heap.lt_size (S.F.keep b o e)) (Nat.not_lt.mpr hb)
  refine ⟨⟨S.F.ns.extBut hx hPn.2.1.symm, fun b o e => hx b o (fun q => by rw [q, hPn.2.2] at e; cases e) (S.F.keep b o e), S.F.above⟩, fun p hp => ?_, ?_, S.low.1, fun p hp => ?_⟩
  · rcases List.mem_cons.mp hp with rfl | hp
    · exact ⟨hg, Nat.ne_of_gt (Nat.lt_of_lt_of_le hLlt (Nat.le_trans h1 (Nat.le_of_lt h2))), hf _ (Nat.le_trans h1 (Nat.le_of_lt h2))⟩
    · rcases List.mem_cons.mp hp with rfl | hp
      · exact ⟨hX, Nat.ne_of_gt (Nat.lt_of_lt_of_le hLlt h1), hf _ h1⟩
      · obtain ⟨a, x⟩ := p
        rcases of_mem_put hp with ⟨rfl, rfl⟩ | ⟨hn, hq⟩
        · exact ⟨hP, hPn.2⟩
        · exact ⟨hx _ _ hn (S.N _ hq).1, (S.N _ hq).2⟩
  · rw [List.map_cons, List.map_cons, put_fst, List.nodup_cons, List.nodup_cons]
    refine ⟨fun hm' => ?_, fun hm' => ?_, S.D⟩
    · rcases List.mem_cons.mp hm' with e | hm'
      · have e' : gx = Lx := e
        exact absurd h2 (by rw [e']; exact Nat.lt_irrefl _)
      · obtain ⟨p, hp, e⟩ := List.mem_map.mp hm'
        exact absurd (S.lt p hp) (by rw [e]; exact Nat.not_lt.mpr (Nat.le_trans h1 (Nat.le_of_lt h2)))
    · obtain ⟨p, hp, e⟩ := List.mem_map.mp hm'
      exact absurd (S.lt p hp) (by rw [e]; exact Nat.not_lt.mpr h1)
  · have lo : 1 < h.objs.size := Nat.lt_trans S.low.1 hLlt
    rcases List.mem_cons.mp hp with rfl | hp
    · exact Nat.lt_of_lt_of_le lo (Nat.le_trans h1 (Nat.le_of_lt h2))
    · rcases List.mem_cons.mp hp with rfl | hp
      · exact Nat.lt_of_lt_of_le lo h1
      · obtain ⟨a, x⟩ := p
        rcases of_mem_put hp with ⟨rfl, rfl⟩ | ⟨_, hq⟩
        · exact (S.low.2 _ hm : 1 < a)
        · exact S.low.2 _ hq
end
end Mine
end
section
open PySem PySem.W PySem.Calls PyProof.Rows
set_option maxRecDepth 100000
namespace Mine
theorem St.keepAll {h₀ h h' : Heap} {L : Addr} {m : Str → Option Value} {news : List (Addr × Obj)} (S : St h₀ L m news h) (hk : ∀ b o, h.get? b = some o → h'.get? b = some o) : St h₀ L m news h' :=
  ⟨S.F.keeps hk, fun p hp => ⟨hk _ _ (S.N p hp).1, (S.N p hp).2⟩, S.D, S.low⟩
def GenOnlyB (g : Nat) (a b : Array GenState) : Prop := b.size = a.size ∧ (∀ k, k ≠ g → b[k]? = a[k]?) ∧ ∀ x, b[g]? = some x → x.bare = true
def CSx (gb : Heap) (Lg : Addr) (all kl : List (Addr × Obj)) (Lx Sa : Addr) (pl : List (Addr × Obj)) (mg : Str → Option Value) (h : Heap) : Prop :=
  ∃ oX oS, St gb Lg mg (pl ++ (all ++ (kl ++ [(Lx, oX), (Sa, oS)]))) h ∧ ∃ mx, h.Ns Lx mx
def clOf (kl : List (Addr × Obj)) (Lx Sa : Addr) : List Addr := kl.map (·.1) ++ [Lx, Sa]
theorem CSx.cs {gb : Heap} {Lg : Addr} {all kl : List (Addr × Obj)} {Lx Sa : Addr} {pl : List (Addr × Obj)} {mg : Str → Option Value} {h : Heap} (x : CSx gb Lg all kl Lx Sa pl mg h) : CS gb Lg all (clOf kl Lx Sa) pl mg h :=
  let ⟨oX, oS, S, _⟩ := x; ⟨_, by simp [clOf], S⟩
theorem cs_eq {h : Heap} : ∀ {cs cs0 : List (Addr × Obj)}, cs.map (·.1) = cs0.map (·.1) → (∀ p ∈ cs, h.get? p.1 = some p.2) → (∀ p ∈ cs0, h.get? p.1 = some p.2) → cs = cs0
  | [], [], _, _, _ => rfl
  | [], _ :: _, e, _, _ => by cases e
  | _ :: _, [], e, _, _ => by cases e
  | (a, x) :: r, (b, y) :: r0, e, h1, h2 => by
    rw [List.map_cons, List.map_cons] at e
    injection e with e1 e2
    have e1' : a = b := e1
    subst e1'
    have hx := h1 (a, x) (.head _)
    have hy := h2 (a, y) (.head _)
    rw [hx] at hy
    have hxy : x = y := Option.some.inj hy
    rw [hxy, cs_eq e2 (fun p hp => h1 p (.tail _ hp)) fun p hp => h2 p (.tail _ hp)]
/-- what the inner generator has kept -/
theorem CSx.of_kept {gb : Heap} {Lg : Addr} {all kl : List (Addr × Obj)} {Lx Sa : Addr} {pl pl' : List (Addr × Obj)} {mg mg' : Str → Option Value} {h h' : Heap} (x : CSx gb Lg all kl Lx Sa pl mg h) (hk : Kept (clOf kl Lx Sa) h h')
    (c : CS gb Lg all (clOf kl Lx Sa) pl' mg' h') : CSx gb Lg all kl Lx Sa pl' mg' h' ∧ ∀ o, h.get? Sa = some o → h'.get? Sa = some o := by
  obtain ⟨oX, oS, S, mx, hns⟩ := x
  obtain ⟨cs, hcs, S'⟩ := c
  have key : ∀ p ∈ kl ++ [(Lx, oX), (Sa, oS)], h'.get? p.1 = some p.2 := fun p hp => hk p.1 (by
    unfold clOf
    rcases List.mem_append.mp hp with h1 | h1
    · exact List.mem_append_left _ (List.mem_map.mpr ⟨p, h1, rfl⟩)
    · refine List.mem_append_right _ ?_
      rcases List.mem_cons.mp h1 with rfl | h1
      · exact .head _
      · rw [List.mem_singleton.mp h1]; exact .tail _ (.head _)) p.2 (S.get (List.mem_append_right _ (List.mem_append_right _ hp)))
  have e : cs = kl ++ [(Lx, oX), (Sa, oS)] := cs_eq (by rw [hcs]; simp [clOf]) (fun p hp => S'.get (List.mem_append_right _ (List.mem_append_right _ hp))) key
  subst e
  refine ⟨⟨oX, oS, S', mx, hns.at' fun o e => hk Lx (by simp [clOf]) o e⟩, fun o e => hk Sa (by simp [clOf]) o e⟩
theorem CSx.keeps {gb : Heap} {Lg : Addr} {all kl : List (Addr × Obj)} {Lx Sa : Addr} {pl : List (Addr × Obj)} {mg : Str → Option Value} {h h' : Heap} (x : CSx gb Lg all kl Lx Sa pl mg h) (hk : ∀ b o, h.get? b = some o → h'.get? b = some o) : CSx gb Lg all kl Lx Sa pl mg h' :=
  let ⟨oX, oS, S, mx, hns⟩ := x; ⟨oX, oS, S.keepAll hk, mx, hns.keeps hk⟩
/-- a change at the genexp's own names -/
theorem CSx.setX {gb : Heap} {Lg : Addr} {all kl : List (Addr × Obj)} {Lx Sa : Addr} {pl : List (Addr × Obj)} {mg : Str → Option Value} {h h' : Heap} {mx : Str → Option Value} (x : CSx gb Lg all kl Lx Sa pl mg h) (hs : Heap.SameBut Lx h h') (hn : h'.Ns Lx mx) :
    CSx gb Lg all kl Lx Sa pl mg h' ∧ ∀ o, h.get? Sa = some o → h'.get? Sa = some o := by
  obtain ⟨oX, oS, S, _⟩ := x
  obtain ⟨o', es, ep, ho', r⟩ := id hn
  have hne : Sa ≠ Lx := fun e => by
    have D := S.D
    rw [List.map_append, List.map_append, List.map_append, List.nodup_append] at D
    have D2 := D.2.1
    rw [List.nodup_append] at D2
    have D3 := D2.2.1
    rw [List.nodup_append] at D3
    have := D3.2.1
    simp at this; exact this e.symm
  have S' := S.change (List.mem_append_right _ (List.mem_append_right _ (List.mem_append_right _ (.head _)))) hs ho'
  have e : put Lx o' (pl ++ (all ++ (kl ++ [(Lx, oX), (Sa, oS)]))) = pl ++ (all ++ (kl ++ [(Lx, o'), (Sa, oS)])) := by
    have D := S.D
    rw [show pl ++ (all ++ (kl ++ [(Lx, oX), (Sa, oS)])) = (pl ++ all ++ kl) ++ (Lx, oX) :: [(Sa, oS)] by simp, List.map_append, List.map_cons, List.nodup_append] at D
    obtain ⟨_, D2, D3⟩ := D
    rw [List.nodup_cons] at D2
    rw [show pl ++ (all ++ (kl ++ [(Lx, oX), (Sa, oS)])) = (pl ++ all ++ kl) ++ (Lx, oX) :: [(Sa, oS)] by simp, put_append, put_cons, if_pos rfl, put_id (l := pl ++ all ++ kl) fun p hp e => D3 _ (List.mem_map.mpr ⟨p, hp, rfl⟩) Lx (by simp) e,
      put_id (l := [(Sa, oS)]) fun p hp e => D2.1 (List.mem_map.mpr ⟨p, hp, e⟩)]
    simp
  rw [e] at S'
  exact ⟨⟨o', oS, S', _, hn⟩, fun o e => (hs.2 Sa hne).trans e⟩
/-- a change at the consumer's running sum -/
theorem CSx.setS {gb : Heap} {Lg : Addr} {all kl : List (Addr × Obj)} {Lx Sa : Addr} {pl : List (Addr × Obj)} {mg : Str → Option Value} {h h' : Heap} (x : CSx gb Lg all kl Lx Sa pl mg h) (hs : Heap.SameBut Sa h h') (hn : ∃ o, h'.get? Sa = some o) :
    CSx gb Lg all kl Lx Sa pl mg h' := by
  obtain ⟨oX, oS, S, mx, hns⟩ := x
  obtain ⟨o', ho'⟩ := hn
  have D := S.D
  rw [show pl ++ (all ++ (kl ++ [(Lx, oX), (Sa, oS)])) = (pl ++ all ++ kl ++ [(Lx, oX)]) ++ [(Sa, oS)] by simp, List.map_append, List.nodup_append] at D
  obtain ⟨_, _, D3⟩ := D
  have hne : Lx ≠ Sa := fun e => D3 Lx (by simp) Sa (by simp) e
  have S' := S.change (List.mem_append_right _ (List.mem_append_right _ (List.mem_append_right _ (.tail _ (.head _))))) hs ho'
  have e : put Sa o' (pl ++ (all ++ (kl ++ [(Lx, oX), (Sa, oS)]))) = pl ++ (all ++ (kl ++ [(Lx, oX), (Sa, o')])) := by
    rw [show pl ++ (all ++ (kl ++ [(Lx, oX), (Sa, oS)])) = (pl ++ all ++ kl ++ [(Lx, oX)]) ++ (Sa, oS) :: [] by simp, put_append, put_cons, if_pos rfl, put_id (l := pl ++ all ++ kl ++ [(Lx, oX)]) fun p hp e => D3 _ (List.mem_map.mpr ⟨p, hp, rfl⟩) Sa (by simp) e,
      put_id (l := ([] : List (Addr × Obj))) fun p hp => by cases hp]
    simp
  rw [e] at S'
  exact ⟨oX, o', S', mx, hns.sameBut hs hne⟩

def gxP (gb : Heap) (Lg : Addr) (all kl : List (Addr × Obj)) (Lx Sa : Addr) (gi : Nat) : Nat → Shared → Shared → Prop := fun n s₀ s =>
  n = 0 ∧ s.os = s₀.os ∧ GenOnlyB gi s₀.gens s.gens ∧ (∀ o, s₀.heap.get? Sa = some o → s.heap.get? Sa = some o) ∧ ∃ pl mg, CSx gb Lg all kl Lx Sa pl mg s.heap
def gxY (gb : Heap) (Lg : Addr) (all kl : List (Addr × Obj)) (Lx Sa : Addr) (gi : Nat) : Protocol := fun _ s₀ v s kap =>
  (∃ t, v = .int 1 t) ∧ s.os = s₀.os ∧ GenOnlyB gi s₀.gens s.gens ∧ (∀ o, s₀.heap.get? Sa = some o → s.heap.get? Sa = some o) ∧ ∃ pl mg, CSx gb Lg all kl Lx Sa pl mg s.heap ∧
    ∀ s'', s''.gens[gi]? = s.gens[gi]? → CSx gb Lg all kl Lx Sa pl mg s''.heap → kap (.send .none) s''
theorem GenOnlyB.step {g : Nat} {s₀ : Array GenState} {s : Shared} {x y : GenState} (h1 : s.gens.size = s₀.size) (h2 : ∀ k, k ≠ g → s.gens[k]? = s₀[k]?) (hy : y.bare = true) (hlt : g < s.gens.size) : GenOnlyB g s₀ ((s.setGen g x).setGen g y).gens := by
  refine ⟨by simp [Shared.setGen, h1], fun k hk => ?_, fun z hz => ?_⟩
  · rw [← h2 k hk]; simp [Shared.setGen, Ne.symm hk]
  · simp [Shared.setGen, hlt] at hz; rw [← hz]; exact hy
theorem gx_loop {w : World} {Ao : Around} {gb : Heap} {Lg : Addr} {all kl : List (Addr × Obj)} {Lx Sa ga : Addr} {gi : Nat} {iter : PySem.Expr} {x : Str} {px cp : Pos} {scope : Scope} {pos : Pos} {cenv : Env} {k1 : Nat} {oga : Obj}
    (hh : Ao.handled = none) (hgr : Ground w gb) (hga : (ga, oga) ∈ kl) (hgo : IsGenO oga gi) (hloc : cenv.locals = Lx) (hx : cenv.kindOf x = some .local) (hk : cenv.scope.kind = .function) (hco : cenv.scope.isCoroutine = false) (hroom : Ao.depth + 1 < recursionLimit) :
    ∀ (n : Nat) (s₀ s : Shared) (gsi : GenState) (pl : List (Addr × Obj)) (mg : Str → Option Value), s.gens[gi]? = some gsi →
      (∀ s'', CS gb Lg all (clOf kl Lx Sa) pl mg s''.heap → gsi.Goes (model PP w) (Ao.over (.compLoop (.GeneratorExp (.Constant (.int 1) k1 cp) [⟨.Name x px, iter, [], 0⟩] scope pos) 0 (.ref ga) .none cenv) []).in1 (ccR gb Lg all (clOf kl Lx Sa)) (ccY gb Lg all (clOf kl Lx Sa)) n (.send .none) s'') →
      CSx gb Lg all kl Lx Sa pl mg s.heap → s.os = s₀.os → s.gens.size = s₀.gens.size → (∀ k, k ≠ gi → s.gens[k]? = s₀.gens[k]?) → (∀ o, s₀.heap.get? Sa = some o → s.heap.get? Sa = some o) →
      Seg (model PP w) Ao (fun n s₀ r s => r = .ok .next ∧ gxP gb Lg all kl Lx Sa gi n s₀ s) (gxY gb Lg all kl Lx Sa gi) n s₀
        (.compLoop (.GeneratorExp (.Constant (.int 1) k1 cp) [⟨.Name x px, iter, [], 0⟩] scope pos) 0 (.ref ga) .none cenv)
        ((model PP w).den (.compLoop (.GeneratorExp (.Constant (.int 1) k1 cp) [⟨.Name x px, iter, [], 0⟩] scope pos) 0 (.ref ga) .none cenv)) [] s := by
  subst hloc
  intro n
  induction n with
  | zero =>
    intro s₀ s gsi pl mg hgs hgoes hcx hos hsz hot hSa
    have hh' : (Ao.over (.compLoop (.GeneratorExp (.Constant (.int 1) k1 cp) [⟨.Name x px, iter, [], 0⟩] scope pos) 0 (.ref ga) .none cenv) []).handled = none := hh
    obtain ⟨mean, mg', mb, T⟩ := hgr.T
    obtain ⟨oX, oS, S, mx, hns⟩ := id hcx
    show Seg _ Ao _ _ _ s₀ _ ((compTurn (.GeneratorExp (.Constant (.int 1) k1 cp) [⟨.Name x px, iter, [], 0⟩] scope pos) 0 (.ref ga) .none cenv).onRaise (leaving cenv)) [] s
    rw [compTurn_gen, Sem.onRaise_eq_wrap]
    refine seg_bind_wrap (wpAny_standAt ?_)
    refine seg_bind_wrap (wpAny_pyNext_genQ (P := ccP gb Lg all (clOf kl cenv.locals Sa)) (Y := ccY gb Lg all (clOf kl cenv.locals Sa)) (n := 0) hh' (T.nolimit.keeps S.F.keep) hroom (hgo.at (S.get (List.mem_append_right _ (List.mem_append_right _ (List.mem_append_left _ hga))))) hgs (hgoes _ hcx.cs) (fun v s₁ gs' hb hv => ?_) fun s₁ hp h' hk' => ?_)
    · obtain ⟨_, _, _, pl', mg'', hc, hkap⟩ := hv
      exact (hkap s₁ hc).elim
    · obtain ⟨_, hg1, hos1, hkp, pl', mg'', hc⟩ := hp
      obtain ⟨c1, c2⟩ := hcx.of_kept hkp hc
      have hlt : gi < s.gens.size := by
        rcases Nat.lt_or_ge gi s.gens.size with h | h
        · exact h
        · rw [Array.getElem?_eq_none h] at hgs; cases hgs
      refine seg_end (.ok .next) ⟨rfl, rfl, hos1.trans hos, ?_, fun o e => hk' _ _ (c2 o (hSa o e)), pl', mg'', c1.keeps hk'⟩
      show GenOnlyB gi s₀.gens (s₁.setGen gi .finished).gens
      have : (s₁.setGen gi .finished).gens = ((s.setGen gi .running).setGen gi .finished).gens := by unfold Shared.setGen; rw [hg1]; rfl
      rw [this]
      exact GenOnlyB.step hsz hot rfl hlt
  | succ n ih =>
    intro s₀ s gsi pl mg hgs hgoes hcx hos hsz hot hSa
    have hh' : (Ao.over (.compLoop (.GeneratorExp (.Constant (.int 1) k1 cp) [⟨.Name x px, iter, [], 0⟩] scope pos) 0 (.ref ga) .none cenv) []).handled = none := hh
    obtain ⟨mean, mg', mb, T⟩ := hgr.T
    obtain ⟨oX, oS, S, mx, hns⟩ := id hcx
    show Seg _ Ao _ _ _ s₀ _ ((compTurn (.GeneratorExp (.Constant (.int 1) k1 cp) [⟨.Name x px, iter, [], 0⟩] scope pos) 0 (.ref ga) .none cenv).onRaise (leaving cenv)) [] s
    rw [compTurn_gen, Sem.onRaise_eq_wrap]
    refine seg_bind_wrap (wpAny_standAt ?_)
    refine seg_bind_wrap (wpAny_pyNext_genQ (P := ccP gb Lg all (clOf kl cenv.locals Sa)) (Y := ccY gb Lg all (clOf kl cenv.locals Sa)) (n := n + 1) hh' (T.nolimit.keeps S.F.keep) hroom (hgo.at (S.get (List.mem_append_right _ (List.mem_append_right _ (List.mem_append_left _ hga))))) hgs (hgoes _ hcx.cs) (fun v s₁ gs' hb hv => ?_) fun s₁ hp h' hk' => ?_)
    · obtain ⟨hg1, hos1, hkp, pl', mg'', hc, hkap⟩ := hv
      obtain ⟨c1, c2⟩ := hcx.of_kept hkp hc
      have hlt : gi < s.gens.size := by
        rcases Nat.lt_or_ge gi s.gens.size with h | h
        · exact h
        · rw [Array.getElem?_eq_none h] at hgs; cases hgs
      have hgens : (s₁.setGen gi gs').gens = ((s.setGen gi .running).setGen gi gs').gens := by unfold Shared.setGen; rw [hg1]; rfl
      have hG : GenOnlyB gi s₀.gens (s₁.setGen gi gs').gens := by rw [hgens]; exact GenOnlyB.step hsz hot hb hlt
      have hself : (s₁.setGen gi gs').gens[gi]? = some gs' := by rw [hgens]; simp [Shared.setGen, hlt]
      refine seg_bind_wrap (wpAny_of_eq (rfl : letOwnedTupleGo (.Name x px) (.ref ga) v = pure ()) ?_)
      obtain ⟨_, _, _, mx1, hns1⟩ := id c1
      refine seg_bind_wrap (wpAny_assign_Name (wpAny_storeName_local (s := s₁.setGen gi gs') hx hns1 (fun h₂ hn₂ hs₂ => ?_) (by rw [hk]; rfl)))
      obtain ⟨d1, d2⟩ := c1.setX hs₂ hn₂
      refine seg_bind_wrap (wpAny_tests_nil ?_)
      simp only [if_true]
      have hy : ∀ v, yieldOut cenv v = yieldValue v := fun v => by simp only [yieldOut, hco, Bool.false_eq_true, if_false]
      simp only [hy]
      rw [Sem.bind_eq_wrap', Sem.bind_eq_wrap', Sem.wrap_wrap, Sem.wrap_wrap]
      refine seg_wrap (wpAny_Constant_int ?_)
      refine seg_at (seg_yield rfl rfl rfl ⟨⟨_, rfl⟩, hos1.trans hos, hG, fun o e => d2 o (c2 o (hSa o e)), pl', mg'', d1, fun s'' hg'' hcx'' => ?_⟩)
      refine seg_again rfl (ih s'' s'' gs' pl' mg'' (hg''.trans hself) (fun s3 hc3 => hkap s3 hc3) hcx'' rfl rfl (fun _ _ => rfl) fun _ e => e)
    · exact absurd hp.1 (Nat.succ_ne_zero n)
theorem gx_start {w : World} {Ao : Around} {R : GenEnd} {Y : Protocol} {n : Nat} {s₀ s : Shared} {ga : Addr} {gi : Nat} {elt target iter : PySem.Expr} {ifs : List PySem.Expr} {scope : Scope} {pos : Pos} {cenv : Env} (hg : s.heap.IsGen ga gi)
    (loop : Seg (model PP w) Ao R Y n s₀ (.compLoop (.GeneratorExp elt [⟨target, iter, ifs, 0⟩] scope pos) 0 (.ref ga) .none cenv) ((model PP w).den (.compLoop (.GeneratorExp elt [⟨target, iter, ifs, 0⟩] scope pos) 0 (.ref ga) .none cenv)) [] s) :
    Seg (model PP w) Ao R Y n s₀ (.compStart (.GeneratorExp elt [⟨target, iter, ifs, 0⟩] scope pos) 0 (.ref ga) .none cenv) ((model PP w).den (.compStart (.GeneratorExp elt [⟨target, iter, ifs, 0⟩] scope pos) 0 (.ref ga) .none cenv)) [] s := by
  show Seg _ Ao _ _ _ s₀ _ ((compStart (.GeneratorExp elt [⟨target, iter, ifs, 0⟩] scope pos) 0 (.ref ga) .none cenv).onRaise (leaving cenv)) [] s
  unfold compStart
  rw [Sem.onRaise_eq_wrap]
  show Seg _ Ao _ _ _ s₀ _ ((ask >>= _).wrap _ _ _ _) [] s
  refine seg_bind_wrap (wpAny_askSetting ?_)
  split
  · exact seg_again rfl loop
  · first
      | exact seg_bind_wrap (wpAny_rule (seg_bind_wrap (wpAny_standAt (seg_bind_wrap (wpAny_pyIter_gen hg (seg_again rfl loop))))))
      | (refine seg_bind_wrap (wpAny_rule ?_); show Seg _ Ao _ _ _ s₀ _ ((standAt iter.pos >>= _).wrap _ _ _ _) [] s; exact seg_bind_wrap (wpAny_standAt (seg_bind_wrap (wpAny_pyIter_gen hg (seg_again rfl loop)))))
theorem setGen_get {s : Shared} {g k : Nat} {x : GenState} (h : k ≠ g) : (s.setGen g x).gens[k]? = s.gens[k]? := by simp [Shared.setGen, Ne.symm h]
theorem setGen_bare {s : Shared} {g : Nat} {x : GenState} (h : AllBare s.gens) (hx : x.bare = true) : AllBare (s.setGen g x).gens := by
  intro y hy
  obtain ⟨i, hi, rfl⟩ := Array.mem_iff_getElem.mp hy
  by_cases e : i = g
  · subst e; simp [Shared.setGen]; exact hx
  · have h1 := setGen_get (s := s) (x := x) e
    rw [Array.getElem?_eq_getElem hi] at h1
    obtain ⟨hi', e'⟩ := Array.getElem?_eq_some_iff.mp h1.symm
    exact e' ▸ h _ (Array.getElem_mem hi')
theorem GenOnlyB.all {g : Nat} {a b : Array GenState} (x : GenOnlyB g a b) (h : AllBare a) : AllBare b := by
  intro y hy
  obtain ⟨i, hi, rfl⟩ := Array.mem_iff_getElem.mp hy
  by_cases e : i = g
  · subst e; exact x.2.2 _ (Array.getElem?_eq_getElem hi)
  · have h1 := x.2.1 i e
    rw [Array.getElem?_eq_getElem hi] at h1
    obtain ⟨hi', e'⟩ := Array.getElem?_eq_some_iff.mp h1.symm
    exact e' ▸ h _ (Array.getElem_mem hi')
end Mine
end
section
open PySem PySem.W PySem.Calls PyProof.Rows
set_option maxRecDepth 100000
namespace Mine

local macro_rules | `(tactic| tb_start) => `(tactic| first | with_reducible assumption | with_reducible exact Ne.symm (by assumption) | (refine' fresh_ne ?l ?h0 ?h; (case l => with_reducible assumption); (case h0 => with_reducible assumption); (case h => tb_rel)) | (refine' Ne.symm (fresh_ne ?l ?h0 ?h); (case l => with_reducible assumption); (case h0 => with_reducible assumption); (case h => tb_rel)))
local macro_rules | `(tactic| tb_rel) => `(tactic| first | with_reducible assumption | with_reducible exact List.mem_cons_self | (with_reducible refine List.mem_cons_of_mem _ ?_; tb_rel) | (with_reducible refine mem_put_self (o := ?oo) ?hh; case hh => tb_rel) | (with_reducible refine mem_put_ne ?h1 ?h2; (case h1 => tb_rel); (case h2 => tb_start)) | (with_reducible refine List.mem_append_left _ ?_; tb_rel) | (with_reducible refine List.mem_append_right _ ?_; tb_rel))
local macro_rules | `(tactic| k_mem) => `(tactic| tb_rel)
local macro_rules | `(tactic| walk_at "compareOp In int ref") => `(tactic| (k_here; (with_reducible rename St _ _ _ _ _ => kS); (with_reducible rename Rest _ _ => kR); k_dflt (refine' in_D (knd := intKind PP _) ?h0 kS ?hm ?hd ?hk ?hv ?_; (case h0 => with_reducible assumption); (case hm => tb_rel); (case hd => first | with_reducible assumption | with_reducible exact isDict_nil _); (case hk => exact intKind_is _ _ _ _); (case hv => first | with_reducible assumption | with_reducible exact isSome_node _ (by assumption) | with_reducible exact isSome_node_none _ (by assumption) | with_reducible exact valueAt_adjS _ _)); (intro s' hr' kS'); (have kR' := Rest.comp kR hr'); clear kS kR hr'; (have kF := kS'.F); (have kN := kS'.N); (try k_sweep)))
local macro_rules | `(tactic| walk_at "compareOp NotIn int ref") => `(tactic| (k_here; (with_reducible rename St _ _ _ _ _ => kS); (with_reducible rename Rest _ _ => kR); k_dflt (refine' notin_D (knd := intKind PP _) ?h0 kS ?hm ?hd ?hk ?hv ?_; (case h0 => with_reducible assumption); (case hm => tb_rel); (case hd => first | with_reducible assumption | with_reducible exact isDict_nil _); (case hk => exact intKind_is _ _ _ _); (case hv => first | with_reducible assumption | with_reducible exact isSome_node _ (by assumption) | with_reducible exact isSome_node_none _ (by assumption) | with_reducible exact valueAt_adjS _ _)); (intro s' hr' kS'); (have kR' := Rest.comp kR hr'); clear kS kR hr'; (have kF := kS'.F); (have kN := kS'.N); (try k_sweep)))
local macro_rules | `(tactic| walk_at "subscriptTail Name Name ref int") => `(tactic| (k_here; (with_reducible show wpAny _ _ (subscriptTail _ _ (Value.ref _) (Value.int _ _)) _ _ _); (with_reducible rename St _ _ _ _ _ => kS); (with_reducible rename Rest _ _ => kR); k_dflt (refine' sub_D (knd := intKind PP _) ?h0 kS ?hm ?hd ?hk ?hv ?_; (case h0 => with_reducible assumption); (case hm => tb_rel); (case hd => first | with_reducible assumption | with_reducible exact isDict_nil _); (case hk => exact intKind_is _ _ _ _); (case hv => first | with_reducible assumption | with_reducible exact valueAt_node _ (by assumption) | with_reducible exact valueAt_stored _ _ _)); (intro s' hr' kS'); (have kR' := Rest.comp kR hr'); clear kS kR hr'; (have kF := kS'.F); (have kN := kS'.N); (try k_sweep)))
local macro_rules | `(tactic| walk_at "subscriptTail Attribute Name Name ref int") => `(tactic| (k_here; (with_reducible show wpAny _ _ (subscriptTail _ _ (Value.ref _) (Value.int _ _)) _ _ _); (with_reducible rename St _ _ _ _ _ => kS); (with_reducible rename Rest _ _ => kR); k_dflt (refine' sub_D (knd := intKind PP _) ?h0 kS ?hm ?hd ?hk ?hv ?_; (case h0 => with_reducible assumption); (case hm => tb_rel); (case hd => first | with_reducible assumption | with_reducible exact isDict_nil _); (case hk => exact intKind_is _ _ _ _); (case hv => first | with_reducible assumption | with_reducible exact valueAt_node _ (by assumption) | with_reducible exact valueAt_stored _ _ _)); (intro s' hr' kS'); (have kR' := Rest.comp kR hr'); clear kS kR hr'; (have kF := kS'.F); (have kN := kS'.N); (try k_sweep)))
local macro_rules | `(tactic| walk_at "subscriptTail Subscript Attribute Name Name ref int") => `(tactic| (k_here; (with_reducible show wpAny _ _ (subscriptTail _ _ (Value.ref _) (Value.int _ _)) _ _ _); (with_reducible rename St _ _ _ _ _ => kS); (with_reducible rename Rest _ _ => kR); k_dflt (refine' sub_D (knd := intKind PP _) ?h0 kS ?hm ?hd ?hk ?hv ?_; (case h0 => with_reducible assumption); (case hm => tb_rel); (case hd => first | with_reducible assumption | with_reducible exact isDict_nil _); (case hk => exact intKind_is _ _ _ _); (case hv => first | with_reducible assumption | with_reducible exact valueAt_node _ (by assumption) | with_reducible exact valueAt_stored _ _ _)); (intro s' hr' kS'); (have kR' := Rest.comp kR hr'); clear kS kR hr'; (have kF := kS'.F); (have kN := kS'.N); (try k_sweep)))
local macro_rules | `(tactic| walk_at "subscriptTail Subscript Name ref int") => `(tactic| (k_here; (with_reducible show wpAny _ _ (subscriptTail _ _ (Value.ref _) (Value.int _ _)) _ _ _); (with_reducible rename St _ _ _ _ _ => kS); (with_reducible rename Rest _ _ => kR); k_dflt (refine' sub_D (knd := intKind PP _) ?h0 kS ?hm ?hd ?hk ?hv ?_; (case h0 => with_reducible assumption); (case hm => tb_rel); (case hd => first | with_reducible assumption | with_reducible exact isDict_nil _); (case hk => exact intKind_is _ _ _ _); (case hv => first | with_reducible assumption | with_reducible exact valueAt_node _ (by assumption) | with_reducible exact valueAt_stored _ _ _)); (intro s' hr' kS'); (have kR' := Rest.comp kR hr'); clear kS kR hr'; (have kF := kS'.F); (have kN := kS'.N); (try k_sweep)))
local macro_rules | `(tactic| walk_at "storeName") => `(tactic| (k_here; (with_reducible rename St _ _ _ _ _ => kS); (with_reducible rename Rest _ _ => kR); k_dflt (refine' storeS kS ?_ ?h1 ?h2 ?h3; (case h1 => exact rfl); (case h2 => exact rfl); (case h3 => exact rfl)); (intro s' hr' kS'); (have kR' := Rest.comp kR hr'); clear kS kR hr'; (have kF := kS'.F); (have kN := kS'.N); (try k_sweep)))
local macro_rules | `(tactic| walk_at "eval Dict nil nil") => `(tactic| (k_here; (with_reducible rename St _ _ _ _ _ => kS); (with_reducible rename Rest _ _ => kR); k_dflt (refine' dictS kS ?_); (intro d' s' hr' kS' l1); (have hm' := cons_mem kS'); (have kR' := Rest.comp kR hr'); clear kS kR hr'; (have kF := kS'.F); (have kN := kS'.N); (try k_sweep)))
local macro_rules | `(tactic| walk_at "setItem ref int ref") => `(tactic| (k_here; (with_reducible rename St _ _ _ _ _ => kS); (with_reducible rename Rest _ _ => kR); k_dflt (refine' set_D (knd := intKind PP _) ?h0 kS ?hm ?hd ?hk ?hz ?_; (case h0 => with_reducible assumption); (case hm => tb_rel); (case hd => first | with_reducible assumption | with_reducible exact isDict_nil _); (case hk => exact intKind_is _ _ _ _); (case hz => first | with_reducible assumption | exact Nat.le_of_ble_eq_true rfl)); (intro s' o' hr' kS' hd' hm'); (have kR' := Rest.comp kR hr'); clear kS kR hr'; (have kF := kS'.F); (have kN := kS'.N); (try k_sweep)))
local macro_rules | `(tactic| walk_at "delItem ref") => `(tactic| (k_here; (with_reducible rename St _ _ _ _ _ => kS); (with_reducible rename Rest _ _ => kR); k_dflt (refine' del_D (knd := intKind PP _) ?h0 kS ?hm ?hd ?hk ?hz ?hl ?_; (case h0 => with_reducible assumption); (case hm => tb_rel); (case hd => first | with_reducible assumption | with_reducible exact isDict_nil _); (case hk => exact intKind_is _ _ _ _); (case hz => with_reducible assumption); (case hl => with_reducible assumption)); (intro s' o' hr' kS' hd' hm'); (have kR' := Rest.comp kR hr'); clear kS kR hr'; (have kF := kS'.F); (have kN := kS'.N); (try k_sweep)))
local macro_rules | `(tactic| walk_at "call builtin:dict.update") => `(tactic| (k_here; (with_reducible rename St _ _ _ _ _ => kS); (with_reducible rename Rest _ _ => kR); k_dflt (refine' update_nil (knd := strKind PP _) (knd' := strKind PP _) ?h0 ?h1 kS ?hm ?hd ?hme ?he ?hde ?_; (case h0 => with_reducible assumption); (case h1 => with_reducible assumption); (case hm => tb_rel); (case hd => first | with_reducible assumption | with_reducible exact isDict_nil _); (case hme => tb_rel); (case he => first | with_reducible assumption | with_reducible exact isDict_nil _); (case hde => tb_start)); (intro s' hr' kS'); (have kR' := Rest.comp kR hr'); clear kS kR hr'; (have kF := kS'.F); (have kN := kS'.N); (try k_sweep)))
local macro_rules | `(tactic| walk_at "call builtin:dict.get") => `(tactic| (k_here; (with_reducible show wpAny _ _ (call _ [_, _, _]) _ _ _); (with_reducible rename St _ _ _ _ _ => kS); (with_reducible rename Rest _ _ => kR); k_dflt (refine' get2_D (knd := intKind PP _) ?h0 kS ?hm ?hd ?hk ?hv ?_; (case h0 => with_reducible assumption); (case hm => tb_rel); (case hd => first | with_reducible assumption | with_reducible exact isDict_nil _); (case hk => exact intKind_is _ _ _ _); (case hv => first | exact getD_of_none (by assumption) | exact getD_of_some (by assumption))); (intro s' hr' kS'); (have kR' := Rest.comp kR hr'); clear kS kR hr'; (have kF := kS'.F); (have kN := kS'.N); (try k_sweep)))
local macro_rules | `(tactic| walk_at "getMethod ref") => `(tactic| (k_here; k_dflt (first
  | ((with_reducible show wpAny _ _ (getMethod (Value.ref _) (Str.ofString "update") _) _ _ _); refine' getM_DU (knd := strKind PP _) ?h0 ?S ?hm ?hd ?_; (case h0 => with_reducible assumption); (case S => assumption); (case hm => tb_rel); (case hd => first | with_reducible assumption | with_reducible exact isDict_nil _))
  | ((with_reducible show wpAny _ _ (getMethod (Value.ref _) (Str.ofString "get") _) _ _ _); refine' getM_DG (knd := intKind PP _) ?h0 ?S ?hm ?hd ?_; (case h0 => with_reducible assumption); (case S => assumption); (case hm => tb_rel); (case hd => first | with_reducible assumption | with_reducible exact isDict_nil _)))))
local macro_rules | `(tactic| walk_at "LeaveK") => `(tactic| ((with_reducible rename St _ _ _ _ _ => kS); (refine leaveS (by assumption) kS ?_); (intro kS'); clear kS; (try dsimp only)))
local macro_rules | `(tactic| walk_at "newTuple") => `(tactic| (k_here; (with_reducible rename St _ _ _ _ _ => kS); (with_reducible rename Rest _ _ => kR); k_dflt (refine' tupS kS ?_ ?hz; (case hz => size_fits)); (intro t' s' hr' kS' l1); (have hm' := cons_mem kS'); (have kR' := Rest.comp kR hr'); clear kS kR hr'; (have kF := kS'.F); (have kN := kS'.N); (try k_sweep)))
local macro_rules | `(tactic| walk_at "newList") => `(tactic| (k_here; (with_reducible rename St _ _ _ _ _ => kS); (with_reducible rename Rest _ _ => kR); k_dflt (refine' listS kS ?_ ?hz; (case hz => size_fits)); (intro t' s' hr' kS' l1); (have hm' := cons_mem kS'); (have kR' := Rest.comp kR hr'); clear kS kR hr'; (have kF := kS'.F); (have kN := kS'.N); (try k_sweep)))
local macro_rules | `(tactic| walk_at "unpackItems ref") => `(tactic| (k_here; (with_reducible rename Cx _ _ _ _ _ => kC); (with_reducible rename St _ _ _ _ _ => kS); (with_reducible rename Rest _ _ => kR); k_dflt (refine' unpackS ?h0 kS ?hm (Cx.hh kC) ?hn ?_; (case h0 => with_reducible assumption); (case hm => tb_rel); (case hn => exact rfl)); (intro s' hr' kS'); (have kR' := Rest.comp kR hr'); clear kS kR hr'; (have kF := kS'.F); (have kN := kS'.N); (try k_sweep)))
local macro_rules | `(tactic| walk_at "compareOp NotEq int int") => `(tactic| first | with_reducible refine ne_int_t (by with_reducible assumption) ?_ | with_reducible refine ne_int_f (by with_reducible assumption) ?_)
local macro_rules | `(tactic| walk_at "compareOp Eq int int") => `(tactic| first | with_reducible refine eq_int_t (by with_reducible assumption) ?_ | with_reducible refine eq_int_f (by with_reducible assumption) ?_)
local macro_rules | `(tactic| walk_at "setAttr ref") => `(tactic| (k_here; (with_reducible rename Cx _ _ _ _ _ => kC); (with_reducible rename St _ _ _ _ _ => kS); (with_reducible rename Rest _ _ => kR); k_dflt (refine' setAttrS kC kS ?h1 ?h2 ?k6 ?k7 ?k8 ?k9 ?k10 ?k11 ?k13 ?_; (case h1 => tb_rel); (case h2 => tb_rel); (case k6 => k_is); (case k7 => k_is); (case k8 => k_is); (case k9 => k_is); (case k10 => k_get); (case k11 => k_put); (case k13 => exact Nat.le_of_ble_eq_true rfl)); (intro s' hr' kS' hm'); (have kR' := Rest.comp kR hr'); clear kS kR hr'; (have kF := kS'.F); (have kN := kS'.N); (try k_sweep)))

local macro_rules | `(tactic| walk_at "subscriptTail Name BinOp ref int") => `(tactic| (k_here; (with_reducible rename St _ _ _ _ _ => kS); k_dflt (refine' subL ?h0 kS ?hm ?hx ?hn ?hh ?_; (case h0 => with_reducible assumption); (case hm => tb_rel); (case hx => first | with_reducible assumption | exact rfl); (case hn => first | decide | omega); (case hh => first | decide | omega))))
local macro_rules | `(tactic| walk_at "subscriptTail Name Constant ref int") => `(tactic| (k_here; (with_reducible rename St _ _ _ _ _ => kS); k_dflt (refine' subL ?h0 kS ?hm ?hx ?hn ?hh ?_; (case h0 => with_reducible assumption); (case hm => tb_rel); (case hx => first | with_reducible assumption | exact rfl); (case hn => first | decide | omega); (case hh => first | decide | omega))))
local macro_rules | `(tactic| walk_at "subscriptTail Name Name ref int") => `(tactic| (k_here; (with_reducible rename St _ _ _ _ _ => kS); k_dflt (refine' subL ?h0 kS ?hm ?hx ?hn ?hh ?_; (case h0 => with_reducible assumption); (case hm => tb_rel); (case hx => first | with_reducible assumption | exact rfl); (case hn => first | decide | omega); (case hh => first | decide | omega))))
local macro_rules | `(tactic| walk_at "subscriptTail Subscript Name Constant ref int") => `(tactic| (k_here; (with_reducible rename St _ _ _ _ _ => kS); k_dflt (refine' subL ?h0 kS ?hm ?hx ?hn ?hh ?_; (case h0 => with_reducible assumption); (case hm => tb_rel); (case hx => first | with_reducible assumption | exact rfl); (case hn => first | decide | omega); (case hh => first | decide | omega))))
local macro_rules | `(tactic| walk_at "subscriptTail Subscript Name Constant BinOp ref int") => `(tactic| (k_here; (with_reducible rename St _ _ _ _ _ => kS); k_dflt (refine' subL ?h0 kS ?hm ?hx ?hn ?hh ?_; (case h0 => with_reducible assumption); (case hm => tb_rel); (case hx => first | with_reducible assumption | exact rfl); (case hn => first | decide | omega); (case hh => first | decide | omega))))
local macro_rules | `(tactic| walk_at "subscriptTail Subscript Name Name ref int") => `(tactic| (k_here; (with_reducible rename St _ _ _ _ _ => kS); k_dflt (refine' subL ?h0 kS ?hm ?hx ?hn ?hh ?_; (case h0 => with_reducible assumption); (case hm => tb_rel); (case hx => first | with_reducible assumption | exact rfl); (case hn => first | decide | omega); (case hh => first | decide | omega))))
local macro_rules | `(tactic| walk_at "subscriptTail List Name ref int") => `(tactic| (k_here; (with_reducible rename St _ _ _ _ _ => kS); k_dflt (refine' subL ?h0 kS ?hm ?hx ?hn ?hh ?_; (case h0 => with_reducible assumption); (case hm => tb_rel); (case hx => first | with_reducible assumption | exact rfl); (case hn => first | decide | omega); (case hh => first | decide | omega))))
local macro_rules | `(tactic| walk_at "subscriptTail List cons Name ref int") => `(tactic| (k_here; (with_reducible rename St _ _ _ _ _ => kS); k_dflt (refine' subL ?h0 kS ?hm ?hx ?hn ?hh ?_; (case h0 => with_reducible assumption); (case hm => tb_rel); (case hx => first | with_reducible assumption | exact rfl); (case hn => first | decide | omega); (case hh => first | decide | omega))))
local macro_rules | `(tactic| walk_at "subscriptTail Subscript Name BinOp ref int") => `(tactic| (k_here; (with_reducible rename St _ _ _ _ _ => kS); k_dflt (refine' subL ?h0 kS ?hm ?hx ?hn ?hh ?_; (case h0 => with_reducible assumption); (case hm => tb_rel); (case hx => first | with_reducible assumption | exact rfl); (case hn => first | decide | omega); (case hh => first | decide | omega))))
local macro_rules | `(tactic| walk_at "getItem ref int") => `(tactic| (k_here; (with_reducible rename St _ _ _ _ _ => kS); k_dflt (refine' getL ?h0 kS ?hm ?hx ?hn ?hh ?_; (case h0 => with_reducible assumption); (case hm => tb_rel); (case hx => first | with_reducible assumption | exact rfl); (case hn => first | decide | omega); (case hh => first | decide | omega))))
local macro_rules | `(tactic| walk_at "setItem ref int int") => `(tactic| (k_here; (with_reducible rename St _ _ _ _ _ => kS); (with_reducible rename Rest _ _ => kR); k_dflt (refine' setL ?h0 kS ?hm ?hn ?hh ?hk ?hv ?_; (case h0 => with_reducible assumption); (case hm => tb_rel); (case hn => first | decide | omega); (case hh => first | decide | omega); (case hk => first | decide | (simp; done) | (simp; omega)); (case hv => first | (simp only [Int.toNat_one, Int.toNat_zero, Int.toNat_natCast, List.set_cons_succ, List.set_cons_zero]; exact rfl) | exact rfl)); (intro s' hr' kS' hm'); (have kR' := Rest.comp kR hr'); clear kS kR hr'; (have kF := kS'.F); (have kN := kS'.N); (try k_sweep)))
local macro_rules | `(tactic| walk_at "call builtin:len") => `(tactic| (k_here; (with_reducible rename St _ _ _ _ _ => kS); (with_reducible rename Rest _ _ => kR); k_dflt (refine' lenListS ?h0 kS ?hm ?hz ?_; (case h0 => with_reducible assumption); (case hm => tb_rel); (case hz => first | with_reducible assumption | omega)); (intro s' t' hr' kS'); (have kR' := Rest.comp kR hr'); clear kS kR hr'; (have kF := kS'.F); (have kN := kS'.N); (try k_sweep)))

local macro_rules | `(tactic| walk_at "eval Name") => `(tactic| (k_here; (with_reducible rename Cx _ _ _ _ _ => kC); (with_reducible rename St _ _ _ _ _ => kS); k_dflt (first
  | (refine' nmL kS ?hv ?_ ?hk ?hx ?hL ?hd; (case hx => exact rfl); (case hk => exact rfl); (case hL => exact rfl); (case hd => decide); (case hv => first | with_reducible assumption | exact rfl))
  | (refine' nmC kS ?hc ?hm ?hd ?_ ?hk ?hx ?hb; (case hx => exact rfl); (case hk => exact rfl); (case hb => decide); (case hc => exact rfl); (case hm => tb_rel); (case hd => with_reducible assumption))
  | (refine' nmF kS ?hc ?hm ?hd ?_ ?hk ?hx ?hb ?hn; (case hx => exact rfl); (case hk => exact rfl); (case hb => decide); (case hn => decide); (case hc => exact rfl); (case hm => tb_rel); (case hd => with_reducible assumption))
  | (refine' nmB kC kS ?he ?hv ?hn ?_ ?hg ?hbb ?hx ?hd; (case hx => exact rfl); (case he => exact rfl); (case hg => exact rfl); (case hbb => exact rfl); (case hd => decide); (case hv => first | boot_fast | exact rfl); (case hn => decide))
  | (refine' nmG kC kS ?he ?_ ?hg ?hx ?hd; (case hx => exact rfl); (case he => exact rfl); (case hg => exact rfl); (case hd => decide)))))
local macro_rules | `(tactic| walk_at "binaryOp Add ref ref") => `(tactic| (k_here; (with_reducible rename St _ _ _ _ _ => kS); (with_reducible rename Rest _ _ => kR); k_dflt (refine' addLS ?h0 ?h1 kS ?hm ?hn ?hz ?_; (case h0 => with_reducible assumption); (case h1 => with_reducible assumption); (case hm => tb_rel); (case hn => tb_rel); (case hz => first | with_reducible assumption | (simp only [List.length_cons, List.length_nil]; omega))); (intro t' s' hr' kS' l1); (have hm' := cons_mem kS'); (have kR' := Rest.comp kR hr'); clear kS kR hr'; (have kF := kS'.F); (have kN := kS'.N); (try k_sweep)))
local macro_rules | `(tactic| walk_at "storeName") => `(tactic| (k_here; (with_reducible rename St _ _ _ _ _ => kS); (with_reducible rename Rest _ _ => kR); k_dflt (refine' storeC kS ?hc ?hm ?hd ?_ ?hk ?hx; (case hx => exact rfl); (case hk => exact rfl); (case hc => exact rfl); (case hm => tb_rel); (case hd => with_reducible assumption)); (intro s' o' hr' kS' hd' hm'); (have kR' := Rest.comp kR hr'); clear kS kR hr'; (have kF := kS'.F); (have kN := kS'.N); (try k_sweep)))
local macro_rules | `(tactic| walk_at "call builtin:all") => `(tactic| (k_here; (with_reducible rename Cx _ _ _ _ _ => kC); (with_reducible rename St _ _ _ _ _ => kS); (with_reducible rename Rest _ _ => kR); k_dflt (refine' allBools (Cx.hh kC) ?h0 kS ?hm ?_; (case h0 => with_reducible assumption); (case hm => tb_rel)); (intro s' hr' kS'); (have kR' := Rest.comp kR hr'); clear kS kR hr'; (have kF := kS'.F); (have kN := kS'.N); (try k_sweep)))
local macro_rules | `(tactic| walk_at "call builtin:any") => `(tactic| (k_here; (with_reducible rename Cx _ _ _ _ _ => kC); (with_reducible rename St _ _ _ _ _ => kS); (with_reducible rename Rest _ _ => kR); k_dflt (refine' anyBools (Cx.hh kC) ?h0 kS ?hm ?_; (case h0 => with_reducible assumption); (case hm => tb_rel)); (intro s' hr' kS'); (have kR' := Rest.comp kR hr'); clear kS kR hr'; (have kF := kS'.F); (have kN := kS'.N); (try k_sweep)))
local macro_rules | `(tactic| walk_at "call type:range") => `(tactic| (k_here; (with_reducible rename St _ _ _ _ _ => kS); (with_reducible rename Rest _ _ => kR); k_dflt (first | refine' rangeS1 kS ?_ | refine' rangeS2 kS ?_); (intro r' t1' t2' t3' s' hr' kS' l1); (have hm' := cons_mem kS'); (have kR' := Rest.comp kR hr'); clear kS kR hr'; (have kF := kS'.F); (have kN := kS'.N); (try k_sweep)))
local macro_rules | `(tactic| walk_at "loadName") => `(tactic| (k_here; (with_reducible rename St _ _ _ _ _ => kS); k_dflt (refine' ldL kS ?hv ?_ ?hk ?hx ?hL; (case hx => exact rfl); (case hk => exact rfl); (case hL => exact rfl); (case hv => first | with_reducible assumption | exact rfl))))

abbrev gxPos : Pos := ⟨14, 15, 14, 51⟩
theorem put_mid {d : Addr} {o o' : Obj} {pre post : List (Addr × Obj)} (D : ((pre ++ (d, o') :: post).map (·.1)).Nodup) : put d o (pre ++ (d, o') :: post) = pre ++ (d, o) :: post := by
  rw [List.map_append, List.map_cons, List.nodup_append] at D
  obtain ⟨_, D2, D3⟩ := D
  rw [List.nodup_cons] at D2
  rw [put_append, put_cons, if_pos rfl, put_id (l := pre) fun p hp e => D3 _ (List.mem_map.mpr ⟨p, hp, rfl⟩) d (by simp) e, put_id (l := post) fun p hp e => D2.1 (List.mem_map.mpr ⟨p, hp, e⟩)]
theorem remG_le (G : Gr) : ∀ k i, remG G k i ≤ k
  | 0, i => Nat.le_refl _
  | k + 1, i => by
    have := remG_le G k (i + 1)
    rw [remG]; split <;> omega
theorem Cx.around {w : World} {A : Around} {env : Env} {L : Addr} {h₀ : Heap} (_C : Cx w A env L h₀) : ∃ A1, A1 = A := ⟨A, rfl⟩
set_option maxHeartbeats 8000000 in
theorem numcc_c {w : World} {A : Around} {s : Shared} {h₀ : Heap} {env : Env} {L : Addr} {a : GA} {G : Gr} {m : Str → Option Value} {gl rest : List (Addr × Obj)} {R : Result → Shared → Prop} {oT : Obj}
  (C : Cx w A env L h₀) (S : St h₀ L m (gl ++ (30, oT) :: rest) s.heap) (hT : TabOk gxPos oT) (H : GraphIn w gl a G) {g : Addr} (hg : a.g = g) (hok : GOk G) (hn : G.n ≤ 5) (hsym : ∀ i j, G.has i j → G.has j i)
  (hroom : A.depth + 20 < recursionLimit)
  (h : ∀ s' oT' t, s'.os = s.os → (AllBare s.gens → AllBare s'.gens) → TabOk gxPos oT' → St h₀ L m (gl ++ (30, oT') :: rest) s'.heap → R (.ok (.ret (.int (rem G 0 : Nat) t))) s') :
  codeAny (model PP w) A (.call (.ref 35) ⟨[.ref g], []⟩) R s := by
  subst hg
  refine enter (binds := [(Str.ofString "G", .ref a.g)]) C S (by k_is) (by k_is) (BindsTo.of_eq rfl) (locs rfl) (fun g₀ L' s₁ hr C' S' => ?_) (by omega)
  have hL := S.low.1
  clear C S
  have F := S'.F
  have N := S'.N
  have X := C'.X
  obtain ⟨mean, mg, mb, T⟩ := C'.T
  iterate 6 (first | walk1 | (dsimp only; walk1))
  rename St _ _ _ _ _ => S'
  rename Cx _ _ _ _ _ => C'
  rename Rest _ _ => hr
  refine genMake (m := fun y => List.lookup y [(Str.ofString "G", Value.ref a.g)].reverse) (c := 34) (P := 30) (clo := []) C' rfl (codeHd_of_K C'.X (by kernel_rfl)) rfl (by decide) rfl rfl rfl (by show A.depth + 1 < recursionLimit; omega) rfl ?_ (fun _ => rfl)
  iterate 6 (first | walk1 | (dsimp only; walk1))
  rename St _ _ _ _ _ => S'
  rename Cx _ _ _ _ _ => C'
  refine ⟨C'.X.keeps S'.F.keep, ?_⟩
  refine wpAny_call (cc_c (gl := gl) (rest := []) (fr := (30, oT) :: rest) C' S' H rfl hok hn hsym (by show A.depth + 1 < recursionLimit; omega) (fun gb Lg ga oga s₂ gsi m₂ FG st hgr SB hoga hgens hos hlt hbare hgoes => ?_))
  refine wpAny_pyIter_gen (hoga.at (SB.get List.mem_cons_self)) ?_
  have SA : St g₀ L' _ ((ga, oga) :: (gl ++ ([] ++ (30, oT) :: rest))) s₂.heap := SB.back FG st S'.low.1 (Heap.SameBut.refl _ _)
  have hPm : ((30 : Addr), oT) ∈ (ga, oga) :: (gl ++ ([] ++ (30, oT) :: rest)) := .tail _ (List.mem_append_right _ (.head _))
  refine ⟨_, oT, SA, hPm, hT, fun oT' Lx gx oLx og s₃ code hT' hos₃ hgens₃ hog _ hx hP' hX hgx hle hlx hns => ?_⟩
  have hput : put 30 oT' ((ga, oga) :: (gl ++ ([] ++ (30, oT) :: rest))) = (ga, oga) :: (gl ++ ((30, oT') :: rest)) := put_mid (pre := (ga, oga) :: gl) (by simpa using SA.D)
  have SB₃ := SB.made hPm hx hP' hX hgx hle hlx
  rw [hput] at SB₃
  have SA₃ := SA.made hPm hx hP' hX hgx hle hlx
  rw [hput] at SA₃
  iterate 1 (first | walk1 | (dsimp only; walk1))
  have hgi : gsi.bare = true := hbare
  have hsz : s₂.gens.size = s₁.gens.size + 1 := by rw [hgens, Array.size_push]
  refine call_sum_ones (wpAny_pyIter_gen (hog.at (SB₃.get List.mem_cons_self)) ?_)
  obtain ⟨A1, hA1⟩ := C'.around
  obtain ⟨kl, hkl⟩ : ∃ kl, kl = ((30, oT') :: rest) ++ [(gx, og), (ga, oga)] := ⟨_, rfl⟩
  obtain ⟨all, hall⟩ : ∃ all, all = gl ++ ([] : List (Addr × Obj)) := ⟨_, rfl⟩
  obtain ⟨os0, hos0⟩ : ∃ os0, os0 = s₃.os := ⟨_, rfl⟩
  obtain ⟨Sa, hSa⟩ : ∃ Sa, Sa = s₃.heap.objs.size := ⟨_, rfl⟩
  refine ⟨gx, rem G 0, fun n s => ∃ gsx gsi pl mg, s.gens[s₂.gens.size]? = some gsx ∧ s.gens[s₁.gens.size]? = some gsi ∧ CSx gb Lg all kl Lx Sa pl mg s.heap ∧ s.os = os0 ∧ (AllBare s₁.gens → AllBare s.gens) ∧
      ∀ s'', s''.gens[s₁.gens.size]? = some gsi → CSx gb Lg all kl Lx Sa pl mg s''.heap → gsx.Goes (model PP w) A1.in1.in1 (fun n s₀ r s => r = .ok .next ∧ gxP gb Lg all kl Lx Sa s₁.gens.size n s₀ s) (gxY gb Lg all kl Lx Sa s₁.gens.size) n (.send .none) s'',
    fun s => (∃ pl mg, CSx gb Lg all kl Lx Sa pl mg s.heap) ∧ s.os = os0 ∧ (AllBare s₁.gens → AllBare s.gens), rfl, ?_, ⟨?_, ?_, ?_⟩, ?_, ?_⟩
  · have := remG_le G (G.n - 0) 0
    unfold rem; omega
  · -- one more
    rintro n s4 o Q E ⟨gsx, gsi', pl, mg4, h1, h2, h3, h4, h5, h6⟩ hS hQ
    obtain ⟨oX, oS, S4, _⟩ := id h3
    obtain ⟨mean4, mg4', mb4, T4⟩ := hgr.T
    have hne : s₁.gens.size ≠ s₂.gens.size := by omega
    have hgm : (gx, og) ∈ pl ++ (all ++ (kl ++ [(Lx, oX), (Sa, oS)])) := by subst hkl; simp
    refine wpAny_pyNext_genexpQ (P := gxP gb Lg all kl Lx Sa s₁.gens.size) (Y := gxY gb Lg all kl Lx Sa s₁.gens.size) (n := n + 1) C'.hh (T4.nolimit.keeps S4.F.keep) (by show A.depth + 1 + 0 < recursionLimit; omega) (hog.at (S4.get hgm)) h1
      (by subst hA1; exact h6 _ ((setGen_get hne).trans h2) h3) (fun v s5 gs' hb hv => ?_) (fun s5 hp h' hk => absurd hp.1 (Nat.succ_ne_zero n))
    obtain ⟨⟨t5, rfl⟩, hos5, hG5, hSa5, pl5, mg5, hc5, hkap⟩ := hv
    have hlt : s₁.gens.size < s5.gens.size := by
      rw [hG5.1]
      rcases Nat.lt_or_ge s₁.gens.size s4.gens.size with h | h
      · simpa [Shared.setGen] using h
      · rw [Array.getElem?_eq_none h] at h2; cases h2
    have e5 := Array.getElem?_eq_getElem hlt
    have e5x : s5.gens[s₂.gens.size]? = some .running := (hG5.2.1 _ hne.symm).trans (setGen_self h1)
    exact hQ (s5.setGen s₂.gens.size gs') t5 1 rfl ⟨gs', _, pl5, mg5, setGen_self e5x, (setGen_get hne).trans e5, hc5, hos5.trans h4, fun hb0 => setGen_bare (hG5.all (setGen_bare (h5 hb0) rfl)) hb, fun s6 e6 c6 => by subst hA1; exact hkap s6 (e6.trans e5.symm) c6⟩ (by subst hSa; exact hSa5 o hS)
  · -- no more
    rintro s4 Q E ⟨gsx, gsi', pl, mg4, h1, h2, h3, h4, h5, h6⟩ hQ
    obtain ⟨oX, oS, S4, _⟩ := id h3
    obtain ⟨mean4, mg4', mb4, T4⟩ := hgr.T
    have hne : s₁.gens.size ≠ s₂.gens.size := by omega
    have hgm : (gx, og) ∈ pl ++ (all ++ (kl ++ [(Lx, oX), (Sa, oS)])) := by subst hkl; simp
    refine wpAny_pyNext_genexpQ (P := gxP gb Lg all kl Lx Sa s₁.gens.size) (Y := gxY gb Lg all kl Lx Sa s₁.gens.size) (n := 0) C'.hh (T4.nolimit.keeps S4.F.keep) (by show A.depth + 1 + 0 < recursionLimit; omega) (hog.at (S4.get hgm)) h1
      (by subst hA1; exact h6 _ ((setGen_get hne).trans h2) h3) (fun v s5 gs' hb hv => ?_) (fun s5 hp h' hk => ?_)
    · obtain ⟨_, _, _, _, pl5, mg5, hc5, hkap⟩ := hv
      exact (hkap s5 rfl hc5).elim
    · obtain ⟨_, hos5, hG5, _, pl5, mg5, hc5⟩ := hp
      exact hQ _ ⟨⟨pl5, mg5, hc5.keeps hk⟩, hos5.trans h4, fun hb0 => setGen_bare (hG5.all (setGen_bare (h5 hb0) rfl)) rfl⟩
  · -- the running sum
    rintro n s4 s5 ⟨gsx, gsi', pl, mg4, h1, h2, h3, h4, h5, h6⟩ hs ho hg5 ho5
    exact ⟨gsx, gsi', pl, mg4, by rw [hg5]; exact h1, by rw [hg5]; exact h2, h3.setS (by subst hSa; exact hs) (by subst hSa; exact ho), ho5.trans h4, fun hb => by rw [hg5]; exact h5 hb, h6⟩
  · -- the start
    intro o tk ho
    have S4 := SB₃.push o ho
    rw [← hSa] at S4
    have hp : List.Perm ((Sa, o) :: (gx, og) :: (Lx, oLx) :: (ga, oga) :: (gl ++ (30, oT') :: rest)) ([] ++ (all ++ (kl ++ [(Lx, oLx), (Sa, o)]))) := by
      subst hkl hall
      classical exact List.perm_iff_count.mpr fun q => by simp only [List.count_append, List.count_cons, List.count_nil]; omega
    have hcx : CSx gb Lg all kl Lx Sa [] m₂ (s₃.heap.push o) := ⟨oLx, o, S4.perm hp, _, hns.push _⟩
    refine ⟨_, gsi, [], m₂, (by rw [hgens₃]; exact Array.getElem?_push_size ..), by rw [hgens₃, hgens]; simp [Array.getElem?_push], hcx, hos0.symm, fun hb => ?_, fun s6 e6 c6 => ?_⟩
    · show AllBare s₃.gens
      rw [hgens₃, hgens]
      exact (AllBare.push hb hgi).push rfl
    · have hga : (ga, oga) ∈ kl := by subst hkl; simp
      obtain ⟨oX6, oS6, S6, _⟩ := id c6
      refine ⟨rfl, gx_start (hoga.at (S6.get (List.mem_append_right _ (List.mem_append_right _ (List.mem_append_left _ hga))))) (gx_loop (Ao := A1.in1.in1) (by subst hA1; exact C'.hh) hgr hga hoga (by exact rfl) (by exact rfl) (by exact rfl) (by exact rfl) (by subst hA1; show A.depth + 1 + 0 + 0 + 1 < recursionLimit; omega) _ s6 s6 gsi [] m₂ e6 (fun s'' hcs => ?_) c6 rfl rfl (fun _ _ => rfl) fun _ e => e)⟩
      subst hall
      exact hgoes _ _ s'' (by subst hA1; exact C'.hh) (by subst hA1; show A.depth + 1 + 0 + 0 + 0 + 1 + 0 + 5 < recursionLimit; omega) hcs
  · -- behind the sum
    rintro s4 t ⟨⟨pl, mg4, oX, oS, S4, _⟩, h4, h5⟩
    have S5 : St g₀ L' _ (gl ++ (30, oT') :: rest) s4.heap := (S4.back FG st S'.low.1 (Heap.SameBut.refl _ _)).sub (by
      subst hkl hall
      refine List.Sublist.trans ?_ (List.sublist_append_right _ _)
      rw [List.append_nil]
      refine List.Sublist.append (List.Sublist.refl _) ?_
      rw [List.append_assoc]
      exact List.sublist_append_left _ _)
    have F := S5.F
    have N := S5.N
    clear SA SA₃ SB SB₃
    iterate 1 (first | walk1 | (dsimp only; walk1))
    rename St _ _ _ _ _ => kS
    refine h s4 oT' t ?_ (fun hb => h5 ?_) hT' kS
    · rw [h4, hos0, hos₃, hos]; exact hr.2
    · have := hr.1; rw [this]; exact hb

end Mine
end
section
open PySem PySem.W PySem.Calls PyProof.Rows
set_option maxRecDepth 100000
namespace Mine
theorem lk_gen_keys : typeLookup (.type "generator") "keys" = pure none := by rw [typeLookup_type, builtinLookup_eq_fast]; kernel_rfl
theorem gen_getattr_none : typeLookup (.type "generator") "__getattr__" = pure none := by rw [typeLookup_type, builtinLookup_eq_fast]; kernel_rfl
theorem slot_gen_getattribute : Slot "generator" "__getattribute__" "object.__getattribute__" :=
  .of (owner := "object") (n := "__getattribute__") (by rw [typeLookup_type, builtinLookup_eq_fast]; kernel_rfl) (by decide +kernel) (by decide +kernel) (by decide +kernel)
    (by first | exact .inl (by decide +kernel) | exact .inr (by decide +kernel)) (by rw [isSubtype_type]; kernel_rfl)
theorem meets_miss_gen (a : Addr) (vs : Array Value) (sl : Array (Option Value)) (name : Str) (u : Tok) (hmiss : typeLookup (.type "generator") name = pure none) (hname : (["__module__", "__name__", "__qualname__", "__doc__", "__annotations__"] : List Str).contains name = false) (hsz : name.length + 100 ≤ sizeLine) :
    Meets (Builtin.«object.__getattribute__» ⟨[.ref a, .str name u], []⟩) (fun A R s => s.heap.get? a = some { cls := .type "generator", dict := none, data := .fields vs, slots := sl } ∧ raisesAttr (.ref a) name A R s) :=
  Meets.of_wp fun prog w A R s hs => by
    obtain ⟨hp, g, d, tk, os⟩ := s
    obtain ⟨hx, hs⟩ := hs
    have hT : (⟨hp, g, d, tk, os⟩ : Shared).TypeIs (.ref a) "generator" := ⟨_, hx, rfl⟩
    unfold Builtin.«object.__getattribute__»
    repeat (any_goals (first | assumption | wp_step))
    simp only [hname, Bool.false_eq_true, if_false]
    repeat (any_goals (first | assumption | wp_step))
    exact wpAny_raiseAttrError hs.1 hs.2 (attrMsg_fits (by decide +kernel) hsz)
theorem getAttr?_miss_gen {prog : Program} {w : World} {A : Around} {E : Value → Shared → Prop} {s : Shared} {a : Addr} {vs : Array Value} {sl : Array (Option Value)} {name : Str} {Q : Option Value → Shared → Prop}
    (hx : s.heap.get? a = some { cls := .type "generator", dict := none, data := .fields vs, slots := sl }) (hmiss : typeLookup (.type "generator") name = pure none) (hname : (["__module__", "__name__", "__qualname__", "__doc__", "__annotations__"] : List Str).contains name = false) (hA : A.handled = none)
    (h : ∀ h' tk, (∀ b o, s.heap.get? b = some o → h'.get? b = some o) → Q none { s with heap := h', toks := tk }) (hsz : name.length + 100 ≤ sizeLine := by size_fits) :
    wpAny (model prog w) A (getAttr? (.ref a) name) Q E s := by
  obtain ⟨hp, g, d, tk, os⟩ := s
  have hT : ∀ tk', (⟨hp, g, d, tk', os⟩ : Shared).TypeIs (.ref a) "generator" := fun _ => ⟨_, hx, rfl⟩
  have f1 := sub_AttributeError
  have f3 := slot_gen_getattribute.lookup
  have f4 := slot_gen_getattribute.bind (.ref a)
  have f5 := gen_getattr_none
  unfold getAttr? getAttrBy? getAttrBy
  repeat (any_goals (first | assumption | exact hT _ | ((with_reducible show wpAny _ _ (call (Value.builtin "object.__getattribute__") _ _) _ _ _); refine call_meets slot_gen_getattribute (hT _) F.entry_object_getattribute (F.args_object_getattribute_2 _ _) (meets_miss_gen a vs sl name _ hmiss hname hsz) ⟨hx, hA, fun h' tk' e hx' => ?_⟩) | wp_step))
  obtain ⟨t', u', he⟩ := hx'.there
  show wpAny _ _ (getattributeRaised _ _ _ _ _ _ _) _ _ _
  unfold getattributeRaised
  repeat (any_goals (first | assumption | wp_step))
  exact h _ _ fun b o e => hx'.of.keeps b o e
/-! `dict.update` from an iterator of pairs -/
structure Upds (w : World) (A : Around) (I d : Addr) (J : Nat → Shared → Prop) (Jend : Shared → Prop) : Prop where
  item : ∀ n (s : Shared) (Q : Option Value → Shared → Prop) (E : Value → Shared → Prop), J (n + 1) s →
    (∀ s' t k tk x kvs, s'.heap.IsTuple t #[.int k tk, x] → s'.heap.DictOf (intKind PP w) d kvs → kvs.length ≤ 1000 → (∀ h' tk', h'.DictOf (intKind PP w) d (stored kvs k x) → Heap.SameBut d s'.heap h' → J n { s' with heap := h', toks := tk' }) → Q (some (.ref t)) s') →
    wpAny (model PP w) A (pyNext (.ref I)) Q E s
  done : ∀ (s : Shared) (Q : Option Value → Shared → Prop) (E : Value → Shared → Prop), J 0 s → (∀ s', Jend s' → Q none s') → wpAny (model PP w) A (pyNext (.ref I)) Q E s
theorem entry_dul : entryFor table "dict.update.loop" = some Builtin.«dict.update.loop» := entryFor_of_tree (by kernel_rfl)
theorem plain_dul : plainId "dict.update.loop" = true := by decide +kernel
theorem upd_loop {w : World} {A : Around} {I d : Addr} {J : Nat → Shared → Prop} {Jend : Shared → Prop} {R : Result → Shared → Prop} (W : Upds w A.in1 I d J Jend) :
    ∀ (n : Nat) (i : Int) (s : Shared), J n s → (∀ s', Jend s' → R (.ok (.ret .none)) s') →
      codeAny (model PP w) A (.builtin "dict.update.loop" ⟨[.ref d, .ref I, rawInt i, .none], []⟩) R s := by
  intro n
  induction n with
  | zero =>
    intro i s hJ hR
    refine codeAny_builtin entry_dul ?_
    rw [Around.under_plainId plain_dul _]
    show wpAny _ A.in1 (pyNext (.ref I) >>= _) _ _ s
    refine wpAny_bind (W.done s _ _ hJ fun s' hj => ?_)
    show wpAny _ _ (Builtin.Dict.addKeywords d [] >>= _) _ _ _
    exact wpAny_bind (wpAny_pure (wpAny_pure (hR s' hj)))
  | succ n ih =>
    intro i s hJ hR
    refine codeAny_builtin entry_dul ?_
    rw [Around.under_plainId plain_dul _]
    show wpAny _ A.in1 (pyNext (.ref I) >>= _) _ _ s
    refine wpAny_bind (W.item n s _ _ hJ fun s' t k tk x kvs ht hd hl hJ' => ?_)
    obtain ⟨oT, hoT, hcT, nT, hdT⟩ := id ht
    have hT : s'.TypeIs (.ref t) "tuple" := ⟨_, hoT, hcT⟩
    show wpAny _ _ (holding [.ref t] _ >>= _) _ _ _
    refine wpAny_bind (wpAny_holding (wpAny_bind (wpAny_tryCatch ?_)))
    unfold Builtin.Dict.pairItems
    refine wpAny_bind (wpAny_typeOf hT ?_)
    rw [if_pos (by decide)]
    refine wpAny_bind (wpAny_seqItems hoT hdT ?_)
    refine wpAny_pure ?_
    show wpAny _ _ (holding [.int k tk, x] (dictSet d (.int k tk) x)) _ _ _
    refine wpAny_holding (wpAny_dictSet_pairs (intKind_is _ _ _ _) hd (fun h' hd' hsb => ?_) ?_)
    · refine wpAny_pure ⟨plainId_quiet plain_dul _, ih (i + 1) _ (hJ' h' _ hd' hsb) hR⟩
    · exact Nat.le_trans hl (Nat.le_of_ble_eq_true rfl)
/-- the call -/
theorem call_update_gen {w : World} {A : Around} {E : Value → Shared → Prop} {s : Shared} {d gx : Addr} {og : Obj} {gi n : Nat} {kvs : List (Int × Value)} {J : Nat → Shared → Prop} {Jend : Shared → Prop} {Q : Value → Shared → Prop} (hh : A.handled = none)
    (hd : s.heap.DictOf (intKind PP w) d kvs) (hg : s.heap.get? gx = some og) (ho : IsGenO og gi) (hod : og.dict = none) (W : Upds w A.in1 gx d J Jend)
    (hJ : ∀ h' tk, (∀ b o, s.heap.get? b = some o → h'.get? b = some o) → J n { s with heap := h', toks := tk }) (hQ : ∀ s', Jend s' → Q .none s') :
    wpAny (model PP w) A (call (.builtin "dict.update") [.ref d, .ref gx]) Q E s := by
  refine wpAny_call (codeAny_call_builtin PySem.F.slot_dict_update.plain PySem.F.entry_dict_update (PySem.F.slot_dict_update.check _ _ _ _ _ _ _ _ hd.typeIs (PySem.F.args_dict_update_2 _ _) ?_))
  obtain ⟨nm, qn, hcG, hdG, hsG⟩ := ho
  obtain ⟨cG, dG, tG, sG⟩ := og
  simp only at hcG hdG hsG hod
  subst hcG hdG hsG hod
  have hG : s.TypeIs (.ref gx) "generator" := ⟨_, hg, rfl⟩
  unfold Builtin.«dict.update»
  refine wpAny_bind ?_
  unfold Builtin.Dict.selfAndRest
  refine wpAny_bind (wpAny_notOrdered_dict hd.typeIs ?_)
  show wpAny _ _ (pure (d, [Value.ref gx])) _ _ _
  refine wpAny_pure ?_
  show wpAny _ _ (Builtin.Dict.updateFrom "dict.update" d (.ref gx) [] .none) _ _ _
  unfold Builtin.Dict.updateFrom
  refine wpAny_bind (wpAny_typeOf hG ?_)
  rw [if_pos (by decide)]
  refine wpAny_bind (getAttr?_miss_gen hg lk_gen_keys (by decide) hh (fun h' tk hk => ?_))
  rw [if_pos (show (none : Option Value).isNone = true from rfl)]
  refine wpAny_bind (wpAny_rule ?_)
  refine wpAny_bind (wpAny_pyIter_gen ⟨_, nm, qn, hk _ _ hg, rfl, rfl, rfl⟩ ?_)
  exact wpAny_pure ⟨plainId_quiet plain_dul _, upd_loop W n 0 _ (hJ h' tk hk) fun s' hj => hQ s' hj⟩
end Mine
end
section
open PySem PySem.W PySem.Calls PyProof.Rows
set_option maxRecDepth 100000
namespace Mine
def isoG (G : Gr) : Nat → Nat → Nat
  | 0, _ => 0
  | k + 1, i => (if (G.adj i).isEmpty = true then 1 else 0) + isoG G k (i + 1)
theorem isoG_le (G : Gr) : ∀ k i, isoG G k i ≤ k
  | 0, _ => Nat.le_refl _
  | k + 1, i => by have := isoG_le G k (i + 1); rw [isoG]; split <;> omega
def DD (w : World) (n : Nat) (od : Obj) : Prop := ∃ kvs : List (Int × Value), od.IsDictOf (intKind PP w) kvs ∧ kvs.length + n ≤ 1000
theorem stored_le {K : Type} [DecidableEq K] (kvs : List (K × Value)) (k : K) (v : Value) : (stored kvs k v).length ≤ kvs.length + 1 := by
  unfold stored; split <;> simp
abbrev CU (gB : Heap) (Lx I d : Addr) (fx pl : List (Addr × Obj)) (m : Str → Option Value) (oI od : Obj) (h : Heap) : Prop := St gB Lx m ((I, oI) :: (d, od) :: (pl ++ fx)) h
def guP (gB : Heap) (Lx d : Addr) (fx : List (Addr × Obj)) : Nat → Shared → Shared → Prop := fun n s₀ s =>
  n = 0 ∧ s.os = s₀.os ∧ s.gens = s₀.gens ∧ ∃ pl m od, St gB Lx m ((d, od) :: (pl ++ fx)) s.heap
def guY (w : World) (gB : Heap) (Lx I d : Addr) (fx : List (Addr × Obj)) : Protocol := fun n s₀ v s kap =>
  ∃ t i ti x pl m oI od, v = .ref t ∧ (t, tupO [.int i ti, x]) ∈ pl ∧ s.os = s₀.os ∧ s.gens = s₀.gens ∧ CU gB Lx I d fx pl m oI od s.heap ∧ DD w (n + 1) od ∧
    ∀ s'' od', CU gB Lx I d fx pl m oI od' s''.heap → DD w n od' → kap (.send .none) s''
theorem gu_loop {w : World} {Ao : Around} {gB : Heap} {Lx I d nd : Addr} {fx : List (Addr × Obj)} {G : Gr} {aN : Nat → Addr} {oD : Obj} {ep : Nat} {elt iter tst : PySem.Expr} {x : Str} {px : Pos} {scope : Scope} {pos : Pos} {cenv : Env}
    (hh : Ao.handled = none) (hka : KdkAt (intKind PP w) oD (nodeD G.n aN) ep) (hD : (nd, oD) ∈ fx) (hloc : cenv.locals = Lx) (hx : cenv.kindOf x = some .local) (hk : cenv.scope.kind = .function) (hco : cenv.scope.isCoroutine = false)
    (Htest : ∀ i t pl m oI od s, i < G.n → CU gB Lx I d fx pl (up x (some (.int (i : Nat) t)) m) oI od s.heap → wpAny (model PP w) (Ao.over (.compLoop (.GeneratorExp elt [⟨.Name x px, iter, [tst], 0⟩] scope pos) 0 (.ref I) .none cenv) []) (isTrue tst cenv (eval tst cenv))
      (fun b s' => b = (G.adj i).isEmpty ∧ Rest s s' ∧ CU gB Lx I d fx pl (up x (some (.int (i : Nat) t)) m) oI od s'.heap) (fun _ _ => False) s)
    (Helt : ∀ i t pl m oI od s, i < G.n → CU gB Lx I d fx pl (up x (some (.int (i : Nat) t)) m) oI od s.heap → wpAny (model PP w) (Ao.over (.compLoop (.GeneratorExp elt [⟨.Name x px, iter, [tst], 0⟩] scope pos) 0 (.ref I) .none cenv) []) (eval elt cenv)
      (fun v s' => ∃ a ti y, v = .ref a ∧ Rest s s' ∧ CU gB Lx I d fx ((a, tupO [.int (i : Nat) ti, y]) :: pl) (up x (some (.int (i : Nat) t)) m) oI od s'.heap) (fun _ _ => False) s) :
    ∀ (k i n : Nat) (s₀ s : Shared) (pl : List (Addr × Obj)) (m : Str → Option Value) (oI od : Obj), i + k = G.n → n = isoG G k i → CU gB Lx I d fx pl m oI od s.heap → KdkIter oI nd i (nodeD G.n aN).length ep → DD w n od → s.os = s₀.os → s.gens = s₀.gens →
      Seg (model PP w) Ao (fun n s₀ r s => r = .ok .next ∧ guP gB Lx d fx n s₀ s) (guY w gB Lx I d fx) n s₀
        (.compLoop (.GeneratorExp elt [⟨.Name x px, iter, [tst], 0⟩] scope pos) 0 (.ref I) .none cenv)
        ((model PP w).den (.compLoop (.GeneratorExp elt [⟨.Name x px, iter, [tst], 0⟩] scope pos) 0 (.ref I) .none cenv)) [] s := by
  subst hloc
  have hl : (nodeD G.n aN).length = G.n := nodeD_length _ _
  intro k
  induction k with
  | zero =>
    intro i n s₀ s pl m oI od hik hn S hki hdd hos hge
    have hi : i = (nodeD G.n aN).length := by omega
    have hh' : (Ao.over (.compLoop (.GeneratorExp elt [⟨.Name x px, iter, [tst], 0⟩] scope pos) 0 (.ref I) .none cenv) []).handled = none := hh
    show Seg _ Ao _ _ _ s₀ _ ((compTurn (.GeneratorExp elt [⟨.Name x px, iter, [tst], 0⟩] scope pos) 0 (.ref I) .none cenv).onRaise (leaving cenv)) [] s
    rw [compTurn_gen, Sem.onRaise_eq_wrap]
    refine seg_bind_wrap (wpAny_standAt ?_)
    refine seg_bind_wrap ((Iter.keys I nd oD (nodeD G.n aN) ep hka).done hh' S (by rw [hi] at hki; exact hki) (.tail _ (List.mem_append_right _ hD)) fun s₁ hr₁ S₁ => ?_)
    exact seg_end (.ok .next) ⟨rfl, hn, hr₁.2.trans hos, hr₁.1.trans hge, pl, m, od, S₁⟩
  | succ k ih =>
    intro i n s₀ s pl m oI od hik hn S hki hdd hos hge
    have hh' : (Ao.over (.compLoop (.GeneratorExp elt [⟨.Name x px, iter, [tst], 0⟩] scope pos) 0 (.ref I) .none cenv) []).handled = none := hh
    show Seg _ Ao _ _ _ s₀ _ ((compTurn (.GeneratorExp elt [⟨.Name x px, iter, [tst], 0⟩] scope pos) 0 (.ref I) .none cenv).onRaise (leaving cenv)) [] s
    rw [compTurn_gen, Sem.onRaise_eq_wrap]
    refine seg_bind_wrap (wpAny_standAt ?_)
    refine seg_bind_wrap ((Iter.keys I nd oD (nodeD G.n aN) ep hka).item hh' S hki (.tail _ (List.mem_append_right _ hD)) (by omega) fun v oI' s₁ hr₁ S₁ hki' hv => ?_)
    obtain ⟨key, xx, hkx, hkey⟩ := hv
    obtain rfl := node_key hkx
    obtain ⟨tk, rfl⟩ := Value.isInt_shape hkey
    refine seg_bind_wrap (wpAny_of_eq (rfl : letOwnedTupleGo (.Name x px) (.ref I) (.int (i : Nat) tk) = pure ()) ?_)
    refine seg_bind_wrap (wpAny_assign_Name (storeS S₁ (fun s₂ hr₂ S₂ => ?_) hk hx rfl))
    have S₂ : CU gB cenv.locals I d fx pl (up x (some (.int (i : Nat) tk)) m) oI' od s₂.heap := S₂
    refine seg_bind_wrap (wpAny_tests_one (wpAny_mono (Htest i tk pl m oI' od s₂ (by omega) S₂) (fun b s₃ h₃ => ?_) fun _ _ f => f.elim))
    obtain ⟨rfl, hr₃, S₃⟩ := h₃
    by_cases hb : (G.adj i).isEmpty = true
    · rw [hb]
      simp only [if_true]
      have hy : ∀ v, yieldOut cenv v = yieldValue v := fun v => by simp only [yieldOut, hco, Bool.false_eq_true, if_false]
      simp only [hy]
      have hn' : n = isoG G k (i + 1) + 1 := by rw [hn, isoG, if_pos hb]; omega
      subst hn'
      rw [Sem.bind_eq_wrap', Sem.bind_eq_wrap', Sem.wrap_wrap, Sem.wrap_wrap]
      refine seg_wrap (wpAny_mono (Helt i tk pl m oI' od s₃ (by omega) S₃) (fun v s₄ h₄ => ?_) fun _ _ f => f.elim)
      obtain ⟨a, ti, y, rfl, hr₄, S₄⟩ := h₄
      have hr := ((hr₁.trans hr₂).trans hr₃).trans hr₄
      refine seg_at (seg_yield rfl rfl rfl ⟨a, (i : Nat), ti, y, _, _, oI', od, rfl, List.mem_cons_self, hr.2.trans hos, hr.1.trans hge, S₄, hdd, fun s'' od' S'' hdd' => ?_⟩)
      exact seg_again rfl (ih (i + 1) _ s'' s'' _ _ oI' od' (by omega) rfl S'' hki' hdd' rfl rfl)
    · have hb' : (G.adj i).isEmpty = false := by simpa using hb
      rw [hb']
      simp only [Bool.false_eq_true, if_false]
      have hn' : n = isoG G k (i + 1) := by rw [hn, isoG, if_neg hb]; omega
      have hr := (hr₁.trans hr₂).trans hr₃
      exact seg_again rfl (ih (i + 1) n s₀ s₃ pl _ oI' od (by omega) hn' S₃ hki' hdd (hr.2.trans hos) (hr.1.trans hge))
end Mine
end
section
open PySem PySem.W PySem.Calls PyProof.Rows
set_option maxRecDepth 100000
namespace Mine
abbrev GoesU (w : World) (A : Around) (gB : Heap) (Lx I d : Addr) (fx : List (Addr × Obj)) (gs : GenState) (n : Nat) (s : Shared) : Prop :=
  gs.Goes (model PP w) A (fun n s₀ r s => r = .ok .next ∧ guP gB Lx d fx n s₀ s) (guY w gB Lx I d fx) n (.send .none) s
def JU (w : World) (A : Around) (gB : Heap) (Lx I d : Addr) (fx : List (Addr × Obj)) (gi : Nat) (os0 : OsState) (B0 : Prop) : Nat → Shared → Prop := fun n s =>
  ∃ gs pl m oI od, s.gens[gi]? = some gs ∧ CU gB Lx I d fx pl m oI od s.heap ∧ DD w n od ∧ s.os = os0 ∧ (B0 → AllBare s.gens) ∧
    ∀ s'' od', CU gB Lx I d fx pl m oI od' s''.heap → DD w n od' → GoesU w A gB Lx I d fx gs n s''
def JEU (gB : Heap) (Lx d : Addr) (fx : List (Addr × Obj)) (os0 : OsState) (B0 : Prop) : Shared → Prop := fun s =>
  (∃ pl m od, St gB Lx m ((d, od) :: (pl ++ fx)) s.heap) ∧ s.os = os0 ∧ (B0 → AllBare s.gens)
theorem gu_upds {w : World} {A : Around} {gB : Heap} {Lx I d gx : Addr} {fx : List (Addr × Obj)} {og : Obj} {gi : Nat} {os0 : OsState} {B0 : Prop} (hh : A.handled = none) (hnl : gB.NoLimit) (hroom : A.depth < recursionLimit) (hm : (gx, og) ∈ fx) (hog : IsGenO og gi) :
    Upds w A gx d (JU w A.in1 gB Lx I d fx gi os0 B0) (JEU gB Lx d fx os0 B0) where
  item := by
    rintro n s Q E ⟨gs, pl, m, oI, od, h1, S, hdd, hos, hba, hgo⟩ hQ
    refine wpAny_pyNext_genexpQ (P := guP gB Lx d fx) (Y := guY w gB Lx I d fx) (n := n + 1) hh (hnl.keeps S.F.keep) hroom (hog.at (S.get (.tail _ (.tail _ (List.mem_append_right _ hm))))) h1 (hgo _ od S hdd) (fun v s5 gs' hb hv => ?_) (fun s5 hp h' hk => absurd hp.1 (Nat.succ_ne_zero n))
    obtain ⟨t, i, ti, x, pl5, m5, oI5, od5, rfl, hmem, hos5, hg5, S5, ⟨kvs, hdd5, hlen⟩, hkap⟩ := hv
    have e5x : s5.gens[gi]? = some .running := by rw [hg5]; exact setGen_self h1
    refine hQ (s5.setGen gi gs') t i ti x kvs (S5.tup (.tail _ (.tail _ (List.mem_append_left _ hmem)))) (S5.dict (.tail _ (.head _)) hdd5) (by omega) fun h' tk' hd' hsb => ?_
    obtain ⟨o', ho', hdo⟩ := Heap.dictOf_iff.mp hd'
    have S6 := St.change S5 (.tail _ (.head _)) hsb ho'
    have S6 : CU gB Lx I d fx pl5 m5 oI5 o' h' := St.put_at (pre := [(_, _)]) (by
      exact S6)
    refine ⟨gs', pl5, m5, oI5, o', setGen_self e5x, S6, ⟨_, hdo, by have := stored_le kvs i x; omega⟩, hos5.trans hos, fun hb0 => setGen_bare (by rw [hg5]; exact setGen_bare (hba hb0) rfl) hb, fun s6 od6 S6 hdd6 => hkap s6 od6 S6 hdd6⟩
  done := by
    rintro s Q E ⟨gs, pl, m, oI, od, h1, S, hdd, hos, hba, hgo⟩ hQ
    refine wpAny_pyNext_genexpQ (P := guP gB Lx d fx) (Y := guY w gB Lx I d fx) (n := 0) hh (hnl.keeps S.F.keep) hroom (hog.at (S.get (.tail _ (.tail _ (List.mem_append_right _ hm))))) h1 (hgo _ od S hdd) (fun v s5 gs' hb hv => ?_) (fun s5 hp h' hk => ?_)
    · obtain ⟨_, _, _, _, pl5, m5, oI5, od5, _, _, _, _, S5, hdd5, hkap⟩ := hv
      have hdd0 : DD w 0 od5 := by obtain ⟨kvs, h1, h2⟩ := hdd5; exact ⟨kvs, h1, by omega⟩
      exact (hkap s5 od5 S5 hdd0).elim
    · obtain ⟨_, hos5, hg5, pl5, m5, od5, S5⟩ := hp
      exact hQ _ ⟨⟨pl5, m5, od5, S5.keepAll hk⟩, hos5.trans hos, fun hb0 => setGen_bare (by rw [hg5]; exact setGen_bare (hba hb0) rfl) rfl⟩
theorem gu_start {w : World} {Ao : Around} {R : GenEnd} {Y : Protocol} {n : Nat} {s₀ s : Shared} {I nd : Addr} {oI : Obj} {i N ep : Nat} {elt target iter : PySem.Expr} {ifs : List PySem.Expr} {scope : Scope} {pos : Pos} {cenv : Env} (hI : s.heap.get? I = some oI) (hki : KdkIter oI nd i N ep)
    (loop : Seg (model PP w) Ao R Y n s₀ (.compLoop (.GeneratorExp elt [⟨target, iter, ifs, 0⟩] scope pos) 0 (.ref I) .none cenv) ((model PP w).den (.compLoop (.GeneratorExp elt [⟨target, iter, ifs, 0⟩] scope pos) 0 (.ref I) .none cenv)) [] s) :
    Seg (model PP w) Ao R Y n s₀ (.compStart (.GeneratorExp elt [⟨target, iter, ifs, 0⟩] scope pos) 0 (.ref I) .none cenv) ((model PP w).den (.compStart (.GeneratorExp elt [⟨target, iter, ifs, 0⟩] scope pos) 0 (.ref I) .none cenv)) [] s := by
  show Seg _ Ao _ _ _ s₀ _ ((compStart (.GeneratorExp elt [⟨target, iter, ifs, 0⟩] scope pos) 0 (.ref I) .none cenv).onRaise (leaving cenv)) [] s
  unfold compStart
  rw [Sem.onRaise_eq_wrap]
  show Seg _ Ao _ _ _ s₀ _ ((ask >>= _).wrap _ _ _ _) [] s
  refine seg_bind_wrap (wpAny_askSetting ?_)
  split
  · exact seg_again rfl loop
  · first
      | exact seg_bind_wrap (wpAny_rule (seg_bind_wrap (wpAny_standAt (seg_bind_wrap (wpAny_pyIter_keyiter (hki.at hI) (seg_again rfl loop))))))
      | (refine seg_bind_wrap (wpAny_rule ?_); show Seg _ Ao _ _ _ s₀ _ ((standAt iter.pos >>= _).wrap _ _ _ _) [] s; exact seg_bind_wrap (wpAny_standAt (seg_bind_wrap (wpAny_pyIter_keyiter (hki.at hI) (seg_again rfl loop)))))
/-- the frame of a generator expression -/
theorem genFrame {h₀ h h' : Heap} {L Lx P gx : Addr} {m mx : Str → Option Value} {news : List (Addr × Obj)} {oT oT' oLx og : Obj} (S : St h₀ L m news h) (hmP : (P, oT) ∈ news) (hx : Heap.ExtBut P h h')
    (S5 : St h₀ L m ((gx, og) :: (Lx, oLx) :: put P oT' news) h') (hle : h.objs.size ≤ Lx) (hlx : Lx < gx) (hns : h'.Ns Lx mx) :
    ∃ gB, Fr h₀ L gB m ∧ h₀.StaysIn gB ∧ St gB Lx mx ((gx, og) :: put P oT' news) h' := by
  obtain ⟨FG, st⟩ := hideS S
  refine ⟨_, FG, st, ⟨hns, fun b o e => ?_, ?_⟩, fun p hp => ⟨?_, ?_, ?_⟩, ?_, ?_, ?_⟩
  · refine hx b o (fun q => ?_) (of_hideAll _ e)
    rw [q, hideAll_none _ (List.mem_map.mpr ⟨_, hmP, rfl⟩)] at e; cases e
  · rw [hideAll_size]; exact hle
  · rcases List.mem_cons.mp hp with rfl | hp
    · exact S5.get (.head _)
    · exact S5.get (.tail _ (.tail _ hp))
  · have D := S5.D
    rw [List.map_cons, List.map_cons, List.nodup_cons, List.nodup_cons] at D
    rcases List.mem_cons.mp hp with rfl | hp
    · exact Nat.ne_of_gt hlx
    · exact fun e => D.2.1 (by show Lx ∈ _; rw [← e]; exact List.mem_map.mpr ⟨p, hp, rfl⟩)
  · rcases List.mem_cons.mp hp with rfl | hp
    · exact Heap.get?_none_of_le (by rw [hideAll_size]; exact Nat.le_of_lt (Nat.lt_of_le_of_lt hle hlx))
    · have : p.1 ∈ (put P oT' news).map (·.1) := List.mem_map.mpr ⟨p, hp, rfl⟩
      rw [put_fst] at this
      exact hideAll_none _ this
  · have D := S5.D
    rw [List.map_cons, List.map_cons, List.nodup_cons, List.nodup_cons] at D
    rw [List.map_cons, List.nodup_cons]
    exact ⟨fun q => D.1 (.tail _ q), D.2.2⟩
  · exact S5.low.2 (Lx, oLx) (.tail _ (.head _))
  · intro p hp
    rcases List.mem_cons.mp hp with rfl | hp
    · exact S5.low.2 _ (.head _)
    · exact S5.low.2 _ (.tail _ (.tail _ hp))
theorem DD.some {w : World} {n k : Nat} {od : Obj} {kvs : List (Int × Value)} (h : od.IsDictOf (intKind PP w) kvs) (hl : kvs.length ≤ k) (hk : k + n ≤ 1000) : DD w n od := ⟨kvs, h, by omega⟩
theorem isTrueCx {w : World} {A : Around} {E : Value → Shared → Prop} {s : Shared} {Q : Bool → Shared → Prop} {env : Env} {L : Addr} {gB : Heap} {tst : PySem.Expr} (X : (hd.heap_39 w.params).In gB) (T : ∃ mean mg mb, Top thinP thinL mean mg mb gB) (hh : A.handled = none)
    (h : Cx w A env L gB → wpAny (model PP w) A (isTrue tst env (eval tst env)) Q E s) (hk : env.scope.kind = .function := by rfl) (hl : env.locals = L := by rfl) : wpAny (model PP w) A (isTrue tst env (eval tst env)) Q E s := h ⟨X, T, hh, hk, hl⟩
theorem evalCx {w : World} {A : Around} {E : Value → Shared → Prop} {s : Shared} {Q : Value → Shared → Prop} {env : Env} {L : Addr} {gB : Heap} {tst : PySem.Expr} (X : (hd.heap_39 w.params).In gB) (T : ∃ mean mg mb, Top thinP thinL mean mg mb gB) (hh : A.handled = none)
    (h : Cx w A env L gB → wpAny (model PP w) A (eval tst env) Q E s) (hk : env.scope.kind = .function := by rfl) (hl : env.locals = L := by rfl) : wpAny (model PP w) A (eval tst env) Q E s := h ⟨X, T, hh, hk, hl⟩
end Mine
end
section
open PySem PySem.W PySem.Calls PyProof.Rows
set_option maxRecDepth 100000
namespace Mine

local macro_rules | `(tactic| tb_start) => `(tactic| first | with_reducible assumption | with_reducible exact Ne.symm (by assumption) | (refine' fresh_ne ?l ?h0 ?h; (case l => with_reducible assumption); (case h0 => with_reducible assumption); (case h => tb_rel)) | (refine' Ne.symm (fresh_ne ?l ?h0 ?h); (case l => with_reducible assumption); (case h0 => with_reducible assumption); (case h => tb_rel)))
local macro_rules | `(tactic| tb_rel) => `(tactic| first | with_reducible assumption | with_reducible exact List.mem_cons_self | (with_reducible refine List.mem_cons_of_mem _ ?_; tb_rel) | (with_reducible refine mem_put_self (o := ?oo) ?hh; case hh => tb_rel) | (with_reducible refine mem_put_ne ?h1 ?h2; (case h1 => tb_rel); (case h2 => tb_start)) | (with_reducible refine List.mem_append_left _ ?_; tb_rel) | (with_reducible refine List.mem_append_right _ ?_; tb_rel))
local macro_rules | `(tactic| k_mem) => `(tactic| tb_rel)
local macro_rules | `(tactic| walk_at "compareOp In int ref") => `(tactic| (k_here; (with_reducible rename St _ _ _ _ _ => kS); (with_reducible rename Rest _ _ => kR); k_dflt (refine' in_D (knd := intKind PP _) ?h0 kS ?hm ?hd ?hk ?hv ?_; (case h0 => with_reducible assumption); (case hm => tb_rel); (case hd => first | with_reducible assumption | with_reducible exact isDict_nil _); (case hk => exact intKind_is _ _ _ _); (case hv => first | with_reducible assumption | with_reducible exact isSome_node _ (by assumption) | with_reducible exact isSome_node_none _ (by assumption) | with_reducible exact valueAt_adjS _ _)); (intro s' hr' kS'); (have kR' := Rest.comp kR hr'); clear kS kR hr'; (have kF := kS'.F); (have kN := kS'.N); (try k_sweep)))
local macro_rules | `(tactic| walk_at "compareOp NotIn int ref") => `(tactic| (k_here; (with_reducible rename St _ _ _ _ _ => kS); (with_reducible rename Rest _ _ => kR); k_dflt (refine' notin_D (knd := intKind PP _) ?h0 kS ?hm ?hd ?hk ?hv ?_; (case h0 => with_reducible assumption); (case hm => tb_rel); (case hd => first | with_reducible assumption | with_reducible exact isDict_nil _); (case hk => exact intKind_is _ _ _ _); (case hv => first | with_reducible assumption | with_reducible exact isSome_node _ (by assumption) | with_reducible exact isSome_node_none _ (by assumption) | with_reducible exact valueAt_adjS _ _)); (intro s' hr' kS'); (have kR' := Rest.comp kR hr'); clear kS kR hr'; (have kF := kS'.F); (have kN := kS'.N); (try k_sweep)))
local macro_rules | `(tactic| walk_at "subscriptTail Name Name ref int") => `(tactic| (k_here; (with_reducible show wpAny _ _ (subscriptTail _ _ (Value.ref _) (Value.int _ _)) _ _ _); (with_reducible rename St _ _ _ _ _ => kS); (with_reducible rename Rest _ _ => kR); k_dflt (refine' sub_D (knd := intKind PP _) ?h0 kS ?hm ?hd ?hk ?hv ?_; (case h0 => with_reducible assumption); (case hm => tb_rel); (case hd => first | with_reducible assumption | with_reducible exact isDict_nil _); (case hk => exact intKind_is _ _ _ _); (case hv => first | with_reducible assumption | with_reducible exact valueAt_node _ (by assumption) | with_reducible exact valueAt_stored _ _ _)); (intro s' hr' kS'); (have kR' := Rest.comp kR hr'); clear kS kR hr'; (have kF := kS'.F); (have kN := kS'.N); (try k_sweep)))
local macro_rules | `(tactic| walk_at "subscriptTail Attribute Name Name ref int") => `(tactic| (k_here; (with_reducible show wpAny _ _ (subscriptTail _ _ (Value.ref _) (Value.int _ _)) _ _ _); (with_reducible rename St _ _ _ _ _ => kS); (with_reducible rename Rest _ _ => kR); k_dflt (refine' sub_D (knd := intKind PP _) ?h0 kS ?hm ?hd ?hk ?hv ?_; (case h0 => with_reducible assumption); (case hm => tb_rel); (case hd => first | with_reducible assumption | with_reducible exact isDict_nil _); (case hk => exact intKind_is _ _ _ _); (case hv => first | with_reducible assumption | with_reducible exact valueAt_node _ (by assumption) | with_reducible exact valueAt_stored _ _ _)); (intro s' hr' kS'); (have kR' := Rest.comp kR hr'); clear kS kR hr'; (have kF := kS'.F); (have kN := kS'.N); (try k_sweep)))
local macro_rules | `(tactic| walk_at "subscriptTail Subscript Attribute Name Name ref int") => `(tactic| (k_here; (with_reducible show wpAny _ _ (subscriptTail _ _ (Value.ref _) (Value.int _ _)) _ _ _); (with_reducible rename St _ _ _ _ _ => kS); (with_reducible rename Rest _ _ => kR); k_dflt (refine' sub_D (knd := intKind PP _) ?h0 kS ?hm ?hd ?hk ?hv ?_; (case h0 => with_reducible assumption); (case hm => tb_rel); (case hd => first | with_reducible assumption | with_reducible exact isDict_nil _); (case hk => exact intKind_is _ _ _ _); (case hv => first | with_reducible assumption | with_reducible exact valueAt_node _ (by assumption) | with_reducible exact valueAt_stored _ _ _)); (intro s' hr' kS'); (have kR' := Rest.comp kR hr'); clear kS kR hr'; (have kF := kS'.F); (have kN := kS'.N); (try k_sweep)))
local macro_rules | `(tactic| walk_at "subscriptTail Subscript Name ref int") => `(tactic| (k_here; (with_reducible show wpAny _ _ (subscriptTail _ _ (Value.ref _) (Value.int _ _)) _ _ _); (with_reducible rename St _ _ _ _ _ => kS); (with_reducible rename Rest _ _ => kR); k_dflt (refine' sub_D (knd := intKind PP _) ?h0 kS ?hm ?hd ?hk ?hv ?_; (case h0 => with_reducible assumption); (case hm => tb_rel); (case hd => first | with_reducible assumption | with_reducible exact isDict_nil _); (case hk => exact intKind_is _ _ _ _); (case hv => first | with_reducible assumption | with_reducible exact valueAt_node _ (by assumption) | with_reducible exact valueAt_stored _ _ _)); (intro s' hr' kS'); (have kR' := Rest.comp kR hr'); clear kS kR hr'; (have kF := kS'.F); (have kN := kS'.N); (try k_sweep)))
local macro_rules | `(tactic| walk_at "storeName") => `(tactic| (k_here; (with_reducible rename St _ _ _ _ _ => kS); (with_reducible rename Rest _ _ => kR); k_dflt (refine' storeS kS ?_ ?h1 ?h2 ?h3; (case h1 => exact rfl); (case h2 => exact rfl); (case h3 => exact rfl)); (intro s' hr' kS'); (have kR' := Rest.comp kR hr'); clear kS kR hr'; (have kF := kS'.F); (have kN := kS'.N); (try k_sweep)))
local macro_rules | `(tactic| walk_at "eval Dict nil nil") => `(tactic| (k_here; (with_reducible rename St _ _ _ _ _ => kS); (with_reducible rename Rest _ _ => kR); k_dflt (refine' dictS kS ?_); (intro d' s' hr' kS' l1); (have hm' := cons_mem kS'); (have kR' := Rest.comp kR hr'); clear kS kR hr'; (have kF := kS'.F); (have kN := kS'.N); (try k_sweep)))
local macro_rules | `(tactic| walk_at "setItem ref int ref") => `(tactic| (k_here; (with_reducible rename St _ _ _ _ _ => kS); (with_reducible rename Rest _ _ => kR); k_dflt (refine' set_D (knd := intKind PP _) ?h0 kS ?hm ?hd ?hk ?hz ?_; (case h0 => with_reducible assumption); (case hm => tb_rel); (case hd => first | with_reducible assumption | with_reducible exact isDict_nil _); (case hk => exact intKind_is _ _ _ _); (case hz => first | with_reducible assumption | exact Nat.le_of_ble_eq_true rfl)); (intro s' o' hr' kS' hd' hm'); (have kR' := Rest.comp kR hr'); clear kS kR hr'; (have kF := kS'.F); (have kN := kS'.N); (try k_sweep)))
local macro_rules | `(tactic| walk_at "delItem ref") => `(tactic| (k_here; (with_reducible rename St _ _ _ _ _ => kS); (with_reducible rename Rest _ _ => kR); k_dflt (refine' del_D (knd := intKind PP _) ?h0 kS ?hm ?hd ?hk ?hz ?hl ?_; (case h0 => with_reducible assumption); (case hm => tb_rel); (case hd => first | with_reducible assumption | with_reducible exact isDict_nil _); (case hk => exact intKind_is _ _ _ _); (case hz => with_reducible assumption); (case hl => with_reducible assumption)); (intro s' o' hr' kS' hd' hm'); (have kR' := Rest.comp kR hr'); clear kS kR hr'; (have kF := kS'.F); (have kN := kS'.N); (try k_sweep)))
local macro_rules | `(tactic| walk_at "call builtin:dict.update") => `(tactic| (k_here; (with_reducible rename St _ _ _ _ _ => kS); (with_reducible rename Rest _ _ => kR); k_dflt (refine' update_nil (knd := strKind PP _) (knd' := strKind PP _) ?h0 ?h1 kS ?hm ?hd ?hme ?he ?hde ?_; (case h0 => with_reducible assumption); (case h1 => with_reducible assumption); (case hm => tb_rel); (case hd => first | with_reducible assumption | with_reducible exact isDict_nil _); (case hme => tb_rel); (case he => first | with_reducible assumption | with_reducible exact isDict_nil _); (case hde => tb_start)); (intro s' hr' kS'); (have kR' := Rest.comp kR hr'); clear kS kR hr'; (have kF := kS'.F); (have kN := kS'.N); (try k_sweep)))
local macro_rules | `(tactic| walk_at "call builtin:dict.get") => `(tactic| (k_here; (with_reducible show wpAny _ _ (call _ [_, _, _]) _ _ _); (with_reducible rename St _ _ _ _ _ => kS); (with_reducible rename Rest _ _ => kR); k_dflt (refine' get2_D (knd := intKind PP _) ?h0 kS ?hm ?hd ?hk ?hv ?_; (case h0 => with_reducible assumption); (case hm => tb_rel); (case hd => first | with_reducible assumption | with_reducible exact isDict_nil _); (case hk => exact intKind_is _ _ _ _); (case hv => first | exact getD_of_none (by assumption) | exact getD_of_some (by assumption))); (intro s' hr' kS'); (have kR' := Rest.comp kR hr'); clear kS kR hr'; (have kF := kS'.F); (have kN := kS'.N); (try k_sweep)))
local macro_rules | `(tactic| walk_at "getMethod ref") => `(tactic| (k_here; k_dflt (first
  | ((with_reducible show wpAny _ _ (getMethod (Value.ref _) (Str.ofString "update") _) _ _ _); refine' getM_DU (knd := strKind PP _) ?h0 ?S ?hm ?hd ?_; (case h0 => with_reducible assumption); (case S => assumption); (case hm => tb_rel); (case hd => first | with_reducible assumption | with_reducible exact isDict_nil _))
  | ((with_reducible show wpAny _ _ (getMethod (Value.ref _) (Str.ofString "get") _) _ _ _); refine' getM_DG (knd := intKind PP _) ?h0 ?S ?hm ?hd ?_; (case h0 => with_reducible assumption); (case S => assumption); (case hm => tb_rel); (case hd => first | with_reducible assumption | with_reducible exact isDict_nil _)))))
local macro_rules | `(tactic| walk_at "LeaveK") => `(tactic| ((with_reducible rename St _ _ _ _ _ => kS); (refine leaveS (by assumption) kS ?_); (intro kS'); clear kS; (try dsimp only)))
local macro_rules | `(tactic| walk_at "newTuple") => `(tactic| (k_here; (with_reducible rename St _ _ _ _ _ => kS); (with_reducible rename Rest _ _ => kR); k_dflt (refine' tupS kS ?_ ?hz; (case hz => size_fits)); (intro t' s' hr' kS' l1); (have hm' := cons_mem kS'); (have kR' := Rest.comp kR hr'); clear kS kR hr'; (have kF := kS'.F); (have kN := kS'.N); (try k_sweep)))
local macro_rules | `(tactic| walk_at "newList") => `(tactic| (k_here; (with_reducible rename St _ _ _ _ _ => kS); (with_reducible rename Rest _ _ => kR); k_dflt (refine' listS kS ?_ ?hz; (case hz => size_fits)); (intro t' s' hr' kS' l1); (have hm' := cons_mem kS'); (have kR' := Rest.comp kR hr'); clear kS kR hr'; (have kF := kS'.F); (have kN := kS'.N); (try k_sweep)))
local macro_rules | `(tactic| walk_at "unpackItems ref") => `(tactic| (k_here; (with_reducible rename Cx _ _ _ _ _ => kC); (with_reducible rename St _ _ _ _ _ => kS); (with_reducible rename Rest _ _ => kR); k_dflt (refine' unpackS ?h0 kS ?hm (Cx.hh kC) ?hn ?_; (case h0 => with_reducible assumption); (case hm => tb_rel); (case hn => exact rfl)); (intro s' hr' kS'); (have kR' := Rest.comp kR hr'); clear kS kR hr'; (have kF := kS'.F); (have kN := kS'.N); (try k_sweep)))
local macro_rules | `(tactic| walk_at "compareOp NotEq int int") => `(tactic| first | with_reducible refine ne_int_t (by with_reducible assumption) ?_ | with_reducible refine ne_int_f (by with_reducible assumption) ?_)
local macro_rules | `(tactic| walk_at "compareOp Eq int int") => `(tactic| first | with_reducible refine eq_int_t (by with_reducible assumption) ?_ | with_reducible refine eq_int_f (by with_reducible assumption) ?_)
local macro_rules | `(tactic| walk_at "setAttr ref") => `(tactic| (k_here; (with_reducible rename Cx _ _ _ _ _ => kC); (with_reducible rename St _ _ _ _ _ => kS); (with_reducible rename Rest _ _ => kR); k_dflt (refine' setAttrS kC kS ?h1 ?h2 ?k6 ?k7 ?k8 ?k9 ?k10 ?k11 ?k13 ?_; (case h1 => tb_rel); (case h2 => tb_rel); (case k6 => k_is); (case k7 => k_is); (case k8 => k_is); (case k9 => k_is); (case k10 => k_get); (case k11 => k_put); (case k13 => exact Nat.le_of_ble_eq_true rfl)); (intro s' hr' kS' hm'); (have kR' := Rest.comp kR hr'); clear kS kR hr'; (have kF := kS'.F); (have kN := kS'.N); (try k_sweep)))

local macro_rules | `(tactic| walk_at "subscriptTail Name BinOp ref int") => `(tactic| (k_here; (with_reducible rename St _ _ _ _ _ => kS); k_dflt (refine' subL ?h0 kS ?hm ?hx ?hn ?hh ?_; (case h0 => with_reducible assumption); (case hm => tb_rel); (case hx => first | with_reducible assumption | exact rfl); (case hn => first | decide | omega); (case hh => first | decide | omega))))
local macro_rules | `(tactic| walk_at "subscriptTail Name Constant ref int") => `(tactic| (k_here; (with_reducible rename St _ _ _ _ _ => kS); k_dflt (refine' subL ?h0 kS ?hm ?hx ?hn ?hh ?_; (case h0 => with_reducible assumption); (case hm => tb_rel); (case hx => first | with_reducible assumption | exact rfl); (case hn => first | decide | omega); (case hh => first | decide | omega))))
local macro_rules | `(tactic| walk_at "subscriptTail Name Name ref int") => `(tactic| (k_here; (with_reducible rename St _ _ _ _ _ => kS); k_dflt (refine' subL ?h0 kS ?hm ?hx ?hn ?hh ?_; (case h0 => with_reducible assumption); (case hm => tb_rel); (case hx => first | with_reducible assumption | exact rfl); (case hn => first | decide | omega); (case hh => first | decide | omega))))
local macro_rules | `(tactic| walk_at "subscriptTail Subscript Name Constant ref int") => `(tactic| (k_here; (with_reducible rename St _ _ _ _ _ => kS); k_dflt (refine' subL ?h0 kS ?hm ?hx ?hn ?hh ?_; (case h0 => with_reducible assumption); (case hm => tb_rel); (case hx => first | with_reducible assumption | exact rfl); (case hn => first | decide | omega); (case hh => first | decide | omega))))
local macro_rules | `(tactic| walk_at "subscriptTail Subscript Name Constant BinOp ref int") => `(tactic| (k_here; (with_reducible rename St _ _ _ _ _ => kS); k_dflt (refine' subL ?h0 kS ?hm ?hx ?hn ?hh ?_; (case h0 => with_reducible assumption); (case hm => tb_rel); (case hx => first | with_reducible assumption | exact rfl); (case hn => first | decide | omega); (case hh => first | decide | omega))))
local macro_rules | `(tactic| walk_at "subscriptTail Subscript Name Name ref int") => `(tactic| (k_here; (with_reducible rename St _ _ _ _ _ => kS); k_dflt (refine' subL ?h0 kS ?hm ?hx ?hn ?hh ?_; (case h0 => with_reducible assumption); (case hm => tb_rel); (case hx => first | with_reducible assumption | exact rfl); (case hn => first | decide | omega); (case hh => first | decide | omega))))
local macro_rules | `(tactic| walk_at "subscriptTail List Name ref int") => `(tactic| (k_here; (with_reducible rename St _ _ _ _ _ => kS); k_dflt (refine' subL ?h0 kS ?hm ?hx ?hn ?hh ?_; (case h0 => with_reducible assumption); (case hm => tb_rel); (case hx => first | with_reducible assumption | exact rfl); (case hn => first | decide | omega); (case hh => first | decide | omega))))
local macro_rules | `(tactic| walk_at "subscriptTail List cons Name ref int") => `(tactic| (k_here; (with_reducible rename St _ _ _ _ _ => kS); k_dflt (refine' subL ?h0 kS ?hm ?hx ?hn ?hh ?_; (case h0 => with_reducible assumption); (case hm => tb_rel); (case hx => first | with_reducible assumption | exact rfl); (case hn => first | decide | omega); (case hh => first | decide | omega))))
local macro_rules | `(tactic| walk_at "subscriptTail Subscript Name BinOp ref int") => `(tactic| (k_here; (with_reducible rename St _ _ _ _ _ => kS); k_dflt (refine' subL ?h0 kS ?hm ?hx ?hn ?hh ?_; (case h0 => with_reducible assumption); (case hm => tb_rel); (case hx => first | with_reducible assumption | exact rfl); (case hn => first | decide | omega); (case hh => first | decide | omega))))
local macro_rules | `(tactic| walk_at "getItem ref int") => `(tactic| (k_here; (with_reducible rename St _ _ _ _ _ => kS); k_dflt (refine' getL ?h0 kS ?hm ?hx ?hn ?hh ?_; (case h0 => with_reducible assumption); (case hm => tb_rel); (case hx => first | with_reducible assumption | exact rfl); (case hn => first | decide | omega); (case hh => first | decide | omega))))
local macro_rules | `(tactic| walk_at "setItem ref int int") => `(tactic| (k_here; (with_reducible rename St _ _ _ _ _ => kS); (with_reducible rename Rest _ _ => kR); k_dflt (refine' setL ?h0 kS ?hm ?hn ?hh ?hk ?hv ?_; (case h0 => with_reducible assumption); (case hm => tb_rel); (case hn => first | decide | omega); (case hh => first | decide | omega); (case hk => first | decide | (simp; done) | (simp; omega)); (case hv => first | (simp only [Int.toNat_one, Int.toNat_zero, Int.toNat_natCast, List.set_cons_succ, List.set_cons_zero]; exact rfl) | exact rfl)); (intro s' hr' kS' hm'); (have kR' := Rest.comp kR hr'); clear kS kR hr'; (have kF := kS'.F); (have kN := kS'.N); (try k_sweep)))
local macro_rules | `(tactic| walk_at "call builtin:len") => `(tactic| (k_here; (with_reducible rename St _ _ _ _ _ => kS); (with_reducible rename Rest _ _ => kR); k_dflt (refine' lenListS ?h0 kS ?hm ?hz ?_; (case h0 => with_reducible assumption); (case hm => tb_rel); (case hz => first | with_reducible assumption | omega)); (intro s' t' hr' kS'); (have kR' := Rest.comp kR hr'); clear kS kR hr'; (have kF := kS'.F); (have kN := kS'.N); (try k_sweep)))

local macro_rules | `(tactic| walk_at "eval Name") => `(tactic| (k_here; (with_reducible rename Cx _ _ _ _ _ => kC); (with_reducible rename St _ _ _ _ _ => kS); k_dflt (first
  | (refine' nmL kS ?hv ?_ ?hk ?hx ?hL ?hd; (case hx => exact rfl); (case hk => exact rfl); (case hL => exact rfl); (case hd => decide); (case hv => first | with_reducible assumption | exact rfl))
  | (refine' nmC kS ?hc ?hm ?hd ?_ ?hk ?hx ?hb; (case hx => exact rfl); (case hk => exact rfl); (case hb => decide); (case hc => exact rfl); (case hm => tb_rel); (case hd => with_reducible assumption))
  | (refine' nmF kS ?hc ?hm ?hd ?_ ?hk ?hx ?hb ?hn; (case hx => exact rfl); (case hk => exact rfl); (case hb => decide); (case hn => decide); (case hc => exact rfl); (case hm => tb_rel); (case hd => with_reducible assumption))
  | (refine' nmB kC kS ?he ?hv ?hn ?_ ?hg ?hbb ?hx ?hd; (case hx => exact rfl); (case he => exact rfl); (case hg => exact rfl); (case hbb => exact rfl); (case hd => decide); (case hv => first | boot_fast | exact rfl); (case hn => decide))
  | (refine' nmG kC kS ?he ?_ ?hg ?hx ?hd; (case hx => exact rfl); (case he => exact rfl); (case hg => exact rfl); (case hd => decide)))))
local macro_rules | `(tactic| walk_at "binaryOp Add ref ref") => `(tactic| (k_here; (with_reducible rename St _ _ _ _ _ => kS); (with_reducible rename Rest _ _ => kR); k_dflt (refine' addLS ?h0 ?h1 kS ?hm ?hn ?hz ?_; (case h0 => with_reducible assumption); (case h1 => with_reducible assumption); (case hm => tb_rel); (case hn => tb_rel); (case hz => first | with_reducible assumption | (simp only [List.length_cons, List.length_nil]; omega))); (intro t' s' hr' kS' l1); (have hm' := cons_mem kS'); (have kR' := Rest.comp kR hr'); clear kS kR hr'; (have kF := kS'.F); (have kN := kS'.N); (try k_sweep)))
local macro_rules | `(tactic| walk_at "storeName") => `(tactic| (k_here; (with_reducible rename St _ _ _ _ _ => kS); (with_reducible rename Rest _ _ => kR); k_dflt (refine' storeC kS ?hc ?hm ?hd ?_ ?hk ?hx; (case hx => exact rfl); (case hk => exact rfl); (case hc => exact rfl); (case hm => tb_rel); (case hd => with_reducible assumption)); (intro s' o' hr' kS' hd' hm'); (have kR' := Rest.comp kR hr'); clear kS kR hr'; (have kF := kS'.F); (have kN := kS'.N); (try k_sweep)))
local macro_rules | `(tactic| walk_at "call builtin:all") => `(tactic| (k_here; (with_reducible rename Cx _ _ _ _ _ => kC); (with_reducible rename St _ _ _ _ _ => kS); (with_reducible rename Rest _ _ => kR); k_dflt (refine' allBools (Cx.hh kC) ?h0 kS ?hm ?_; (case h0 => with_reducible assumption); (case hm => tb_rel)); (intro s' hr' kS'); (have kR' := Rest.comp kR hr'); clear kS kR hr'; (have kF := kS'.F); (have kN := kS'.N); (try k_sweep)))
local macro_rules | `(tactic| walk_at "call builtin:any") => `(tactic| (k_here; (with_reducible rename Cx _ _ _ _ _ => kC); (with_reducible rename St _ _ _ _ _ => kS); (with_reducible rename Rest _ _ => kR); k_dflt (refine' anyBools (Cx.hh kC) ?h0 kS ?hm ?_; (case h0 => with_reducible assumption); (case hm => tb_rel)); (intro s' hr' kS'); (have kR' := Rest.comp kR hr'); clear kS kR hr'; (have kF := kS'.F); (have kN := kS'.N); (try k_sweep)))
local macro_rules | `(tactic| walk_at "call type:range") => `(tactic| (k_here; (with_reducible rename St _ _ _ _ _ => kS); (with_reducible rename Rest _ _ => kR); k_dflt (first | refine' rangeS1 kS ?_ | refine' rangeS2 kS ?_); (intro r' t1' t2' t3' s' hr' kS' l1); (have hm' := cons_mem kS'); (have kR' := Rest.comp kR hr'); clear kS kR hr'; (have kF := kS'.F); (have kN := kS'.N); (try k_sweep)))
local macro_rules | `(tactic| walk_at "loadName") => `(tactic| (k_here; (with_reducible rename St _ _ _ _ _ => kS); k_dflt (refine' ldL kS ?hv ?_ ?hk ?hx ?hL; (case hx => exact rfl); (case hk => exact rfl); (case hL => exact rfl); (case hv => first | with_reducible assumption | exact rfl))))

local macro_rules | `(tactic| walk_at "subscriptTail Name Name ref int") => `(tactic| (k_here; (with_reducible show wpAny _ _ (subscriptTail _ _ (Value.ref _) (Value.int _ _)) _ _ _); (with_reducible rename St _ _ _ _ _ => kS); (with_reducible rename Rest _ _ => kR); k_dflt (refine' sub_D (knd := intKind PP _) ?h0 kS ?hm ?hd ?hk ?hv ?_; (case h0 => with_reducible assumption); (case hm => tb_rel); (case hd => first | with_reducible assumption | with_reducible exact isDict_nil _); (case hk => exact intKind_is _ _ _ _); (case hv => first | with_reducible assumption | with_reducible exact valueAt_node _ (by assumption) | with_reducible exact valueAt_stored _ _ _)); (intro s' hr' kS'); (have kR' := Rest.comp kR hr'); clear kS kR hr'; (have kF := kS'.F); (have kN := kS'.N); (try k_sweep)))
local macro_rules | `(tactic| walk_at "call builtin:len") => `(tactic| (k_here; (with_reducible rename St _ _ _ _ _ => kS); (with_reducible rename Rest _ _ => kR); k_dflt (refine' len_D (knd := intKind PP _) ?h0 kS ?hm ?hd ?hz ?_; (case h0 => with_reducible assumption); (case hm => tb_rel); (case hd => with_reducible assumption); (case hz => with_reducible assumption)); (intro s' t' hr' kS'); (have kR' := Rest.comp kR hr'); clear kS kR hr'; (have kF := kS'.F); (have kN := kS'.N); (try k_sweep)))
local macro_rules | `(tactic| walk_at "setItem ref int int") => `(tactic| (k_here; (with_reducible rename St _ _ _ _ _ => kS); (with_reducible rename Rest _ _ => kR); k_dflt (refine' set_D (knd := intKind PP _) ?h0 kS ?hm ?hd ?hk ?hz ?_; (case h0 => with_reducible assumption); (case hm => tb_rel); (case hd => first | with_reducible assumption | with_reducible exact isDict_nil _); (case hk => exact intKind_is _ _ _ _); (case hz => first | with_reducible assumption | exact Nat.le_of_ble_eq_true rfl)); (intro s' o' hr' kS' hd' hm'); (have kR' := Rest.comp kR hr'); clear kS kR hr'; (have kF := kS'.F); (have kN := kS'.N); (try k_sweep)))
local macro_rules | `(tactic| walk_at "getMethod ref") => `(tactic| (k_here; (with_reducible show wpAny _ _ (getMethod (Value.ref _) (Str.ofString "pop") _) _ _ _); (with_reducible rename St _ _ _ _ _ => kS); k_dflt (refine' getPopS ?h0 kS ?hm ?_; (case h0 => with_reducible assumption); (case hm => tb_rel))))
local macro_rules | `(tactic| walk_at "call builtin:list.pop") => `(tactic| (k_here; (with_reducible rename St _ _ _ _ _ => kS); (with_reducible rename Rest _ _ => kR); k_dflt (refine' popS ?h0 kS ?hm ?hf ?_; (case h0 => with_reducible assumption); (case hm => tb_rel); (case hf => with_reducible assumption)); (intro s' hr' kS' hm'); (have kR' := Rest.comp kR hr'); clear kS kR hr'; (have kF := kS'.F); (have kN := kS'.N); (try k_sweep)))
local macro_rules | `(tactic| walk_at "truthy ref") => `(tactic| (k_here; (with_reducible rename St _ _ _ _ _ => kS); (with_reducible rename Rest _ _ => kR); k_dflt (refine' truthyListS ?h0 kS ?hm ?hl ?hb ?_; (case h0 => with_reducible assumption); (case hm => tb_rel); (case hl => with_reducible assumption); (case hb => with_reducible assumption)); (intro s' hr' kS'); (have kR' := Rest.comp kR hr'); clear kS kR hr'; (have kF := kS'.F); (have kN := kS'.N); (try k_sweep)))
local macro_rules | `(tactic| walk_at "call builtin:list.append") => `(tactic| (k_here; (with_reducible rename St _ _ _ _ _ => kS); (with_reducible rename Rest _ _ => kR); k_dflt (refine' appendS ?h0 kS ?hm ?hl ?_; (case h0 => with_reducible assumption); (case hm => tb_rel); (case hl => with_reducible assumption)); (intro s' hr' kS' hm'); (have kR' := Rest.comp kR hr'); clear kS kR hr'; (have kF := kS'.F); (have kN := kS'.N); (try k_sweep)))

section
variable {w : World} {A : Around} {E : Value → Shared → Prop} {s : Shared} {env : Env} {L : Addr} {h₀ : Heap} {m : Str → Option Value}
theorem genMakeS {news₀ : List (Addr × Obj)} {hS : Heap} {c P : Addr} {elt target iter : PySem.Expr} {ifs : List PySem.Expr} {scope : Scope} {pos : Pos} {clo : List (Str × Addr)} {Q : Value → Shared → Prop}
    (_S : St h₀ L m news₀ hS) (C : Cx w A env L h₀) (hcode : env.code = .ref c) (HC : CodeHd h₀ c P) (hclos : closureFor scope env = pure clo) (hcell : ∀ y ∈ scope.names, y.2 ≠ .cell) (h0 : scope.names.lookup (".0" : Str) = some NameKind.local) (hkind : scope.kind = .function)
    (hco : scope.isCoroutine = false) (hroom : A.depth < recursionLimit) (hG : env.globals = mainGlobals)
    (h : wpAny (model PP w) A (eval iter env) (fun xv s₁ => wpAny (model PP w) A (pyIter xv) (fun it s₂ => ∃ news oT, St h₀ L m news s₂.heap ∧ (P, oT) ∈ news ∧ TabOk pos oT ∧
      ∀ oT' Lx gx oLx og s₃ code, TabOk pos oT' → s₃.os = s₂.os →
        s₃.gens = s₂.gens.push (.fresh (.compStart (.GeneratorExp elt [⟨target, iter, ifs, 0⟩] scope pos) 0 it .none (genEnv scope clo Lx code builtinsNs env))) → IsGenO og s₂.gens.size → og.dict = none →
        Heap.ExtBut P s₂.heap s₃.heap → s₃.heap.get? P = some oT' → s₃.heap.get? Lx = some oLx → s₃.heap.get? gx = some og → s₂.heap.objs.size ≤ Lx → Lx < gx →
        s₃.heap.Ns Lx (fun y => if y = ".0" then some it else none) → Q (.ref gx) s₃) E s₁) E s)
    (hs : ∀ x, genFold iter env x = pure x) :
    wpAny (model PP w) A (eval (.GeneratorExp elt [⟨target, iter, ifs, 0⟩] scope pos) env) Q E s :=
  genMake (m := m) C hcode HC hclos hcell h0 hkind hco hroom hG h hs
end
abbrev gxCol : Pos := ⟨54, 17, 54, 54⟩
theorem list1 {cs : List (Str × Addr)} {a : Str} (h : cs.map (·.1) = [a]) : ∃ x, cs = [(a, x)] := by
  match cs, h with
  | [(p, x)], h => simp at h; exact ⟨x, by rw [h]⟩
set_option maxHeartbeats 8000000 in
theorem color_c {w : World} {A : Around} {s : Shared} {h₀ : Heap} {env : Env} {L : Addr} {a : GA} {G : Gr} {m : Str → Option Value} {gl rest : List (Addr × Obj)} {R : Result → Shared → Prop} {oT : Obj} {l : List Env}
  (C : Cx w A env L h₀) (S : St h₀ L m (gl ++ (69, oT) :: rest) s.heap) (hT : TabOk gxCol oT) (H : GraphIn w gl a G) {g : Addr} (hg : a.g = g) (hok : GOk G) (hn : G.n ≤ 5) (hsym : ∀ i j, G.has i j → G.has j i)
  (hfr : A.frames = some l) (hfi : FramesIn l (hideAll s.heap ((gl ++ (69, oT) :: rest).map (·.1)))) (hroom : A.depth + 20 < recursionLimit)
  (hthrow : ∀ s' e, Rest s s' → ¬ Bip G → Threw l s.heap e s'.heap → R (.error (.ref e)) s')
  (h : ∀ s' oT' v, s'.os = s.os → (AllBare s.gens → AllBare s'.gens) → TabOk gxCol oT' → Bip G → St h₀ L m (gl ++ (69, oT') :: rest) s'.heap → R (.ok (.ret v)) s') :
  codeAny (model PP w) A (.call (.ref 74) ⟨[.ref g], []⟩) R s := by
  subst hg
  refine enterCR (binds := [(Str.ofString "G", .ref a.g)]) (cn := [Str.ofString "G"]) C S (by k_is) (by k_is) (BindsTo.of_eq rfl) (fun _ => kinds_of (by kinds_ok)) rfl (by decide) (fun g₀ L' s₁ cs0 cells hr hg₀ FG st hL' hk₁ C' hcs Y S' hab hlo hLs => ?_) (by omega)
  obtain ⟨c1, rfl⟩ := list1 hcs
  obtain ⟨o1, rfl, ho1⟩ := Y.one
  replace ho1 : o1.data = .cell (some (.ref a.g)) := ho1
  clear Y
  have hL := S.low.1
  have S0 := And.intro trivial S
  clear C S
  have F := S'.F
  have N := S'.N
  have X := C'.X
  obtain ⟨mean, mg, mb, T⟩ := C'.T
  have H1 := H.inst
  obtain ⟨t1, t2, t3, gr, H2⟩ := H.dict
  iterate 4 (first | walk1 | (dsimp only; walk1))
  rename St _ _ _ _ _ => kS
  rename Cx _ _ _ _ _ => C'
  rename Rest _ _ => kR
  have hg1 : (a.g, instObj 310 a.gD) ∈ [(c1, o1)] ++ (gl ++ (69, oT) :: rest) := List.mem_append_right _ (List.mem_append_left _ H1)
  have hg2 : (a.gD, dictOf (gEnts w t1 t2 t3 gr a.nd a.ad) 3) ∈ [(c1, o1)] ++ (gl ++ (69, oT) :: rest) := List.mem_append_right _ (List.mem_append_left _ H2)
  refine getBound C' kS hg1 hg2 (by k_is) (by k_is) (by k_is) (by k_is) (by k_is) (by decide) (by k_get) (by k_is) (fun qm s₂ hr₂ S₂ l₂ => ?_)
  have kR₂ := Rest.comp kR hr₂
  clear kR kS hr₂
  have F := S₂.F
  have N := S₂.N
  iterate 6 (first | walk1 | (dsimp only; walk1))
  rename St _ _ _ _ _ => kS
  rename Cx _ _ _ _ _ => C'
  rename Rest _ _ => kR
  rename Addr => d
  refine forCR (h₀ := g₀) (L := L') C'.hh PassesOwn.leaving ?_
  iterate 1 (first | walk1 | (dsimp only; walk1))
  rename St _ _ _ _ _ => kS
  rename Cx _ _ _ _ _ => C'
  rename Rest _ _ => kR
  refine iter_graph C' (St.flip (p := [(d, _), (qm, _), (c1, o1)]) kS) H (f := 182) (by k_is) (by k_is) (wpAny_call (iter_c C' (St.flip (p := [(d, _), (qm, _), (c1, o1)]) kS) H rfl (by show A.depth + 1 + 0 < recursionLimit; omega) fun s₂ I oI oD ep hr₂ S₂ hD hki hka => ?_))

  have S₂ : St g₀ L' _ ((I, oI) :: (d, dictOf [] 0) :: (qm, methodObj (.ref 267) (.ref a.g)) :: (c1, o1) :: (gl ++ (69, oT) :: rest)) s₂.heap := St.flop1 (p := [(d, _), (qm, _), (c1, o1)]) S₂
  have kR₃ := Rest.comp kR hr₂
  clear kR kS hr₂
  refine ⟨I, oI, _, _, _, ep, _, rfl, List.mem_cons_self, S₂, hki, ?_⟩
  refine ⟨I, oI, _, _, _, _, [Str.ofString "queue", Str.ofString "v", Str.ofString "c", Str.ofString "w"], _, _, fun k nw g q => ∃ od kvs cf r, nw = (d, od) :: (qm, methodObj (.ref 267) (.ref a.g)) :: (c1, o1) :: (gl ++ (69, oT) :: rest) ∧ g = s.gens ∧ q = s.os ∧
    od.IsDictOf (intKind PP w) kvs ∧ ColIs kvs cf G.n ∧ Cst G cf r ∧ (∀ i, cf i ≠ none → Good G cf i) ∧ (∀ i, i < k → cf i ≠ none ∨ G.adj i = []), rfl, Iter.keys I a.nd oD _ ep hka, S₂, hki,
    ⟨_, [], fun _ => none, fun _ => 0, rfl, kR₃.1, kR₃.2, isDict_nil 0, colIs_nil _, cst_nil G, fun i h => absurd rfl h, fun i h => absurd h (Nat.not_lt_zero i)⟩, ?_, ?_, ?_⟩
  · rintro k nw g q ⟨od, kvs, cf, r, rfl, _⟩; exact .tail _ (.tail _ (.tail _ (List.mem_append_left _ hD)))
  · rintro k vv FF nw oI' s₃ hk ⟨key, xx, hkx, hkey⟩ ⟨od, kvs, cf, r, rfl, hg, hq, hod, hcol, hcst, hgood, hdone⟩ hki' S₃
    obtain ⟨hkn, rfl⟩ := node_keyC hkx
    obtain ⟨tk, rfl⟩ := Value.isInt_shape hkey
    have kR : Rest s s₃ := ⟨hg, hq⟩
    clear hg hq S₂ kR₃ hki
    have F := S₃.F
    have N := S₃.N
    have hmd : (d, od) ∈ (I, oI') :: (d, od) :: (qm, methodObj (.ref 267) (.ref a.g)) :: (c1, o1) :: (gl ++ (69, oT) :: rest) := by simp
    cases hc : cf k with
    | some c =>
      have hb := hcol.some_b hc
      iterate 12 (first | walk1 | (dsimp only; walk1))
      rename St _ _ _ _ _ => kS
      rename Rest _ _ => kR
      exact ⟨_, _, kS, by (intro y hy; (simp only [List.mem_cons, List.not_mem_nil, or_false, not_or] at hy); simp only [ovr, hy, if_false, or_self, List.mem_cons, List.not_mem_nil, ite_self]), od, kvs, cf, r, rfl, kR.1, kR.2, hod, hcol, hcst, hgood, fun i hi => by
        rcases Nat.lt_succ_iff_lt_or_eq.mp hi with h1 | rfl
        · exact hdone i h1
        · exact .inl (by rw [hc]; simp)⟩
    | none =>
      have hb := hcol.none_b hc
      iterate 19 (first | walk1 | (dsimp only; walk1))
      rename St _ _ _ _ _ => kS
      rename Cx _ _ _ _ _ => C'
      rename Rest _ _ => kR
      refine wpAny_call (getitem_c C'.in1 (St.flip (p := [(I, oI'), (d, od), (qm, _), (c1, o1)]) kS) H rfl hkn (by show A.depth + 1 + 0 < recursionLimit; omega) fun s₄ hr₄ S₄ => ?_)
      have S₄ : St g₀ L' _ ((I, oI') :: (d, od) :: (qm, methodObj (.ref 267) (.ref a.g)) :: (c1, o1) :: (gl ++ (69, oT) :: rest)) s₄.heap := St.flop (p := [(I, oI'), (d, od), (qm, _), (c1, o1)]) S₄
      have kR₄ := Rest.comp kR hr₄
      clear kR kS hr₄
      obtain ⟨oU, H4, H4d⟩ := H.nbr k hkn
      have hal : (G.adj k).length ≤ 5 := by have := adj_len hok hkn; omega
      have hz : ((adjD (G.adj k)).length : Int) < 2 ^ 63 := by unfold adjD; rw [List.length_map]; omega
      have F := S₄.F
      have N := S₄.N
      by_cases hadj : G.adj k = []
      · have hl0 : (((adjD (G.adj k)).length : Nat) : Int) = 0 := by rw [hadj]; rfl
        iterate 10 (first | walk1 | (dsimp only; walk1))
        rename St _ _ _ _ _ => kS
        rename Rest _ _ => kR
        exact ⟨_, _, kS, by (intro y hy; (simp only [List.mem_cons, List.not_mem_nil, or_false, not_or] at hy); simp only [ovr, hy, if_false, or_self, List.mem_cons, List.not_mem_nil, ite_self]), od, kvs, cf, r, rfl, kR.1, kR.2, hod, hcol, hcst, hgood, fun i hi => by
          rcases Nat.lt_succ_iff_lt_or_eq.mp hi with h1 | rfl
          · exact hdone i h1
          · exact .inr hadj⟩
      · have hl0 : (((adjD (G.adj k)).length : Nat) : Int) ≠ 0 := by unfold adjD; rw [List.length_map]; intro e; exact hadj (List.length_eq_zero_iff.mp (by omega))
        have hsz := hcol.small hn
        iterate 25 (first | walk1 | (dsimp only; walk1))
        rename St _ _ _ _ _ => kS
        rename Cx _ _ _ _ _ => C'
        rename Rest _ _ => kR
        rename (Obj.IsDictOf (intKind PP w) _ (stored _ _ _)) => hod1
        rename Obj => od1
        rename Addr => tq
        replace kS := St.put_at (pre := [(_, _), (_, _)]) kS
        refine whileS PassesOwn.leaving [Str.ofString "v", Str.ofString "c", Str.ofString "w"] kS (fun n nw g q => ∃ od kvs cf r qv qc ql, nw = (tq, lst qv qc) :: (I, oI') :: (d, od) :: (qm, methodObj (.ref 267) (.ref a.g)) :: (c1, o1) :: (gl ++ (69, oT) :: rest) ∧
          g = s.gens ∧ q = s.os ∧ od.IsDictOf (intKind PP w) kvs ∧ ColIs kvs cf G.n ∧ Cst G cf r ∧ IntL qv ql ∧ n = 2 * (G.n - cnt cf G.n) + ql.length ∧ n ≤ 11 ∧ (∀ x ∈ ql, cf x ≠ none ∧ r x = k) ∧ (∀ i, cf i ≠ none → Good G cf i ∨ (r i = k ∧ i ∈ ql)) ∧
          cf k ≠ none ∧ (∀ i, i < k → cf i ≠ none ∨ G.adj i = [])) _
          ⟨od1, _, _, _, [_], 0, [k], rfl, kR.1, kR.2, hod1, hcol.up hc hkn (c := 1), hcst.start hkn hc hgood hsym, IntL.one _ _, rfl, ?_, ?_, ?_, ?_, ?_⟩ ?_
        · simp; omega
        · intro x hx
          simp at hx; subst hx
          exact ⟨by rw [upC_eq]; simp, if_pos rfl⟩
        · intro i hi
          by_cases e : i = k
          · exact .inr ⟨if_pos e, by simp [e]⟩
          · exact .inl ((hgood i (by rw [upC_ne e] at hi; exact hi)).up hc)
        · rw [upC_eq]; simp
        · intro i hi
          rw [upC_ne (by omega)]; exact hdone i hi
        clear kS kR hod1 hod hcol hgood hdone hb hsz hmd H4d hcst hc
        rintro n F nw s₅ ⟨od2, kvs2, cf2, r2, qv, qc, ql, rfl, hg, hq, hod2, hcol2, hcst2, hi, hn2, hn11, hql, hgd, hck, hdn⟩ S₅
        have kR : Rest s s₅ := ⟨hg, hq⟩
        clear hg hq
        have F := S₅.F
        have N := S₅.N
        have hmq : (tq, lst qv qc) ∈ (tq, lst qv qc) :: (I, oI') :: (d, od2) :: (qm, methodObj (.ref 267) (.ref a.g)) :: (c1, o1) :: (gl ++ (69, oT) :: rest) := .head _
        have hmd : (d, od2) ∈ (tq, lst qv qc) :: (I, oI') :: (d, od2) :: (qm, methodObj (.ref 267) (.ref a.g)) :: (c1, o1) :: (gl ++ (69, oT) :: rest) := by simp
        have hlv : qv.length ≤ 1000000 := by rw [hi.1]; omega
        by_cases hqe : ql = []
        · have hb : (!qv.isEmpty) = false := by rw [hi.isEmpty, hqe]; rfl
          iterate 3 (first | walk1 | (dsimp only; walk1))
          rw [if_neg Bool.false_ne_true]
          iterate 1 (first | walk1 | (dsimp only; walk1))
          rename St _ _ _ _ _ => kS
          rename Rest _ _ => kR
          refine ⟨_, _, kS.tl, by (intro y hy; (simp only [List.mem_cons, List.not_mem_nil, or_false, not_or] at hy); simp only [ovr, hy, if_false, or_self, List.mem_cons, List.not_mem_nil, ite_self]), od2, kvs2, cf2, r2, rfl, kR.1, kR.2, hod2, hcol2, hcst2, fun i hi => ?_, fun i hi => ?_⟩
          · rcases hgd i hi with h1 | ⟨_, h1⟩
            · exact h1
            · rw [hqe] at h1; cases h1
          · rcases Nat.lt_succ_iff_lt_or_eq.mp hi with h1 | rfl
            · exact hdn i h1
            · exact .inl hck
        · have hb : (!qv.isEmpty) = true := by rw [hi.isEmpty]; cases ql <;> simp_all
          obtain ⟨p, tv, q, x, rfl, rfl, hi'⟩ := hi.unsnoc hqe
          have hf : (p ++ [Value.int (x : Nat) tv]).length ≤ 1000000 := by rw [hi.1]; omega
          obtain ⟨hcx, hrx⟩ := hql x (by simp)
          obtain ⟨cx, hcx⟩ := Option.ne_none_iff_exists'.mp hcx
          obtain ⟨tcx, hget⟩ := hcol2.get x cx hcx
          iterate 3 (first | walk1 | (dsimp only; walk1))
          rw [if_pos rfl]
          iterate 7 (first | walk1 | (dsimp only; walk1))
          rename St _ _ _ _ _ => kS
          replace kS := St.put_at (pre := []) kS
          have F := kS.F
          have N := kS.N
          iterate 12 (first | walk1 | (dsimp only; walk1))
          rename Cx _ _ _ _ _ => C'
          refine forCR (h₀ := g₀) (L := L') C'.hh PassesOwn.leaving ?_
          iterate 2 (first | walk1 | (dsimp only; walk1))
          rename St _ _ _ _ _ => kS
          rename Cx _ _ _ _ _ => C'
          have hmm : ∀ X, (qm, methodObj (.ref 267) (.ref a.g)) ∈ (tq, X) :: (I, oI') :: (d, od2) :: (qm, methodObj (.ref 267) (.ref a.g)) :: (c1, o1) :: (gl ++ (69, oT) :: rest) := fun X => by simp
          refine callWith_M C'.X kS.N (hmm _) (by k_is) ?_
          iterate 3 (first | walk1 | (dsimp only; walk1))
          rename St _ _ _ _ _ => kS
          rename Cx _ _ _ _ _ => C'
          rename Rest _ _ => kR
          refine ⟨methP kS.N (hmm _) (C'.X.keeps kS.F.keep), ?_⟩
          refine call_meth kS.N (hmm _) ?_
          have hxn := (hcst2.two x cx hcx).1
          refine neighbors_c C' (St.flip (p := [(tq, _), (I, oI'), (d, od2), (qm, _), (c1, o1)]) kS) H rfl hxn (by show A.depth + 1 + 0 < recursionLimit; omega) fun s₆ I2 oI2 oD2 ep2 hr₆ S₆ hD2 hki2 hka2 => ?_
          have S₆ : St g₀ L' _ ((I2, oI2) :: (tq, _) :: (I, oI') :: (d, od2) :: (qm, methodObj (.ref 267) (.ref a.g)) :: (c1, o1) :: (gl ++ (69, oT) :: rest)) s₆.heap := St.flop1 (p := [(tq, _), (I, oI'), (d, od2), (qm, _), (c1, o1)]) S₆
          have kR₆ := Rest.comp kR hr₆
          clear kR kS hr₆
          refine wpAny_pyIter_keyiter (hki2.at (S₆.get List.mem_cons_self)) ?_
          refine ⟨I2, oI2, _, _, _, _, [], _, _, fun j nw g qq => ∃ od kvs cf r qv qc ql, nw = (tq, lst qv qc) :: (I, oI') :: (d, od) :: (qm, methodObj (.ref 267) (.ref a.g)) :: (c1, o1) :: (gl ++ (69, oT) :: rest) ∧
            g = s.gens ∧ qq = s.os ∧ od.IsDictOf (intKind PP w) kvs ∧ ColIs kvs cf G.n ∧ Cst G cf r ∧ IntL qv ql ∧ 2 * (G.n - cnt cf G.n) + ql.length < n ∧ (∀ y ∈ ql, cf y ≠ none ∧ r y = k) ∧ (∀ i, cf i ≠ none → Good G cf i ∨ (r i = k ∧ (i ∈ ql ∨ i = x))) ∧
            cf k ≠ none ∧ (∀ i, i < k → cf i ≠ none ∨ G.adj i = []) ∧ cf x = some cx ∧ r x = k ∧ (∀ p ∈ (G.adj x).take j, ∃ b, cf p.1 = some b ∧ cx ≠ b), rfl, Iter.keys I2 (a.aA x) oD2 _ ep2 hka2, S₆, hki2,
            ⟨od2, kvs2, cf2, r2, p, _, q, rfl, kR₆.1, kR₆.2, hod2, hcol2, hcst2, hi', by rw [hn2, List.length_append]; simp, fun y hy => hql y (List.mem_append_left _ hy), fun i hi => ?_, hck, hdn, hcx, hrx, by simp⟩, ?_, ?_, ?_⟩
          · rcases hgd i hi with h1 | ⟨h1, h2⟩
            · exact .inl h1
            · refine .inr ⟨h1, ?_⟩
              rcases List.mem_append.mp h2 with h2 | h2
              · exact .inl h2
              · exact .inr (List.mem_singleton.mp h2)
          · rintro j nw g qq ⟨od3, kvs3, cf3, r3, qv3, qc3, ql3, rfl, _⟩; exact .tail _ (.tail _ (.tail _ (.tail _ (.tail _ (List.mem_append_left _ hD2)))))
          · clear S₆ hki2 kR₆ hod2 hcol2 hcst2 hi hi' hgd hql hck hdn hcx hrx hget hb hlv hf hmq hmd hn2
            rintro j vv FF3 nw oI2' s₇ hj ⟨key, xx2, hkx2, hkey2⟩ ⟨od3, kvs3, cf3, r3, qv3, qc3, ql3, rfl, hg, hq, hod3, hcol3, hcst3, hi3, hlt3, hql3, hgd3, hck3, hdn3, hcx3, hrx3, hseen3⟩ hki2' S₇
            obtain ⟨pr, hp, rfl⟩ := adj_key hkx2
            obtain ⟨tw, rfl⟩ := Value.isInt_shape hkey2
            have kR : Rest s s₇ := ⟨hg, hq⟩
            clear hg hq
            have hpm := List.mem_of_getElem? hp
            have hpG := hok.lt x hxn pr hpm
            have hxp : G.has x pr.1 := List.mem_map.mpr ⟨pr, hpm, rfl⟩
            obtain ⟨tcv, hgetv⟩ := hcol3.get x cx hcx3
            have F := S₇.F
            have N := S₇.N
            have hmd : (d, od3) ∈ (I2, oI2') :: (tq, lst qv3 qc3) :: (I, oI') :: (d, od3) :: (qm, methodObj (.ref 267) (.ref a.g)) :: (c1, o1) :: (gl ++ (69, oT) :: rest) := by simp
            cases hcw : cf3 pr.1 with
            | some cw =>
              have hb := hcol3.some_b hcw
              obtain ⟨tcw, hgetw⟩ := hcol3.get pr.1 cw hcw
              by_cases heq : ((cw : Nat) : Int) = ((cx : Nat) : Int)
              · iterate 20 (first | walk1 | (dsimp only; walk1))
                iterate 1 (first | walk1 | (dsimp only; walk1))
                rw [if_pos rfl]
                iterate 1 (first | walk1 | (dsimp only; walk1))
                rename St _ _ _ _ _ => kS
                rename Cx _ _ _ _ _ => C'
                rename Rest _ _ => kR
                refine raiseX (c := 65) C' kS (by k_is) (by k_exc) PySem.F.excBase_Exception ?_
                iterate 3 (first | walk1 | (dsimp only; walk1))
                rename St _ _ _ _ _ => kS
                rename Rest _ _ => kR
                refine ⟨Nat.le_of_ble_eq_true rfl, ⟨_, kS⟩, fun h' e hx => ?_⟩
                refine throws (Around.frames_deeper hfr) rfl (by show ScopeKind.function ≠ .module; decide) hfi.of_hide (keepsAll S0.2 hg₀ kS fun p hp => List.mem_append_right [(I2, oI2'), (tq, lst qv3 qc3), (I, oI'), (d, od3), (qm, methodObj (.ref 267) (.ref a.g)), (c1, o1)] hp) hLs kS.F.ns hx fun h'' ht => hthrow _ _ ⟨kR.1, kR.2⟩ (hcst3.clash hxp hcx3 hcw (by omega)) ht
              · iterate 20 (first | walk1 | (dsimp only; walk1))
                iterate 1 (first | walk1 | (dsimp only; walk1))
                rw [if_neg Bool.false_ne_true]
                iterate 3 (first | walk1 | (dsimp only; walk1))
                rename St _ _ _ _ _ => kS
                rename Rest _ _ => kR
                exact ⟨_, _, kS, by (intro y hy; (simp only [List.mem_cons, List.not_mem_nil, or_false, not_or] at hy); simp only [ovr, hy, if_false, or_self, List.mem_cons, List.not_mem_nil, ite_self]), od3, kvs3, cf3, r3, qv3, qc3, ql3, rfl, kR.1, kR.2, hod3, hcol3, hcst3, hi3, hlt3, hql3, hgd3, hck3, hdn3, hcx3, hrx3, seen_one hseen3 hp ⟨cw, hcw, by omega⟩⟩
            | none =>
              have hb := hcol3.none_b hcw
              have hsz := hcol3.small hn
              iterate 15 (first | walk1 | (dsimp only; walk1))
              rename St _ _ _ _ _ => kS
              rename (Obj.IsDictOf (intKind PP w) _ (stored _ _ _)) => hod4
              replace kS := St.put_at (pre := [(_, _), (_, _), (_, _)]) kS
              have e1 : (1 : Int) - ((cx : Nat) : Int) = ((1 - cx : Nat) : Int) := by have := (hcst3.two x cx hcx3).2; omega
              rw [e1] at hod4
              have hmq : ∀ X, (tq, lst qv3 qc3) ∈ (I2, oI2') :: (tq, lst qv3 qc3) :: (I, oI') :: (d, X) :: (qm, methodObj (.ref 267) (.ref a.g)) :: (c1, o1) :: (gl ++ (69, oT) :: rest) := fun X => by simp
              have hmq := hmq od3
              have hcn := cnt_le cf3 G.n
              have hlx : qv3.length ≤ 1000000 := by rw [hi3.1]; omega
              have F := kS.F
              have N := kS.N
              iterate 7 (first | walk1 | (dsimp only; walk1))
              iterate 4 (first | walk1 | (dsimp only; walk1))
              rename St _ _ _ _ _ => kS
              rename Rest _ _ => kR
              replace kS := St.put_at (pre := [(_, _)]) kS
              refine ⟨_, _, kS, by (intro y hy; (simp only [List.mem_cons, List.not_mem_nil, or_false, not_or] at hy); simp only [ovr, hy, if_false, or_self, List.mem_cons, List.not_mem_nil, ite_self]), _, _, _, _, _, _, ql3 ++ [pr.1], rfl, kR.1, kR.2, hod4, hcol3.up hcw hpG, hcst3.more hsym hpG hcx3 hcw hrx3 hxp ?_, hi3.push _ _, ?_, ?_, ?_, ?_, ?_, ?_, ?_, ?_⟩
              · intro i hi
                rcases hgd3 i hi with h1 | ⟨h1, _⟩
                · exact .inl h1
                · exact .inr h1
              · rw [cnt_up hcw hpG, List.length_append]
                have : cnt cf3 G.n < G.n := by have := cnt_up hcw hpG (c := 0); have := cnt_le (upC cf3 pr.1 0) G.n; omega
                simp; omega
              · intro y hy
                rcases List.mem_append.mp hy with hy | hy
                · obtain ⟨h1, h2⟩ := hql3 y hy
                  have hne : y ≠ pr.1 := fun e => h1 (by rw [e]; exact hcw)
                  exact ⟨by rw [upC_ne hne]; exact h1, by rw [if_neg hne]; exact h2⟩
                · rw [List.mem_singleton.mp hy]; exact ⟨by rw [upC_eq]; simp, if_pos rfl⟩
              · intro i hi
                by_cases e : i = pr.1
                · exact .inr ⟨if_pos e, .inl (by rw [e]; simp)⟩
                · rw [upC_ne e] at hi
                  rcases hgd3 i hi with h1 | ⟨h1, h2⟩
                  · exact .inl (h1.up hcw)
                  · exact .inr ⟨by rw [if_neg e]; exact h1, h2.imp (fun h => List.mem_append_left _ h) id⟩
              · have hne : k ≠ pr.1 := fun e => hck3 (by rw [e]; exact hcw)
                rw [upC_ne hne]; exact hck3
              · intro i hi
                by_cases e : i = pr.1
                · exact .inl (by rw [e, upC_eq]; simp)
                · rw [upC_ne e]; exact hdn3 i hi
              · have hne : x ≠ pr.1 := fun e => by rw [e, hcw] at hcx3; cases hcx3
                rw [upC_ne hne]; exact hcx3
              · have hne : x ≠ pr.1 := fun e => by rw [e, hcw] at hcx3; cases hcx3
                rw [if_neg hne]; exact hrx3
              · refine seen_one (fun q hq => ?_) hp ⟨_, upC_eq, by have := (hcst3.two x cx hcx3).2; omega⟩
                obtain ⟨b, h1, h2⟩ := hseen3 q hq
                have hne : q.1 ≠ pr.1 := fun e => by rw [e, hcw] at h1; cases h1
                exact ⟨b, by rw [upC_ne hne]; exact h1, h2⟩
          · clear S₆ hki2 kR₆ hod2 hcol2 hcst2 hi hi' hgd hql hck hdn hcx hrx hget hb hlv hf hmq hmd hn2
            rintro FF3 nw s₇ ⟨od3, kvs3, cf3, r3, qv3, qc3, ql3, rfl, hg, hq, hod3, hcol3, hcst3, hi3, hlt3, hql3, hgd3, hck3, hdn3, hcx3, hrx3, hseen3⟩ S₇
            have kR : Rest s s₇ := ⟨hg, hq⟩
            have F := S₇.F
            have N := S₇.N
            have hgx : Good G cf3 x := fun j hj => by
              obtain ⟨p, hp, rfl⟩ := List.mem_map.mp hj
              rw [show (adjD (G.adj x)).length = (G.adj x).length by simp [adjD], List.take_length] at hseen3
              obtain ⟨b, h1, h2⟩ := hseen3 p hp
              exact ⟨cx, b, hcx3, h1, h2⟩
            iterate 1 (first | walk1 | (dsimp only; walk1))
            refine ⟨_, _, _, hlt3, S₇, by (intro y hy; (simp only [List.mem_cons, List.not_mem_nil, or_false, not_or] at hy); simp only [ovr, hy, if_false, or_self, List.mem_cons, List.not_mem_nil, ite_self]), od3, kvs3, cf3, r3, qv3, qc3, ql3, rfl, kR.1, kR.2, hod3, hcol3, hcst3, hi3, rfl, by omega, hql3, fun i hi => ?_, hck3, hdn3⟩
            rcases hgd3 i hi with h1 | ⟨h1, h2 | rfl⟩
            · exact .inl h1
            · exact .inr ⟨h1, h2⟩
            · exact .inl hgx
  · rintro FF nw s₃ ⟨od, kvs, cf, r, rfl, hg, hq, hod, hcol, hcst, hgood, hdone⟩ S₃
    have kR : Rest s s₃ := ⟨hg, hq⟩
    have hbip : Bip G := hcst.bip hgood fun i hi => hdone i (by rw [nodeD_length]; exact hi)
    have F := S₃.F
    have N := S₃.N
    have hmd : (d, od) ∈ (d, od) :: (qm, methodObj (.ref 267) (.ref a.g)) :: (c1, o1) :: (gl ++ (69, oT) :: rest) := .head _
    iterate 4 (first | walk1 | (dsimp only; walk1))
    rename St _ _ _ _ _ => kS
    rename Cx _ _ _ _ _ => C'
    rename Rest _ _ => kR
    refine getM_DU hmd kS hmd hod ?_
    iterate 2 (first | walk1 | (dsimp only; walk1))
    rename St _ _ _ _ _ => kS
    rename Cx _ _ _ _ _ => C'
    refine genMakeS (c := 73) (P := 69) (clo := [(Str.ofString "G", c1)]) kS C' rfl (codeHd_of_K C'.X (by kernel_rfl)) rfl (by decide) rfl rfl rfl (by show A.depth + 1 < recursionLimit; omega) rfl ?_ (fun _ => rfl)
    iterate 1 (first | walk1 | (dsimp only; walk1))
    rename St _ _ _ _ _ => kS
    rename Cx _ _ _ _ _ => C'
    rename Rest _ _ => kR
    refine iter_graph C' (St.flip (p := [(d, _), (qm, _), (c1, o1)]) kS) H (f := 182) (by k_is) (by k_is) (wpAny_call (iter_c C' (St.flip (p := [(d, _), (qm, _), (c1, o1)]) kS) H rfl (by show A.depth + 1 + 0 < recursionLimit; omega) fun s₄ I4 oI4 oD4 ep4 hr₄ S₄ hD4 hki4 hka4 => ?_))
    have S₄ : St g₀ L' _ ((I4, oI4) :: (d, od) :: (qm, methodObj (.ref 267) (.ref a.g)) :: (c1, o1) :: (gl ++ (69, oT) :: rest)) s₄.heap := St.flop1 (p := [(d, _), (qm, _), (c1, o1)]) S₄
    have kR₄ := Rest.comp kR hr₄
    clear kR kS hr₄
    refine ⟨I4, oI4, _, _, _, ep4, _, rfl, List.mem_cons_self, S₄, hki4, ?_⟩
    refine ⟨_, oT, S₄, by simp, hT, fun oT' Lx gx oLx og s₅ code hT' hos₅ hgens₅ hog hod5 hx hP' hX hgx hle hlx hns => ?_⟩
    have hPm : ((69 : Addr), oT) ∈ (I4, oI4) :: (d, od) :: (qm, methodObj (.ref 267) (.ref a.g)) :: (c1, o1) :: (gl ++ (69, oT) :: rest) := by simp
    have hput : put 69 oT' ((I4, oI4) :: (d, od) :: (qm, methodObj (.ref 267) (.ref a.g)) :: (c1, o1) :: (gl ++ (69, oT) :: rest)) = (I4, oI4) :: (d, od) :: (qm, methodObj (.ref 267) (.ref a.g)) :: (c1, o1) :: (gl ++ (69, oT') :: rest) := put_mid (pre := (I4, oI4) :: (d, od) :: (qm, methodObj (.ref 267) (.ref a.g)) :: (c1, o1) :: gl) (by simpa using S₄.D)
    have S₅ := S₄.made hPm hx hP' hX hgx hle hlx
    have hgen := genFrame S₄ hPm hx S₅ hle hlx hns
    rw [hput] at S₅ hgen
    have hres := And.intro trivial kR₄
    clear S₄ kR₄
    have F := S₅.F
    have N := S₅.N
    iterate 1 (first | walk1 | (dsimp only; walk1))
    rename St _ _ _ _ _ => kS
    rename Cx _ _ _ _ _ => C'
    obtain ⟨gB, FG5, st5, SG⟩ := hgen
    obtain ⟨A1, hA1⟩ := C'.around
    obtain ⟨fx, hfx⟩ : ∃ fx, fx = (gx, og) :: (qm, methodObj (.ref 267) (.ref a.g)) :: (c1, o1) :: (gl ++ (69, oT') :: rest) := ⟨_, rfl⟩
    have SG : CU gB Lx I4 d fx [] _ oI4 od s₅.heap := SG.perm (by
      subst hfx
      exact (List.Perm.swap _ _ _).trans (List.Perm.cons _ (List.Perm.swap _ _ _)))
    have hgxm : (gx, og) ∈ fx := by subst hfx; exact .head _
    have hndm : (a.nd, oD4) ∈ fx := by subst hfx; exact .tail _ (.tail _ (.tail _ (List.mem_append_left _ hD4)))
    have hnl : gB.NoLimit := by
      obtain ⟨mean, mg, mb, T⟩ := C'.T
      exact T.nolimit.keeps st5
    have CT : ∃ mean mg mb, Top thinP thinL mean mg mb gB := by
      obtain ⟨mean, mg, mb, T⟩ := C'.T
      exact ⟨mean, mg, mb, T.keeps st5⟩
    have CX := C'.X.keeps st5
    refine call_update_gen (gi := s₄.gens.size) (n := isoG G G.n 0) (J := JU w A1.in1.in1 gB Lx I4 d fx s₄.gens.size s₄.os (AllBare s₄.gens)) (Jend := JEU gB Lx d fx s₄.os (AllBare s₄.gens)) C'.hh (kS.dict (by simp) hod) hgx hog hod5
      (by subst hA1; exact gu_upds (by exact C'.hh) hnl (by show A.depth + 1 + 0 < recursionLimit; omega) hgxm hog) (fun h' tk hk => ?_) (fun s₆ hj => ?_)
    · refine ⟨_, [], _, oI4, od, by show s₅.gens[_]? = _; rw [hgens₅]; exact Array.getElem?_push_size .., SG.keepAll hk, ?_, hos₅, fun hb => ?_, fun s'' od' S'' hdd => ?_⟩
      · have h1 := isoG_le G G.n 0
        have h2 := cnt_le cf G.n
        exact DD.some hod (by rw [hcol.len]; exact h2) (by omega)
      · show AllBare s₅.gens
        rw [hgens₅]; exact hb.push rfl
      · refine ⟨rfl, gu_start (S''.get List.mem_cons_self) hki4 (gu_loop (Ao := A1.in1.in1) (Lx := Lx) (by subst hA1; exact C'.hh) hka4 hndm rfl rfl rfl rfl (fun i t pl m' oI od s hi S => ?_) (fun i t pl m' oI od s hi S => ?_) G.n 0 _ s'' s'' [] _ oI4 od' (by omega) rfl S'' hki4 hdd rfl rfl)⟩
        · clear kS SG
          subst hfx
          have e : (I4, oI) :: (d, od) :: (pl ++ ((gx, og) :: (qm, methodObj (.ref 267) (.ref a.g)) :: (c1, o1) :: (gl ++ (69, oT') :: rest))) = ((I4, oI) :: (d, od) :: (pl ++ [(gx, og), (qm, methodObj (.ref 267) (.ref a.g)), (c1, o1)])) ++ (gl ++ (69, oT') :: rest) := by simp
          have S' := S
          unfold CU at S'
          rw [e] at S'
          have hc1 : (c1, o1) ∈ ((I4, oI) :: (d, od) :: (pl ++ [(gx, og), (qm, methodObj (.ref 267) (.ref a.g)), (c1, o1)])) ++ (gl ++ (69, oT') :: rest) := by simp
          have kR := Rest.refl s
          clear S
          have F := S'.F
          have N := S'.N
          refine isTrueCx CX CT (by subst hA1; exact C'.hh) (fun CG => ?_)
          iterate 9 (first | walk1 | (dsimp only; walk1))
          rename St _ _ _ _ _ => kS
          rename Cx _ _ _ _ _ => CG
          rename Rest _ _ => kR
          refine wpAny_call (getitem_c CG.in1 (St.flip kS) H rfl hi (by subst hA1; show A.depth + 1 + 0 + 0 + 1 + 0 < recursionLimit; omega) fun s₇ hr₇ S₇ => ?_)
          have S₇ := St.flop S₇
          have kR₇ := Rest.comp kR hr₇
          clear kR kS hr₇
          obtain ⟨oU, H4, H4d⟩ := H.nbr i hi
          have hal : (G.adj i).length ≤ 5 := by have := adj_len hok hi; omega
          have hz : ((adjD (G.adj i)).length : Int) < 2 ^ 63 := by unfold adjD; rw [List.length_map]; omega
          have F := S₇.F
          have N := S₇.N
          by_cases hadj : G.adj i = []
          · have hl0 : (((adjD (G.adj i)).length : Nat) : Int) = 0 := by rw [hadj]; rfl
            iterate 5 (first | walk1 | (dsimp only; walk1))
            rename St _ _ _ _ _ => kS
            rename Rest _ _ => kR
            rw [← e] at kS
            exact ⟨by rw [hadj]; rfl, kR, kS⟩
          · have hl0 : (((adjD (G.adj i)).length : Nat) : Int) ≠ 0 := by unfold adjD; rw [List.length_map]; intro e; exact hadj (List.length_eq_zero_iff.mp (by omega))
            iterate 5 (first | walk1 | (dsimp only; walk1))
            rename St _ _ _ _ _ => kS
            rename Rest _ _ => kR
            rw [← e] at kS
            exact ⟨by cases h : G.adj i <;> simp_all, kR, kS⟩
        · clear kS SG
          have kR := Rest.refl s
          have F := S.F
          have N := S.N
          refine evalCx CX CT (by subst hA1; exact C'.hh) (fun CG => ?_)
          iterate 7 (first | walk1 | (dsimp only; walk1))
          rename St _ _ _ _ _ => kS
          rename Rest _ _ => kR
          exact ⟨_, _, _, rfl, kR, kS.perm ((List.Perm.swap _ _ _).trans (List.Perm.cons _ (List.Perm.swap _ _ _)))⟩
    · have hL1 := kS.low.1
      obtain ⟨⟨pl, m6, od6, S6⟩, hos6, hba6⟩ := hj
      have S7 := S6.back FG5 st5 hL1 (Heap.SameBut.refl _ _)
      clear kS S6 SG
      have F := S7.F
      have N := S7.N
      iterate 3 (first | walk1 | (dsimp only; walk1))
      rename St _ _ _ _ _ => kS
      refine h s₆ oT' _ (hos6.trans hres.2.2) (fun hb => hba6 (by rw [hres.2.1]; exact hb)) hT' hbip ((kS.back FG st hL (Heap.SameBut.refl _ _)).sub ?_)
      subst hfx
      exact (.cons _ (List.Sublist.trans (.cons _ (.cons _ (.cons _ (List.Sublist.refl _)))) (List.sublist_append_right _ _)))

end Mine
end
section
open PySem PySem.W PySem.Calls PyProof.Rows
set_option maxRecDepth 100000
namespace Mine

local macro_rules | `(tactic| tb_start) => `(tactic| first | with_reducible assumption | with_reducible exact Ne.symm (by assumption) | (refine' fresh_ne ?l ?h0 ?h; (case l => with_reducible assumption); (case h0 => with_reducible assumption); (case h => tb_rel)) | (refine' Ne.symm (fresh_ne ?l ?h0 ?h); (case l => with_reducible assumption); (case h0 => with_reducible assumption); (case h => tb_rel)))
local macro_rules | `(tactic| tb_rel) => `(tactic| first | with_reducible assumption | with_reducible exact List.mem_cons_self | (with_reducible refine List.mem_cons_of_mem _ ?_; tb_rel) | (with_reducible refine mem_put_self (o := ?oo) ?hh; case hh => tb_rel) | (with_reducible refine mem_put_ne ?h1 ?h2; (case h1 => tb_rel); (case h2 => tb_start)) | (with_reducible refine List.mem_append_left _ ?_; tb_rel) | (with_reducible refine List.mem_append_right _ ?_; tb_rel))
local macro_rules | `(tactic| k_mem) => `(tactic| tb_rel)
local macro_rules | `(tactic| walk_at "compareOp In int ref") => `(tactic| (k_here; (with_reducible rename St _ _ _ _ _ => kS); (with_reducible rename Rest _ _ => kR); k_dflt (refine' in_D (knd := intKind PP _) ?h0 kS ?hm ?hd ?hk ?hv ?_; (case h0 => with_reducible assumption); (case hm => tb_rel); (case hd => first | with_reducible assumption | with_reducible exact isDict_nil _); (case hk => exact intKind_is _ _ _ _); (case hv => first | with_reducible assumption | with_reducible exact isSome_node _ (by assumption) | with_reducible exact isSome_node_none _ (by assumption) | with_reducible exact valueAt_adjS _ _)); (intro s' hr' kS'); (have kR' := Rest.comp kR hr'); clear kS kR hr'; (have kF := kS'.F); (have kN := kS'.N); (try k_sweep)))
local macro_rules | `(tactic| walk_at "compareOp NotIn int ref") => `(tactic| (k_here; (with_reducible rename St _ _ _ _ _ => kS); (with_reducible rename Rest _ _ => kR); k_dflt (refine' notin_D (knd := intKind PP _) ?h0 kS ?hm ?hd ?hk ?hv ?_; (case h0 => with_reducible assumption); (case hm => tb_rel); (case hd => first | with_reducible assumption | with_reducible exact isDict_nil _); (case hk => exact intKind_is _ _ _ _); (case hv => first | with_reducible assumption | with_reducible exact isSome_node _ (by assumption) | with_reducible exact isSome_node_none _ (by assumption) | with_reducible exact valueAt_adjS _ _)); (intro s' hr' kS'); (have kR' := Rest.comp kR hr'); clear kS kR hr'; (have kF := kS'.F); (have kN := kS'.N); (try k_sweep)))
local macro_rules | `(tactic| walk_at "subscriptTail Name Name ref int") => `(tactic| (k_here; (with_reducible show wpAny _ _ (subscriptTail _ _ (Value.ref _) (Value.int _ _)) _ _ _); (with_reducible rename St _ _ _ _ _ => kS); (with_reducible rename Rest _ _ => kR); k_dflt (refine' sub_D (knd := intKind PP _) ?h0 kS ?hm ?hd ?hk ?hv ?_; (case h0 => with_reducible assumption); (case hm => tb_rel); (case hd => first | with_reducible assumption | with_reducible exact isDict_nil _); (case hk => exact intKind_is _ _ _ _); (case hv => first | with_reducible assumption | with_reducible exact valueAt_node _ (by assumption) | with_reducible exact valueAt_stored _ _ _)); (intro s' hr' kS'); (have kR' := Rest.comp kR hr'); clear kS kR hr'; (have kF := kS'.F); (have kN := kS'.N); (try k_sweep)))
local macro_rules | `(tactic| walk_at "subscriptTail Attribute Name Name ref int") => `(tactic| (k_here; (with_reducible show wpAny _ _ (subscriptTail _ _ (Value.ref _) (Value.int _ _)) _ _ _); (with_reducible rename St _ _ _ _ _ => kS); (with_reducible rename Rest _ _ => kR); k_dflt (refine' sub_D (knd := intKind PP _) ?h0 kS ?hm ?hd ?hk ?hv ?_; (case h0 => with_reducible assumption); (case hm => tb_rel); (case hd => first | with_reducible assumption | with_reducible exact isDict_nil _); (case hk => exact intKind_is _ _ _ _); (case hv => first | with_reducible assumption | with_reducible exact valueAt_node _ (by assumption) | with_reducible exact valueAt_stored _ _ _)); (intro s' hr' kS'); (have kR' := Rest.comp kR hr'); clear kS kR hr'; (have kF := kS'.F); (have kN := kS'.N); (try k_sweep)))
local macro_rules | `(tactic| walk_at "subscriptTail Subscript Attribute Name Name ref int") => `(tactic| (k_here; (with_reducible show wpAny _ _ (subscriptTail _ _ (Value.ref _) (Value.int _ _)) _ _ _); (with_reducible rename St _ _ _ _ _ => kS); (with_reducible rename Rest _ _ => kR); k_dflt (refine' sub_D (knd := intKind PP _) ?h0 kS ?hm ?hd ?hk ?hv ?_; (case h0 => with_reducible assumption); (case hm => tb_rel); (case hd => first | with_reducible assumption | with_reducible exact isDict_nil _); (case hk => exact intKind_is _ _ _ _); (case hv => first | with_reducible assumption | with_reducible exact valueAt_node _ (by assumption) | with_reducible exact valueAt_stored _ _ _)); (intro s' hr' kS'); (have kR' := Rest.comp kR hr'); clear kS kR hr'; (have kF := kS'.F); (have kN := kS'.N); (try k_sweep)))
local macro_rules | `(tactic| walk_at "subscriptTail Subscript Name ref int") => `(tactic| (k_here; (with_reducible show wpAny _ _ (subscriptTail _ _ (Value.ref _) (Value.int _ _)) _ _ _); (with_reducible rename St _ _ _ _ _ => kS); (with_reducible rename Rest _ _ => kR); k_dflt (refine' sub_D (knd := intKind PP _) ?h0 kS ?hm ?hd ?hk ?hv ?_; (case h0 => with_reducible assumption); (case hm => tb_rel); (case hd => first | with_reducible assumption | with_reducible exact isDict_nil _); (case hk => exact intKind_is _ _ _ _); (case hv => first | with_reducible assumption | with_reducible exact valueAt_node _ (by assumption) | with_reducible exact valueAt_stored _ _ _)); (intro s' hr' kS'); (have kR' := Rest.comp kR hr'); clear kS kR hr'; (have kF := kS'.F); (have kN := kS'.N); (try k_sweep)))
local macro_rules | `(tactic| walk_at "storeName") => `(tactic| (k_here; (with_reducible rename St _ _ _ _ _ => kS); (with_reducible rename Rest _ _ => kR); k_dflt (refine' storeS kS ?_ ?h1 ?h2 ?h3; (case h1 => exact rfl); (case h2 => exact rfl); (case h3 => exact rfl)); (intro s' hr' kS'); (have kR' := Rest.comp kR hr'); clear kS kR hr'; (have kF := kS'.F); (have kN := kS'.N); (try k_sweep)))
local macro_rules | `(tactic| walk_at "eval Dict nil nil") => `(tactic| (k_here; (with_reducible rename St _ _ _ _ _ => kS); (with_reducible rename Rest _ _ => kR); k_dflt (refine' dictS kS ?_); (intro d' s' hr' kS' l1); (have hm' := cons_mem kS'); (have kR' := Rest.comp kR hr'); clear kS kR hr'; (have kF := kS'.F); (have kN := kS'.N); (try k_sweep)))
local macro_rules | `(tactic| walk_at "setItem ref int ref") => `(tactic| (k_here; (with_reducible rename St _ _ _ _ _ => kS); (with_reducible rename Rest _ _ => kR); k_dflt (refine' set_D (knd := intKind PP _) ?h0 kS ?hm ?hd ?hk ?hz ?_; (case h0 => with_reducible assumption); (case hm => tb_rel); (case hd => first | with_reducible assumption | with_reducible exact isDict_nil _); (case hk => exact intKind_is _ _ _ _); (case hz => first | with_reducible assumption | exact Nat.le_of_ble_eq_true rfl)); (intro s' o' hr' kS' hd' hm'); (have kR' := Rest.comp kR hr'); clear kS kR hr'; (have kF := kS'.F); (have kN := kS'.N); (try k_sweep)))
local macro_rules | `(tactic| walk_at "delItem ref") => `(tactic| (k_here; (with_reducible rename St _ _ _ _ _ => kS); (with_reducible rename Rest _ _ => kR); k_dflt (refine' del_D (knd := intKind PP _) ?h0 kS ?hm ?hd ?hk ?hz ?hl ?_; (case h0 => with_reducible assumption); (case hm => tb_rel); (case hd => first | with_reducible assumption | with_reducible exact isDict_nil _); (case hk => exact intKind_is _ _ _ _); (case hz => with_reducible assumption); (case hl => with_reducible assumption)); (intro s' o' hr' kS' hd' hm'); (have kR' := Rest.comp kR hr'); clear kS kR hr'; (have kF := kS'.F); (have kN := kS'.N); (try k_sweep)))
local macro_rules | `(tactic| walk_at "call builtin:dict.update") => `(tactic| (k_here; (with_reducible rename St _ _ _ _ _ => kS); (with_reducible rename Rest _ _ => kR); k_dflt (refine' update_nil (knd := strKind PP _) (knd' := strKind PP _) ?h0 ?h1 kS ?hm ?hd ?hme ?he ?hde ?_; (case h0 => with_reducible assumption); (case h1 => with_reducible assumption); (case hm => tb_rel); (case hd => first | with_reducible assumption | with_reducible exact isDict_nil _); (case hme => tb_rel); (case he => first | with_reducible assumption | with_reducible exact isDict_nil _); (case hde => tb_start)); (intro s' hr' kS'); (have kR' := Rest.comp kR hr'); clear kS kR hr'; (have kF := kS'.F); (have kN := kS'.N); (try k_sweep)))
local macro_rules | `(tactic| walk_at "call builtin:dict.get") => `(tactic| (k_here; (with_reducible show wpAny _ _ (call _ [_, _, _]) _ _ _); (with_reducible rename St _ _ _ _ _ => kS); (with_reducible rename Rest _ _ => kR); k_dflt (refine' get2_D (knd := intKind PP _) ?h0 kS ?hm ?hd ?hk ?hv ?_; (case h0 => with_reducible assumption); (case hm => tb_rel); (case hd => first | with_reducible assumption | with_reducible exact isDict_nil _); (case hk => exact intKind_is _ _ _ _); (case hv => first | exact getD_of_none (by assumption) | exact getD_of_some (by assumption))); (intro s' hr' kS'); (have kR' := Rest.comp kR hr'); clear kS kR hr'; (have kF := kS'.F); (have kN := kS'.N); (try k_sweep)))
local macro_rules | `(tactic| walk_at "getMethod ref") => `(tactic| (k_here; k_dflt (first
  | ((with_reducible show wpAny _ _ (getMethod (Value.ref _) (Str.ofString "update") _) _ _ _); refine' getM_DU (knd := strKind PP _) ?h0 ?S ?hm ?hd ?_; (case h0 => with_reducible assumption); (case S => assumption); (case hm => tb_rel); (case hd => first | with_reducible assumption | with_reducible exact isDict_nil _))
  | ((with_reducible show wpAny _ _ (getMethod (Value.ref _) (Str.ofString "get") _) _ _ _); refine' getM_DG (knd := intKind PP _) ?h0 ?S ?hm ?hd ?_; (case h0 => with_reducible assumption); (case S => assumption); (case hm => tb_rel); (case hd => first | with_reducible assumption | with_reducible exact isDict_nil _)))))
local macro_rules | `(tactic| walk_at "LeaveK") => `(tactic| ((with_reducible rename St _ _ _ _ _ => kS); (refine leaveS (by assumption) kS ?_); (intro kS'); clear kS; (try dsimp only)))
local macro_rules | `(tactic| walk_at "newTuple") => `(tactic| (k_here; (with_reducible rename St _ _ _ _ _ => kS); (with_reducible rename Rest _ _ => kR); k_dflt (refine' tupS kS ?_ ?hz; (case hz => size_fits)); (intro t' s' hr' kS' l1); (have hm' := cons_mem kS'); (have kR' := Rest.comp kR hr'); clear kS kR hr'; (have kF := kS'.F); (have kN := kS'.N); (try k_sweep)))
local macro_rules | `(tactic| walk_at "newList") => `(tactic| (k_here; (with_reducible rename St _ _ _ _ _ => kS); (with_reducible rename Rest _ _ => kR); k_dflt (refine' listS kS ?_ ?hz; (case hz => size_fits)); (intro t' s' hr' kS' l1); (have hm' := cons_mem kS'); (have kR' := Rest.comp kR hr'); clear kS kR hr'; (have kF := kS'.F); (have kN := kS'.N); (try k_sweep)))
local macro_rules | `(tactic| walk_at "unpackItems ref") => `(tactic| (k_here; (with_reducible rename Cx _ _ _ _ _ => kC); (with_reducible rename St _ _ _ _ _ => kS); (with_reducible rename Rest _ _ => kR); k_dflt (refine' unpackS ?h0 kS ?hm (Cx.hh kC) ?hn ?_; (case h0 => with_reducible assumption); (case hm => tb_rel); (case hn => exact rfl)); (intro s' hr' kS'); (have kR' := Rest.comp kR hr'); clear kS kR hr'; (have kF := kS'.F); (have kN := kS'.N); (try k_sweep)))
local macro_rules | `(tactic| walk_at "compareOp NotEq int int") => `(tactic| first | with_reducible refine ne_int_t (by with_reducible assumption) ?_ | with_reducible refine ne_int_f (by with_reducible assumption) ?_)
local macro_rules | `(tactic| walk_at "compareOp Eq int int") => `(tactic| first | with_reducible refine eq_int_t (by with_reducible assumption) ?_ | with_reducible refine eq_int_f (by with_reducible assumption) ?_)
local macro_rules | `(tactic| walk_at "setAttr ref") => `(tactic| (k_here; (with_reducible rename Cx _ _ _ _ _ => kC); (with_reducible rename St _ _ _ _ _ => kS); (with_reducible rename Rest _ _ => kR); k_dflt (refine' setAttrS kC kS ?h1 ?h2 ?k6 ?k7 ?k8 ?k9 ?k10 ?k11 ?k13 ?_; (case h1 => tb_rel); (case h2 => tb_rel); (case k6 => k_is); (case k7 => k_is); (case k8 => k_is); (case k9 => k_is); (case k10 => k_get); (case k11 => k_put); (case k13 => exact Nat.le_of_ble_eq_true rfl)); (intro s' hr' kS' hm'); (have kR' := Rest.comp kR hr'); clear kS kR hr'; (have kF := kS'.F); (have kN := kS'.N); (try k_sweep)))

local macro_rules | `(tactic| walk_at "subscriptTail Name BinOp ref int") => `(tactic| (k_here; (with_reducible rename St _ _ _ _ _ => kS); k_dflt (refine' subL ?h0 kS ?hm ?hx ?hn ?hh ?_; (case h0 => with_reducible assumption); (case hm => tb_rel); (case hx => first | with_reducible assumption | exact rfl); (case hn => first | decide | omega); (case hh => first | decide | omega))))
local macro_rules | `(tactic| walk_at "subscriptTail Name Constant ref int") => `(tactic| (k_here; (with_reducible rename St _ _ _ _ _ => kS); k_dflt (refine' subL ?h0 kS ?hm ?hx ?hn ?hh ?_; (case h0 => with_reducible assumption); (case hm => tb_rel); (case hx => first | with_reducible assumption | exact rfl); (case hn => first | decide | omega); (case hh => first | decide | omega))))
local macro_rules | `(tactic| walk_at "subscriptTail Name Name ref int") => `(tactic| (k_here; (with_reducible rename St _ _ _ _ _ => kS); k_dflt (refine' subL ?h0 kS ?hm ?hx ?hn ?hh ?_; (case h0 => with_reducible assumption); (case hm => tb_rel); (case hx => first | with_reducible assumption | exact rfl); (case hn => first | decide | omega); (case hh => first | decide | omega))))
local macro_rules | `(tactic| walk_at "subscriptTail Subscript Name Constant ref int") => `(tactic| (k_here; (with_reducible rename St _ _ _ _ _ => kS); k_dflt (refine' subL ?h0 kS ?hm ?hx ?hn ?hh ?_; (case h0 => with_reducible assumption); (case hm => tb_rel); (case hx => first | with_reducible assumption | exact rfl); (case hn => first | decide | omega); (case hh => first | decide | omega))))
local macro_rules | `(tactic| walk_at "subscriptTail Subscript Name Constant BinOp ref int") => `(tactic| (k_here; (with_reducible rename St _ _ _ _ _ => kS); k_dflt (refine' subL ?h0 kS ?hm ?hx ?hn ?hh ?_; (case h0 => with_reducible assumption); (case hm => tb_rel); (case hx => first | with_reducible assumption | exact rfl); (case hn => first | decide | omega); (case hh => first | decide | omega))))
local macro_rules | `(tactic| walk_at "subscriptTail Subscript Name Name ref int") => `(tactic| (k_here; (with_reducible rename St _ _ _ _ _ => kS); k_dflt (refine' subL ?h0 kS ?hm ?hx ?hn ?hh ?_; (case h0 => with_reducible assumption); (case hm => tb_rel); (case hx => first | with_reducible assumption | exact rfl); (case hn => first | decide | omega); (case hh => first | decide | omega))))
local macro_rules | `(tactic| walk_at "subscriptTail List Name ref int") => `(tactic| (k_here; (with_reducible rename St _ _ _ _ _ => kS); k_dflt (refine' subL ?h0 kS ?hm ?hx ?hn ?hh ?_; (case h0 => with_reducible assumption); (case hm => tb_rel); (case hx => first | with_reducible assumption | exact rfl); (case hn => first | decide | omega); (case hh => first | decide | omega))))
local macro_rules | `(tactic| walk_at "subscriptTail List cons Name ref int") => `(tactic| (k_here; (with_reducible rename St _ _ _ _ _ => kS); k_dflt (refine' subL ?h0 kS ?hm ?hx ?hn ?hh ?_; (case h0 => with_reducible assumption); (case hm => tb_rel); (case hx => first | with_reducible assumption | exact rfl); (case hn => first | decide | omega); (case hh => first | decide | omega))))
local macro_rules | `(tactic| walk_at "subscriptTail Subscript Name BinOp ref int") => `(tactic| (k_here; (with_reducible rename St _ _ _ _ _ => kS); k_dflt (refine' subL ?h0 kS ?hm ?hx ?hn ?hh ?_; (case h0 => with_reducible assumption); (case hm => tb_rel); (case hx => first | with_reducible assumption | exact rfl); (case hn => first | decide | omega); (case hh => first | decide | omega))))
local macro_rules | `(tactic| walk_at "getItem ref int") => `(tactic| (k_here; (with_reducible rename St _ _ _ _ _ => kS); k_dflt (refine' getL ?h0 kS ?hm ?hx ?hn ?hh ?_; (case h0 => with_reducible assumption); (case hm => tb_rel); (case hx => first | with_reducible assumption | exact rfl); (case hn => first | decide | omega); (case hh => first | decide | omega))))
local macro_rules | `(tactic| walk_at "setItem ref int int") => `(tactic| (k_here; (with_reducible rename St _ _ _ _ _ => kS); (with_reducible rename Rest _ _ => kR); k_dflt (refine' setL ?h0 kS ?hm ?hn ?hh ?hk ?hv ?_; (case h0 => with_reducible assumption); (case hm => tb_rel); (case hn => first | decide | omega); (case hh => first | decide | omega); (case hk => first | decide | (simp; done) | (simp; omega)); (case hv => first | (simp only [Int.toNat_one, Int.toNat_zero, Int.toNat_natCast, List.set_cons_succ, List.set_cons_zero]; exact rfl) | exact rfl)); (intro s' hr' kS' hm'); (have kR' := Rest.comp kR hr'); clear kS kR hr'; (have kF := kS'.F); (have kN := kS'.N); (try k_sweep)))
local macro_rules | `(tactic| walk_at "call builtin:len") => `(tactic| (k_here; (with_reducible rename St _ _ _ _ _ => kS); (with_reducible rename Rest _ _ => kR); k_dflt (refine' lenListS ?h0 kS ?hm ?hz ?_; (case h0 => with_reducible assumption); (case hm => tb_rel); (case hz => first | with_reducible assumption | omega)); (intro s' t' hr' kS'); (have kR' := Rest.comp kR hr'); clear kS kR hr'; (have kF := kS'.F); (have kN := kS'.N); (try k_sweep)))

local macro_rules | `(tactic| walk_at "eval Name") => `(tactic| (k_here; (with_reducible rename Cx _ _ _ _ _ => kC); (with_reducible rename St _ _ _ _ _ => kS); k_dflt (first
  | (refine' nmL kS ?hv ?_ ?hk ?hx ?hL ?hd; (case hx => exact rfl); (case hk => exact rfl); (case hL => exact rfl); (case hd => decide); (case hv => first | with_reducible assumption | exact rfl))
  | (refine' nmC kS ?hc ?hm ?hd ?_ ?hk ?hx ?hb; (case hx => exact rfl); (case hk => exact rfl); (case hb => decide); (case hc => exact rfl); (case hm => tb_rel); (case hd => with_reducible assumption))
  | (refine' nmF kS ?hc ?hm ?hd ?_ ?hk ?hx ?hb ?hn; (case hx => exact rfl); (case hk => exact rfl); (case hb => decide); (case hn => decide); (case hc => exact rfl); (case hm => tb_rel); (case hd => with_reducible assumption))
  | (refine' nmB kC kS ?he ?hv ?hn ?_ ?hg ?hbb ?hx ?hd; (case hx => exact rfl); (case he => exact rfl); (case hg => exact rfl); (case hbb => exact rfl); (case hd => decide); (case hv => first | boot_fast | exact rfl); (case hn => decide))
  | (refine' nmG kC kS ?he ?_ ?hg ?hx ?hd; (case hx => exact rfl); (case he => exact rfl); (case hg => exact rfl); (case hd => decide)))))
local macro_rules | `(tactic| walk_at "binaryOp Add ref ref") => `(tactic| (k_here; (with_reducible rename St _ _ _ _ _ => kS); (with_reducible rename Rest _ _ => kR); k_dflt (refine' addLS ?h0 ?h1 kS ?hm ?hn ?hz ?_; (case h0 => with_reducible assumption); (case h1 => with_reducible assumption); (case hm => tb_rel); (case hn => tb_rel); (case hz => first | with_reducible assumption | (simp only [List.length_cons, List.length_nil]; omega))); (intro t' s' hr' kS' l1); (have hm' := cons_mem kS'); (have kR' := Rest.comp kR hr'); clear kS kR hr'; (have kF := kS'.F); (have kN := kS'.N); (try k_sweep)))
local macro_rules | `(tactic| walk_at "storeName") => `(tactic| (k_here; (with_reducible rename St _ _ _ _ _ => kS); (with_reducible rename Rest _ _ => kR); k_dflt (refine' storeC kS ?hc ?hm ?hd ?_ ?hk ?hx; (case hx => exact rfl); (case hk => exact rfl); (case hc => exact rfl); (case hm => tb_rel); (case hd => with_reducible assumption)); (intro s' o' hr' kS' hd' hm'); (have kR' := Rest.comp kR hr'); clear kS kR hr'; (have kF := kS'.F); (have kN := kS'.N); (try k_sweep)))
local macro_rules | `(tactic| walk_at "call builtin:all") => `(tactic| (k_here; (with_reducible rename Cx _ _ _ _ _ => kC); (with_reducible rename St _ _ _ _ _ => kS); (with_reducible rename Rest _ _ => kR); k_dflt (refine' allBools (Cx.hh kC) ?h0 kS ?hm ?_; (case h0 => with_reducible assumption); (case hm => tb_rel)); (intro s' hr' kS'); (have kR' := Rest.comp kR hr'); clear kS kR hr'; (have kF := kS'.F); (have kN := kS'.N); (try k_sweep)))
local macro_rules | `(tactic| walk_at "call builtin:any") => `(tactic| (k_here; (with_reducible rename Cx _ _ _ _ _ => kC); (with_reducible rename St _ _ _ _ _ => kS); (with_reducible rename Rest _ _ => kR); k_dflt (refine' anyBools (Cx.hh kC) ?h0 kS ?hm ?_; (case h0 => with_reducible assumption); (case hm => tb_rel)); (intro s' hr' kS'); (have kR' := Rest.comp kR hr'); clear kS kR hr'; (have kF := kS'.F); (have kN := kS'.N); (try k_sweep)))
local macro_rules | `(tactic| walk_at "call type:range") => `(tactic| (k_here; (with_reducible rename St _ _ _ _ _ => kS); (with_reducible rename Rest _ _ => kR); k_dflt (first | refine' rangeS1 kS ?_ | refine' rangeS2 kS ?_); (intro r' t1' t2' t3' s' hr' kS' l1); (have hm' := cons_mem kS'); (have kR' := Rest.comp kR hr'); clear kS kR hr'; (have kF := kS'.F); (have kN := kS'.N); (try k_sweep)))
local macro_rules | `(tactic| walk_at "loadName") => `(tactic| (k_here; (with_reducible rename St _ _ _ _ _ => kS); k_dflt (refine' ldL kS ?hv ?_ ?hk ?hx ?hL; (case hx => exact rfl); (case hk => exact rfl); (case hL => exact rfl); (case hv => first | with_reducible assumption | exact rfl))))

local macro_rules | `(tactic| walk_at "subscriptTail Name Name ref int") => `(tactic| (k_here; (with_reducible show wpAny _ _ (subscriptTail _ _ (Value.ref _) (Value.int _ _)) _ _ _); (with_reducible rename St _ _ _ _ _ => kS); (with_reducible rename Rest _ _ => kR); k_dflt (refine' sub_D (knd := intKind PP _) ?h0 kS ?hm ?hd ?hk ?hv ?_; (case h0 => with_reducible assumption); (case hm => tb_rel); (case hd => first | with_reducible assumption | with_reducible exact isDict_nil _); (case hk => exact intKind_is _ _ _ _); (case hv => first | with_reducible assumption | with_reducible exact valueAt_node _ (by assumption) | with_reducible exact valueAt_stored _ _ _)); (intro s' hr' kS'); (have kR' := Rest.comp kR hr'); clear kS kR hr'; (have kF := kS'.F); (have kN := kS'.N); (try k_sweep)))
local macro_rules | `(tactic| walk_at "call builtin:len") => `(tactic| (k_here; (with_reducible rename St _ _ _ _ _ => kS); (with_reducible rename Rest _ _ => kR); k_dflt (refine' len_D (knd := intKind PP _) ?h0 kS ?hm ?hd ?hz ?_; (case h0 => with_reducible assumption); (case hm => tb_rel); (case hd => with_reducible assumption); (case hz => with_reducible assumption)); (intro s' t' hr' kS'); (have kR' := Rest.comp kR hr'); clear kS kR hr'; (have kF := kS'.F); (have kN := kS'.N); (try k_sweep)))
local macro_rules | `(tactic| walk_at "setItem ref int int") => `(tactic| (k_here; (with_reducible rename St _ _ _ _ _ => kS); (with_reducible rename Rest _ _ => kR); k_dflt (refine' set_D (knd := intKind PP _) ?h0 kS ?hm ?hd ?hk ?hz ?_; (case h0 => with_reducible assumption); (case hm => tb_rel); (case hd => first | with_reducible assumption | with_reducible exact isDict_nil _); (case hk => exact intKind_is _ _ _ _); (case hz => first | with_reducible assumption | exact Nat.le_of_ble_eq_true rfl)); (intro s' o' hr' kS' hd' hm'); (have kR' := Rest.comp kR hr'); clear kS kR hr'; (have kF := kS'.F); (have kN := kS'.N); (try k_sweep)))
local macro_rules | `(tactic| walk_at "getMethod ref") => `(tactic| (k_here; (with_reducible show wpAny _ _ (getMethod (Value.ref _) (Str.ofString "pop") _) _ _ _); (with_reducible rename St _ _ _ _ _ => kS); k_dflt (refine' getPopS ?h0 kS ?hm ?_; (case h0 => with_reducible assumption); (case hm => tb_rel))))
local macro_rules | `(tactic| walk_at "call builtin:list.pop") => `(tactic| (k_here; (with_reducible rename St _ _ _ _ _ => kS); (with_reducible rename Rest _ _ => kR); k_dflt (refine' popS ?h0 kS ?hm ?hf ?_; (case h0 => with_reducible assumption); (case hm => tb_rel); (case hf => with_reducible assumption)); (intro s' hr' kS' hm'); (have kR' := Rest.comp kR hr'); clear kS kR hr'; (have kF := kS'.F); (have kN := kS'.N); (try k_sweep)))
local macro_rules | `(tactic| walk_at "truthy ref") => `(tactic| (k_here; (with_reducible rename St _ _ _ _ _ => kS); (with_reducible rename Rest _ _ => kR); k_dflt (refine' truthyListS ?h0 kS ?hm ?hl ?hb ?_; (case h0 => with_reducible assumption); (case hm => tb_rel); (case hl => with_reducible assumption); (case hb => with_reducible assumption)); (intro s' hr' kS'); (have kR' := Rest.comp kR hr'); clear kS kR hr'; (have kF := kS'.F); (have kN := kS'.N); (try k_sweep)))
local macro_rules | `(tactic| walk_at "call builtin:list.append") => `(tactic| (k_here; (with_reducible rename St _ _ _ _ _ => kS); (with_reducible rename Rest _ _ => kR); k_dflt (refine' appendS ?h0 kS ?hm ?hl ?_; (case h0 => with_reducible assumption); (case hm => tb_rel); (case hl => with_reducible assumption)); (intro s' hr' kS' hm'); (have kR' := Rest.comp kR hr'); clear kS kR hr'; (have kF := kS'.F); (have kN := kS'.N); (try k_sweep)))

theorem nmG0 {w : World} {A : Around} {E : Value → Shared → Prop} {s : Shared} {h₀ : Heap} {L : Addr} {m : Str → Option Value} {news : List (Addr × Obj)} {env : Env} {x : Str} {pos : Pos} {v : Value} {Q : Value → Shared → Prop} (X : (hd.heap_39 w.params).In h₀) (T : ∃ mean mg mb, Top thinP thinL mean mg mb h₀) (S : St h₀ L m news s.heap) (e : nsIn (hd.heap_39 w.params) mainGlobals x = some (some v)) (h : Q v s)
    (hk : env.scope.kind = .function := by rfl) (hg : env.globals = mainGlobals := by rfl) (hx : env.kindOf x = some .globalImplicit := by rfl)
    (hd : (x == ("__debug__" : Str)) = false := by decide) : wpAny (model PP w) A (eval (.Name x pos) env) Q E s := by
  obtain ⟨mean, mg, mb, T⟩ := T
  exact Name_function_global hk hx (loadGlobal_global (env := env) (hg ▸ T.g.keeps S.F.keep) (mg_of X T.g e) h) hd
theorem frames2 {env' env : Env} {L' L : Addr} {h₀ g₀ s s₁ : Heap} {m m' : Str → Option Value} {news : List (Addr × Obj)} (hk' : env'.scope.kind ≠ .module) (hf' : env'.frame = some L') (hk : env.scope.kind ≠ .module) (hf : env.frame = some L)
    (S0 : St h₀ L m news s) (S1 : St g₀ L' m' news s₁) (hk₁ : ∀ b o, s.get? b = some o → s₁.get? b = some o) : FramesIn [env', env] (hideAll s₁ (news.map (·.1))) := by
  intro e he
  rcases List.mem_cons.mp he with rfl | he
  · obtain ⟨o, es, ep, ho, hc, hd, _⟩ := S1.F.ns
    refine ⟨hk', L', o, hf', hideAll_get _ ho fun hm => ?_, fun vs q => ?_⟩
    · obtain ⟨p, hp, e⟩ := List.mem_map.mp hm
      exact (S1.N p hp).2.1 e
    · first | (rw [hd] at q; cases q) | (rw [hc] at q; cases q)
  · obtain rfl := List.mem_singleton.mp he
    obtain ⟨o, es, ep, ho, hc, hd, _⟩ := S0.F.ns
    refine ⟨hk, L, o, hf, hideAll_get _ (hk₁ _ _ ho) fun hm => ?_, fun vs q => ?_⟩
    · obtain ⟨p, hp, e⟩ := List.mem_map.mp hm
      exact (S0.N p hp).2.1 e
    · first | (rw [hd] at q; cases q) | (rw [hc] at q; cases q)
set_option maxHeartbeats 8000000 in
theorem bipartite_c {w : World} {A : Around} {s : Shared} {h₀ : Heap} {env : Env} {L : Addr} {a : GA} {G : Gr} {m : Str → Option Value} {gl rest : List (Addr × Obj)} {R : Result → Shared → Prop} {oT : Obj}
  (C : Cx w A env L h₀) (S : St h₀ L m (gl ++ (69, oT) :: rest) s.heap) (hT : TabOk gxCol oT) (H : GraphIn w gl a G) {g : Addr} (hg : a.g = g) (hok : GOk G) (hn : G.n ≤ 5) (hsym : ∀ i j, G.has i j → G.has j i)
  (hfr : A.frames = some [env]) (hfL : env.frame = some L) (hroom : A.depth + 21 < recursionLimit)
  (h : ∀ s' oT' b, s'.os = s.os → (AllBare s.gens → AllBare s'.gens) → TabOk gxCol oT' → (b = true ↔ Bip G) → St h₀ L m (gl ++ (69, oT') :: rest) s'.heap → R (.ok (.ret (.bool b))) s') :
  codeAny (model PP w) A (.call (.ref 81) ⟨[.ref g], []⟩) R s := by
  subst hg
  refine enterCR (binds := [(Str.ofString "G", .ref a.g)]) (cn := []) C S (by k_is) (by k_is) (BindsTo.of_eq rfl) (fun _ => kinds_of (by kinds_ok)) rfl (by decide) (fun g₀ L' s₁ cs0 cells hr hg₀ FG st hL' hk₁ C' hcs Y S' hab hlo hLs => ?_) (by omega)
  obtain rfl := List.map_eq_nil_iff.mp hcs
  cases Y
  have S' : St g₀ L' _ (gl ++ (69, oT) :: rest) s₁.heap := S'
  have hL := S.low.1
  have S0 := And.intro trivial S
  have C0 := And.intro trivial C
  have S1 := And.intro trivial S'
  clear C S
  have F := S'.F
  have N := S'.N
  have X := C'.X
  obtain ⟨mean, mg, mb, T⟩ := C'.T
  iterate 1 (first | walk1 | (dsimp only; walk1))
  refine wpAny_Try_except ?_
  iterate 8 (first | walk1 | (dsimp only; walk1))
  rename St _ _ _ _ _ => kS
  rename Cx _ _ _ _ _ => C'
  rename Rest _ _ => kR
  have hbL : ∀ p ∈ gl ++ (69, oT) :: rest, p.1 ≠ L ∧ p.1 ≠ L' := fun p hp => ⟨(S0.2.N p hp).2.1, (S1.2.N p hp).2.1⟩
  have hres := And.intro trivial kR
  refine ⟨C'.X.keeps kS.F.keep, ?_⟩
  refine wpAny_call (color_c C' kS hT H rfl hok hn hsym (Around.frames_deeper hfr) (frames2 (by show ScopeKind.function ≠ .module; decide) rfl (by rw [C0.2.kind]; decide) hfL S0.2 S1.2 hk₁) (by show A.depth + 1 + 20 < recursionLimit; omega) (fun s₂ e hr₂ hnb hth => ?_) (fun s₂ oT₂ v hos₂ hba₂ hT₂ hb₂ S₂ => ?_))
  · obtain ⟨B, a0, hB, hfl, hsm⟩ := hth
    have hLg : ∀ b o, h₀.get? b = some o → B.get? b = some o := fun b o q => by
      refine hB b o (S1.2.F.keep b o (st b o q)) fun hm => ?_
      obtain ⟨e', he', hf'⟩ := List.mem_filterMap.mp hm
      rcases List.mem_cons.mp he' with rfl | he'
      · obtain rfl := Option.some.inj hf'
        rw [st _ _ q] at hL'; cases hL'
      · obtain rfl := List.mem_singleton.mp he'
        rw [hfL] at hf'; obtain rfl := Option.some.inj hf'
        exact absurd (Nat.lt_of_lt_of_le (Heap.lt_size q) FG.above) (Nat.lt_irrefl _)
    have hpB : ∀ p ∈ gl ++ (69, oT) :: rest, B.get? p.1 = some p.2 := fun p hp => by
      refine hB p.1 p.2 (S1.2.get hp) fun hm => ?_
      obtain ⟨e', he', hf'⟩ := List.mem_filterMap.mp hm
      rcases List.mem_cons.mp he' with rfl | he'
      · exact (hbL p hp).2 (Option.some.inj hf').symm
      · obtain rfl := List.mem_singleton.mp he'
        rw [hfL] at hf'; exact (hbL p hp).1 (Option.some.inj hf').symm
    have habv : h₀.objs.size ≤ L' := by
      obtain ⟨o, es, ep, ho, _⟩ := FG.ns
      exact Nat.le_trans FG.above (Nat.le_of_lt (Nat.lt_of_lt_of_le (Heap.lt_size ho) S1.2.F.above))
    refine wpAny_looks_onW (Around.frames_deeper hfr) rfl hfl fun h₄ hheld₄ hsm₄ => ?_
    refine wpAny_landsW hheld₄ fun h₅ hheld hsm₅' => ?_
    have hsm₅ := (hsm.trans hsm₄).trans hsm₅'
    obtain ⟨ob, hob, hobc⟩ := hheld.there
    have XB := (C0.2.X.keeps hLg).keeps hheld.1
    obtain ⟨nm, q', N5, bs, bm, hdct, sn, sub, ab, col, dd, k0, k1, k2, k3, k5, newId, hC, hbase, hbT⟩ := kts_cls (T := "BaseException") (C := 65) XB (by kts_isx)
    have S5 : St h₀ L' _ [] h₅ := ⟨⟨Heap.UpToSlots.ns hsm₅ S1.2.F.ns, fun b o q => hheld.1 b o (hLg b o q), habv⟩, (fun p hp => nomatch hp), List.nodup_nil, S1.2.low.1, (fun p hp => nomatch hp)⟩
    refine wpAny_handleBy_cons (codeAny_handlers_test (nmG0 C0.2.X C0.2.T (s := { s₂ with heap := h₅ }) S5 (v := .ref 65) (by k_is) ?_)) (by intro q; cases q)
    refine wpAny_excMatches_sub_self hC hob hobc hbase (codeAny_handlers_suite ?_)
    refine lands_againW hheld fun h₆ hfl₆ hsm₆ => ?_
    have hsm₇ := hsm₅.trans hsm₆
    have S6 : St h₀ L m (gl ++ (69, oT) :: rest) h₆ := ⟨⟨Heap.UpToSlots.ns hsm₇ (FG.ns.keeps S1.2.F.keep), fun b o q => hfl₆.1 b o (hLg b o q), S0.2.F.above⟩, fun p hp => ⟨hfl₆.1 _ _ (hpB p hp), (S0.2.N p hp).2⟩, S0.2.D, S0.2.low⟩
    clear kS
    have F := S6.F
    have N := S6.N
    iterate 3 (first | walk1 | (dsimp only; walk1))
    exact h _ oT false (hr₂.2.trans hres.2.2) (fun hb => by show AllBare s₂.gens; rw [hr₂.1, hres.2.1]; exact hb) hT (by simp [hnb]) S6
  · clear kS
    have F := S₂.F
    have N := S₂.N
    iterate 3 (first | walk1 | (dsimp only; walk1))
    exact h s₂ oT₂ true (hos₂.trans hres.2.2) (fun hb => hba₂ (by rw [hres.2.1]; exact hb)) hT₂ (by simp [hb₂]) (S₂.back FG st hL (Heap.SameBut.refl _ _))

end Mine
end
section
open PySem PySem.W PySem.Calls PyProof.Rows
set_option maxRecDepth 100000
namespace Mine

local macro_rules | `(tactic| tb_start) => `(tactic| first | with_reducible assumption | with_reducible exact Ne.symm (by assumption) | (refine' fresh_ne ?l ?h0 ?h; (case l => with_reducible assumption); (case h0 => with_reducible assumption); (case h => tb_rel)) | (refine' Ne.symm (fresh_ne ?l ?h0 ?h); (case l => with_reducible assumption); (case h0 => with_reducible assumption); (case h => tb_rel)))
local macro_rules | `(tactic| tb_rel) => `(tactic| first | with_reducible assumption | with_reducible exact List.mem_cons_self | (with_reducible refine List.mem_cons_of_mem _ ?_; tb_rel) | (with_reducible refine mem_put_self (o := ?oo) ?hh; case hh => tb_rel) | (with_reducible refine mem_put_ne ?h1 ?h2; (case h1 => tb_rel); (case h2 => tb_start)) | (with_reducible refine List.mem_append_left _ ?_; tb_rel) | (with_reducible refine List.mem_append_right _ ?_; tb_rel))
local macro_rules | `(tactic| k_mem) => `(tactic| tb_rel)
local macro_rules | `(tactic| walk_at "compareOp In int ref") => `(tactic| (k_here; (with_reducible rename St _ _ _ _ _ => kS); (with_reducible rename Rest _ _ => kR); k_dflt (refine' in_D (knd := intKind PP _) ?h0 kS ?hm ?hd ?hk ?hv ?_; (case h0 => with_reducible assumption); (case hm => tb_rel); (case hd => first | with_reducible assumption | with_reducible exact isDict_nil _); (case hk => exact intKind_is _ _ _ _); (case hv => first | with_reducible assumption | with_reducible exact isSome_node _ (by assumption) | with_reducible exact isSome_node_none _ (by assumption) | with_reducible exact valueAt_adjS _ _)); (intro s' hr' kS'); (have kR' := Rest.comp kR hr'); clear kS kR hr'; (have kF := kS'.F); (have kN := kS'.N); (try k_sweep)))
local macro_rules | `(tactic| walk_at "compareOp NotIn int ref") => `(tactic| (k_here; (with_reducible rename St _ _ _ _ _ => kS); (with_reducible rename Rest _ _ => kR); k_dflt (refine' notin_D (knd := intKind PP _) ?h0 kS ?hm ?hd ?hk ?hv ?_; (case h0 => with_reducible assumption); (case hm => tb_rel); (case hd => first | with_reducible assumption | with_reducible exact isDict_nil _); (case hk => exact intKind_is _ _ _ _); (case hv => first | with_reducible assumption | with_reducible exact isSome_node _ (by assumption) | with_reducible exact isSome_node_none _ (by assumption) | with_reducible exact valueAt_adjS _ _)); (intro s' hr' kS'); (have kR' := Rest.comp kR hr'); clear kS kR hr'; (have kF := kS'.F); (have kN := kS'.N); (try k_sweep)))
local macro_rules | `(tactic| walk_at "subscriptTail Name Name ref int") => `(tactic| (k_here; (with_reducible show wpAny _ _ (subscriptTail _ _ (Value.ref _) (Value.int _ _)) _ _ _); (with_reducible rename St _ _ _ _ _ => kS); (with_reducible rename Rest _ _ => kR); k_dflt (refine' sub_D (knd := intKind PP _) ?h0 kS ?hm ?hd ?hk ?hv ?_; (case h0 => with_reducible assumption); (case hm => tb_rel); (case hd => first | with_reducible assumption | with_reducible exact isDict_nil _); (case hk => exact intKind_is _ _ _ _); (case hv => first | with_reducible assumption | with_reducible exact valueAt_node _ (by assumption) | with_reducible exact valueAt_stored _ _ _)); (intro s' hr' kS'); (have kR' := Rest.comp kR hr'); clear kS kR hr'; (have kF := kS'.F); (have kN := kS'.N); (try k_sweep)))
local macro_rules | `(tactic| walk_at "subscriptTail Attribute Name Name ref int") => `(tactic| (k_here; (with_reducible show wpAny _ _ (subscriptTail _ _ (Value.ref _) (Value.int _ _)) _ _ _); (with_reducible rename St _ _ _ _ _ => kS); (with_reducible rename Rest _ _ => kR); k_dflt (refine' sub_D (knd := intKind PP _) ?h0 kS ?hm ?hd ?hk ?hv ?_; (case h0 => with_reducible assumption); (case hm => tb_rel); (case hd => first | with_reducible assumption | with_reducible exact isDict_nil _); (case hk => exact intKind_is _ _ _ _); (case hv => first | with_reducible assumption | with_reducible exact valueAt_node _ (by assumption) | with_reducible exact valueAt_stored _ _ _)); (intro s' hr' kS'); (have kR' := Rest.comp kR hr'); clear kS kR hr'; (have kF := kS'.F); (have kN := kS'.N); (try k_sweep)))
local macro_rules | `(tactic| walk_at "subscriptTail Subscript Attribute Name Name ref int") => `(tactic| (k_here; (with_reducible show wpAny _ _ (subscriptTail _ _ (Value.ref _) (Value.int _ _)) _ _ _); (with_reducible rename St _ _ _ _ _ => kS); (with_reducible rename Rest _ _ => kR); k_dflt (refine' sub_D (knd := intKind PP _) ?h0 kS ?hm ?hd ?hk ?hv ?_; (case h0 => with_reducible assumption); (case hm => tb_rel); (case hd => first | with_reducible assumption | with_reducible exact isDict_nil _); (case hk => exact intKind_is _ _ _ _); (case hv => first | with_reducible assumption | with_reducible exact valueAt_node _ (by assumption) | with_reducible exact valueAt_stored _ _ _)); (intro s' hr' kS'); (have kR' := Rest.comp kR hr'); clear kS kR hr'; (have kF := kS'.F); (have kN := kS'.N); (try k_sweep)))
local macro_rules | `(tactic| walk_at "subscriptTail Subscript Name ref int") => `(tactic| (k_here; (with_reducible show wpAny _ _ (subscriptTail _ _ (Value.ref _) (Value.int _ _)) _ _ _); (with_reducible rename St _ _ _ _ _ => kS); (with_reducible rename Rest _ _ => kR); k_dflt (refine' sub_D (knd := intKind PP _) ?h0 kS ?hm ?hd ?hk ?hv ?_; (case h0 => with_reducible assumption); (case hm => tb_rel); (case hd => first | with_reducible assumption | with_reducible exact isDict_nil _); (case hk => exact intKind_is _ _ _ _); (case hv => first | with_reducible assumption | with_reducible exact valueAt_node _ (by assumption) | with_reducible exact valueAt_stored _ _ _)); (intro s' hr' kS'); (have kR' := Rest.comp kR hr'); clear kS kR hr'; (have kF := kS'.F); (have kN := kS'.N); (try k_sweep)))
local macro_rules | `(tactic| walk_at "storeName") => `(tactic| (k_here; (with_reducible rename St _ _ _ _ _ => kS); (with_reducible rename Rest _ _ => kR); k_dflt (refine' storeS kS ?_ ?h1 ?h2 ?h3; (case h1 => exact rfl); (case h2 => exact rfl); (case h3 => exact rfl)); (intro s' hr' kS'); (have kR' := Rest.comp kR hr'); clear kS kR hr'; (have kF := kS'.F); (have kN := kS'.N); (try k_sweep)))
local macro_rules | `(tactic| walk_at "eval Dict nil nil") => `(tactic| (k_here; (with_reducible rename St _ _ _ _ _ => kS); (with_reducible rename Rest _ _ => kR); k_dflt (refine' dictS kS ?_); (intro d' s' hr' kS' l1); (have hm' := cons_mem kS'); (have kR' := Rest.comp kR hr'); clear kS kR hr'; (have kF := kS'.F); (have kN := kS'.N); (try k_sweep)))
local macro_rules | `(tactic| walk_at "setItem ref int ref") => `(tactic| (k_here; (with_reducible rename St _ _ _ _ _ => kS); (with_reducible rename Rest _ _ => kR); k_dflt (refine' set_D (knd := intKind PP _) ?h0 kS ?hm ?hd ?hk ?hz ?_; (case h0 => with_reducible assumption); (case hm => tb_rel); (case hd => first | with_reducible assumption | with_reducible exact isDict_nil _); (case hk => exact intKind_is _ _ _ _); (case hz => first | with_reducible assumption | exact Nat.le_of_ble_eq_true rfl)); (intro s' o' hr' kS' hd' hm'); (have kR' := Rest.comp kR hr'); clear kS kR hr'; (have kF := kS'.F); (have kN := kS'.N); (try k_sweep)))
local macro_rules | `(tactic| walk_at "delItem ref") => `(tactic| (k_here; (with_reducible rename St _ _ _ _ _ => kS); (with_reducible rename Rest _ _ => kR); k_dflt (refine' del_D (knd := intKind PP _) ?h0 kS ?hm ?hd ?hk ?hz ?hl ?_; (case h0 => with_reducible assumption); (case hm => tb_rel); (case hd => first | with_reducible assumption | with_reducible exact isDict_nil _); (case hk => exact intKind_is _ _ _ _); (case hz => with_reducible assumption); (case hl => with_reducible assumption)); (intro s' o' hr' kS' hd' hm'); (have kR' := Rest.comp kR hr'); clear kS kR hr'; (have kF := kS'.F); (have kN := kS'.N); (try k_sweep)))
local macro_rules | `(tactic| walk_at "call builtin:dict.update") => `(tactic| (k_here; (with_reducible rename St _ _ _ _ _ => kS); (with_reducible rename Rest _ _ => kR); k_dflt (refine' update_nil (knd := strKind PP _) (knd' := strKind PP _) ?h0 ?h1 kS ?hm ?hd ?hme ?he ?hde ?_; (case h0 => with_reducible assumption); (case h1 => with_reducible assumption); (case hm => tb_rel); (case hd => first | with_reducible assumption | with_reducible exact isDict_nil _); (case hme => tb_rel); (case he => first | with_reducible assumption | with_reducible exact isDict_nil _); (case hde => tb_start)); (intro s' hr' kS'); (have kR' := Rest.comp kR hr'); clear kS kR hr'; (have kF := kS'.F); (have kN := kS'.N); (try k_sweep)))
local macro_rules | `(tactic| walk_at "call builtin:dict.get") => `(tactic| (k_here; (with_reducible show wpAny _ _ (call _ [_, _, _]) _ _ _); (with_reducible rename St _ _ _ _ _ => kS); (with_reducible rename Rest _ _ => kR); k_dflt (refine' get2_D (knd := intKind PP _) ?h0 kS ?hm ?hd ?hk ?hv ?_; (case h0 => with_reducible assumption); (case hm => tb_rel); (case hd => first | with_reducible assumption | with_reducible exact isDict_nil _); (case hk => exact intKind_is _ _ _ _); (case hv => first | exact getD_of_none (by assumption) | exact getD_of_some (by assumption))); (intro s' hr' kS'); (have kR' := Rest.comp kR hr'); clear kS kR hr'; (have kF := kS'.F); (have kN := kS'.N); (try k_sweep)))
local macro_rules | `(tactic| walk_at "getMethod ref") => `(tactic| (k_here; k_dflt (first
  | ((with_reducible show wpAny _ _ (getMethod (Value.ref _) (Str.ofString "update") _) _ _ _); refine' getM_DU (knd := strKind PP _) ?h0 ?S ?hm ?hd ?_; (case h0 => with_reducible assumption); (case S => assumption); (case hm => tb_rel); (case hd => first | with_reducible assumption | with_reducible exact isDict_nil _))
  | ((with_reducible show wpAny _ _ (getMethod (Value.ref _) (Str.ofString "get") _) _ _ _); refine' getM_DG (knd := intKind PP _) ?h0 ?S ?hm ?hd ?_; (case h0 => with_reducible assumption); (case S => assumption); (case hm => tb_rel); (case hd => first | with_reducible assumption | with_reducible exact isDict_nil _)))))
local macro_rules | `(tactic| walk_at "LeaveK") => `(tactic| ((with_reducible rename St _ _ _ _ _ => kS); (refine leaveS (by assumption) kS ?_); (intro kS'); clear kS; (try dsimp only)))
local macro_rules | `(tactic| walk_at "newTuple") => `(tactic| (k_here; (with_reducible rename St _ _ _ _ _ => kS); (with_reducible rename Rest _ _ => kR); k_dflt (refine' tupS kS ?_ ?hz; (case hz => size_fits)); (intro t' s' hr' kS' l1); (have hm' := cons_mem kS'); (have kR' := Rest.comp kR hr'); clear kS kR hr'; (have kF := kS'.F); (have kN := kS'.N); (try k_sweep)))
local macro_rules | `(tactic| walk_at "newList") => `(tactic| (k_here; (with_reducible rename St _ _ _ _ _ => kS); (with_reducible rename Rest _ _ => kR); k_dflt (refine' listS kS ?_ ?hz; (case hz => size_fits)); (intro t' s' hr' kS' l1); (have hm' := cons_mem kS'); (have kR' := Rest.comp kR hr'); clear kS kR hr'; (have kF := kS'.F); (have kN := kS'.N); (try k_sweep)))
local macro_rules | `(tactic| walk_at "unpackItems ref") => `(tactic| (k_here; (with_reducible rename Cx _ _ _ _ _ => kC); (with_reducible rename St _ _ _ _ _ => kS); (with_reducible rename Rest _ _ => kR); k_dflt (refine' unpackS ?h0 kS ?hm (Cx.hh kC) ?hn ?_; (case h0 => with_reducible assumption); (case hm => tb_rel); (case hn => exact rfl)); (intro s' hr' kS'); (have kR' := Rest.comp kR hr'); clear kS kR hr'; (have kF := kS'.F); (have kN := kS'.N); (try k_sweep)))
local macro_rules | `(tactic| walk_at "compareOp NotEq int int") => `(tactic| first | with_reducible refine ne_int_t (by with_reducible assumption) ?_ | with_reducible refine ne_int_f (by with_reducible assumption) ?_)
local macro_rules | `(tactic| walk_at "compareOp Eq int int") => `(tactic| first | with_reducible refine eq_int_t (by with_reducible assumption) ?_ | with_reducible refine eq_int_f (by with_reducible assumption) ?_)
local macro_rules | `(tactic| walk_at "setAttr ref") => `(tactic| (k_here; (with_reducible rename Cx _ _ _ _ _ => kC); (with_reducible rename St _ _ _ _ _ => kS); (with_reducible rename Rest _ _ => kR); k_dflt (refine' setAttrS kC kS ?h1 ?h2 ?k6 ?k7 ?k8 ?k9 ?k10 ?k11 ?k13 ?_; (case h1 => tb_rel); (case h2 => tb_rel); (case k6 => k_is); (case k7 => k_is); (case k8 => k_is); (case k9 => k_is); (case k10 => k_get); (case k11 => k_put); (case k13 => exact Nat.le_of_ble_eq_true rfl)); (intro s' hr' kS' hm'); (have kR' := Rest.comp kR hr'); clear kS kR hr'; (have kF := kS'.F); (have kN := kS'.N); (try k_sweep)))

set_option maxHeartbeats 8000000 in
theorem has_edge_c {w : World} {A : Around} {s : Shared} {h₀ : Heap} {env : Env} {L : Addr} {a : GA} {G : Gr} {m : Str → Option Value} {gl rest : List (Addr × Obj)} {R : Result → Shared → Prop} {u v : Nat} {tu tv : Tok}
  (C : Cx w A env L h₀) (S : St h₀ L m (gl ++ rest) s.heap) (H : GraphIn w gl a G) {g : Addr} (hg : a.g = g) (hu : u < G.n)
  (hroom : A.depth < recursionLimit) (h : ∀ s', Rest s s' → St h₀ L m (gl ++ rest) s'.heap → R (.ok (.ret (.bool (decide (v ∈ (G.adj u).map (·.1)))))) s') :
  codeAny (model PP w) A (.call (.ref 260) ⟨[.ref g, .int u tu, .int v tv], []⟩) R s := by
  subst hg
  refine enter (binds := [(Str.ofString "self", .ref a.g), (Str.ofString "u", .int u tu), (Str.ofString "v", .int v tv)]) C S (by k_is) (by k_is) (BindsTo.of_eq rfl) (locs rfl) (fun g₀ L' s₁ hr C' S' => ?_) hroom
  have hL := S.low.1
  clear C S
  have F := S'.F
  have N := S'.N
  have X := C'.X
  obtain ⟨mean, mg, mb, T⟩ := C'.T
  have H1 := H.inst
  obtain ⟨t1, t2, t3, gr, H2⟩ := H.dict
  obtain ⟨oA, H3, H3d⟩ := H.adjO
  obtain ⟨oU, H4, H4d⟩ := H.nbr u hu
  iterate 22 (first | walk1 | (dsimp only; walk1))
  exact h _ (by assumption) (by assumption)

set_option maxHeartbeats 8000000 in
theorem add_node_old {w : World} {A : Around} {s : Shared} {h₀ : Heap} {env : Env} {L : Addr} {a : GA} {G : Gr} {m : Str → Option Value} {gl rest : List (Addr × Obj)} {R : Result → Shared → Prop} {v : Nat} {tv : Tok}
  (C : Cx w A env L h₀) (S : St h₀ L m (gl ++ rest) s.heap) (H : GraphIn w gl a G) {g : Addr} (hg : a.g = g) (hv : v < G.n)
  (hroom : A.depth < recursionLimit) (h : ∀ s', Rest s s' → St h₀ L m (gl ++ rest) s'.heap → R (.ok (.ret .none)) s') :
  codeAny (model PP w) A (.call (.ref 210) ⟨[.ref g, .int v tv], []⟩) R s := by
  subst hg
  refine enterK (binds := fun D => [(Str.ofString "self", .ref a.g), (Str.ofString "node_for_adding", .int v tv), (Str.ofString "attr", .ref D)]) C S (by k_is) (by k_is) rfl (fun _ => rfl) (fun _ => locs rfl) (fun D g₀ L' s₁ hr C' S' => ?_) hroom
  have hL := S.low.1
  clear C S
  have F := S'.F
  have N := S'.N
  have hD0 := cons_mem S'
  have X := C'.X
  obtain ⟨mean, mg, mb, T⟩ := C'.T
  have H1 := H.inst
  obtain ⟨t1, t2, t3, gr, H2⟩ := H.dict
  obtain ⟨oA, H3, H3d⟩ := H.node
  obtain ⟨oU, H4, H4d⟩ := H.attr v hv
  have hne := S'.hd_ne (List.mem_append_left rest H4)
  iterate 28 (first | walk1 | (dsimp only; walk1))
  exact h _ (by assumption) (St.tl (by assumption))

set_option maxHeartbeats 8000000 in
theorem add_node_new {w : World} {A : Around} {s : Shared} {h₀ : Heap} {env : Env} {L : Addr} {a : GA} {G : Gr} {m : Str → Option Value} {gl rest : List (Addr × Obj)} {R : Result → Shared → Prop} {v : Nat} {tv : Tok}
  (C : Cx w A env L h₀) (S : St h₀ L m (gl ++ rest) s.heap) (H : GraphIn w gl a G) {g : Addr} (hg : a.g = g) (hv : v = G.n) (hn : G.n ≤ 1000)
  (hroom : A.depth < recursionLimit) (h : ∀ s' gl' a', Rest s s' → a'.g = a.g → GraphIn w gl' a' G.addN → St h₀ L m (gl' ++ rest) s'.heap → R (.ok (.ret .none)) s') :
  codeAny (model PP w) A (.call (.ref 210) ⟨[.ref g, .int v tv], []⟩) R s := by
  subst hg
  refine enterK (binds := fun D => [(Str.ofString "self", .ref a.g), (Str.ofString "node_for_adding", .int v tv), (Str.ofString "attr", .ref D)]) C S (by k_is) (by k_is) rfl (fun _ => rfl) (fun _ => locs rfl) (fun D g₀ L' s₁ hr C' S' => ?_) hroom
  have hL := S.low.1
  clear C S
  have F := S'.F
  have N := S'.N
  have hD0 := cons_mem S'
  have X := C'.X
  obtain ⟨mean, mg, mb, T⟩ := C'.T
  have H1 := H.inst
  obtain ⟨t1, t2, t3, gr, H2⟩ := H.dict
  obtain ⟨oN, H3, H3d⟩ := H.node
  obtain ⟨oA, H4, H4d⟩ := H.adjO
  have hvn : G.n ≤ v := by omega
  have hz1 : (nodeD G.n a.aN).length ≤ sizeLine := by rw [nodeD_length, sizeLine_eq]; omega
  have hz2 : (nodeD G.n a.aA).length ≤ sizeLine := by rw [nodeD_length, sizeLine_eq]; omega
  have hne : a.nd ≠ a.ad := fun e => by have := H.r2; rw [e, H.r3] at this; omega
  have hne1 : a.g ≠ a.ad := fun e => by have := H.r0; rw [e, H.r3] at this; omega
  have hne2 : a.g ≠ a.nd := fun e => by have := H.r0; rw [e, H.r2] at this; omega
  have hne3 : a.gD ≠ a.ad := fun e => by have := H.r1; rw [e, H.r3] at this; omega
  have hne4 : a.gD ≠ a.nd := fun e => by have := H.r1; rw [e, H.r2] at this; omega
  have hD1 := S'.hd_ne (List.mem_append_left rest H3)
  have hD2 := S'.hd_ne (List.mem_append_left rest H4)
  iterate 45 (first | walk1 | (dsimp only; walk1))
  rename_i _ d1 s2 l1 hm1 s3 o2 hd2 hm2 d2 s4 l2 hm3 s5 o4 hd4 hm4 s6 kS kR kF kN
  have e1 : d2 ≠ a.nd := fresh_ne l2 H3 (by tb_rel)
  have e2 : D ≠ d2 := Ne.symm (fresh_ne l2 hD0 (by tb_rel))
  have e3 : D ≠ d1 := Ne.symm (fresh_ne l1 hD0 (by tb_rel))
  iterate 8 (first | walk1 | (dsimp only; walk1))
  rename_i kR' kF' kN' kS'
  have f1 : d1 ≠ a.ad := fresh_ne l1 H4 (by tb_rel)
  have f2 : d1 ≠ a.nd := fresh_ne l1 H3 (by tb_rel)
  have Dg : ((gl ++ rest).map (·.1)).Nodup := by
    have := kS'.D
    rw [put_fst, List.map_cons, List.nodup_cons, put_fst, List.map_cons, List.nodup_cons, List.map_cons, List.nodup_cons] at this
    exact this.2.2.2
  have Dg' : ((put a.ad o2 gl ++ rest).map (·.1)).Nodup := by rw [List.map_append, put_fst, ← List.map_append]; exact Dg
  rw [put_cons_ne (p := (d1, _)) f1, put_cons_ne (p := (D, _)) hD2.symm, put_left Dg H4, put_cons_ne (p := (d2, _)) e1, put_cons_ne (p := (d1, _)) f2, put_cons_ne (p := (D, _)) hD1.symm, put_left Dg' (mem_put_ne H3 hne)] at kS'
  refine h _ ((d2, dictOf [] 0) :: (d1, dictOf [] 0) :: put a.nd o4 (put a.ad o2 gl)) (a.addN G.n d1 d2) kR' rfl ?_ (kS'.sub (.cons_cons _ (.cons_cons _ (.cons _ (List.Sublist.refl _)))))
  subst hv
  refine H.addNode (fun p hp => ?_) (fun p hp => ?_) (fun e => ?_) hd2 hd4
  · exact Nat.ne_of_lt (l1 _ (.tail _ (List.mem_append_left _ hp)))
  · intro e
    have h6 := kS'.D
    rw [List.map_cons, List.nodup_cons] at h6
    refine h6.1 ?_
    rw [List.map_cons, List.map_cons, List.map_append, put_fst, put_fst]
    exact .tail _ (.tail _ (List.mem_append_left _ (List.mem_map.mpr ⟨p, hp, e⟩)))
  · exact absurd (l2 (d1, dictOf [] 0) (by tb_rel)) (by rw [e]; exact Nat.lt_irrefl _)

end Mine
end
section
open PySem PySem.W PySem.Calls PyProof.Rows
set_option maxRecDepth 100000
namespace Mine

local macro_rules | `(tactic| tb_start) => `(tactic| first | with_reducible assumption | with_reducible exact Ne.symm (by assumption) | (refine' fresh_ne ?l ?h0 ?h; (case l => with_reducible assumption); (case h0 => with_reducible assumption); (case h => tb_rel)) | (refine' Ne.symm (fresh_ne ?l ?h0 ?h); (case l => with_reducible assumption); (case h0 => with_reducible assumption); (case h => tb_rel)))
local macro_rules | `(tactic| tb_rel) => `(tactic| first | with_reducible assumption | with_reducible exact List.mem_cons_self | (with_reducible refine List.mem_cons_of_mem _ ?_; tb_rel) | (with_reducible refine mem_put_self (o := ?oo) ?hh; case hh => tb_rel) | (with_reducible refine mem_put_ne ?h1 ?h2; (case h1 => tb_rel); (case h2 => tb_start)) | (with_reducible refine List.mem_append_left _ ?_; tb_rel) | (with_reducible refine List.mem_append_right _ ?_; tb_rel))
local macro_rules | `(tactic| k_mem) => `(tactic| tb_rel)
local macro_rules | `(tactic| walk_at "compareOp In int ref") => `(tactic| (k_here; (with_reducible rename St _ _ _ _ _ => kS); (with_reducible rename Rest _ _ => kR); k_dflt (refine' in_D (knd := intKind PP _) ?h0 kS ?hm ?hd ?hk ?hv ?_; (case h0 => with_reducible assumption); (case hm => tb_rel); (case hd => first | with_reducible assumption | with_reducible exact isDict_nil _); (case hk => exact intKind_is _ _ _ _); (case hv => first | with_reducible assumption | with_reducible exact isSome_node _ (by assumption) | with_reducible exact isSome_node_none _ (by assumption) | with_reducible exact valueAt_adjS _ _)); (intro s' hr' kS'); (have kR' := Rest.comp kR hr'); clear kS kR hr'; (have kF := kS'.F); (have kN := kS'.N); (try k_sweep)))
local macro_rules | `(tactic| walk_at "compareOp NotIn int ref") => `(tactic| (k_here; (with_reducible rename St _ _ _ _ _ => kS); (with_reducible rename Rest _ _ => kR); k_dflt (refine' notin_D (knd := intKind PP _) ?h0 kS ?hm ?hd ?hk ?hv ?_; (case h0 => with_reducible assumption); (case hm => tb_rel); (case hd => first | with_reducible assumption | with_reducible exact isDict_nil _); (case hk => exact intKind_is _ _ _ _); (case hv => first | with_reducible assumption | with_reducible exact isSome_node _ (by assumption) | with_reducible exact isSome_node_none _ (by assumption) | with_reducible exact valueAt_adjS _ _)); (intro s' hr' kS'); (have kR' := Rest.comp kR hr'); clear kS kR hr'; (have kF := kS'.F); (have kN := kS'.N); (try k_sweep)))
local macro_rules | `(tactic| walk_at "subscriptTail Name Name ref int") => `(tactic| (k_here; (with_reducible show wpAny _ _ (subscriptTail _ _ (Value.ref _) (Value.int _ _)) _ _ _); (with_reducible rename St _ _ _ _ _ => kS); (with_reducible rename Rest _ _ => kR); k_dflt (refine' sub_D (knd := intKind PP _) ?h0 kS ?hm ?hd ?hk ?hv ?_; (case h0 => with_reducible assumption); (case hm => tb_rel); (case hd => first | with_reducible assumption | with_reducible exact isDict_nil _); (case hk => exact intKind_is _ _ _ _); (case hv => first | with_reducible assumption | with_reducible exact valueAt_node _ (by assumption) | with_reducible exact valueAt_stored _ _ _)); (intro s' hr' kS'); (have kR' := Rest.comp kR hr'); clear kS kR hr'; (have kF := kS'.F); (have kN := kS'.N); (try k_sweep)))
local macro_rules | `(tactic| walk_at "subscriptTail Attribute Name Name ref int") => `(tactic| (k_here; (with_reducible show wpAny _ _ (subscriptTail _ _ (Value.ref _) (Value.int _ _)) _ _ _); (with_reducible rename St _ _ _ _ _ => kS); (with_reducible rename Rest _ _ => kR); k_dflt (refine' sub_D (knd := intKind PP _) ?h0 kS ?hm ?hd ?hk ?hv ?_; (case h0 => with_reducible assumption); (case hm => tb_rel); (case hd => first | with_reducible assumption | with_reducible exact isDict_nil _); (case hk => exact intKind_is _ _ _ _); (case hv => first | with_reducible assumption | with_reducible exact valueAt_node _ (by assumption) | with_reducible exact valueAt_stored _ _ _)); (intro s' hr' kS'); (have kR' := Rest.comp kR hr'); clear kS kR hr'; (have kF := kS'.F); (have kN := kS'.N); (try k_sweep)))
local macro_rules | `(tactic| walk_at "subscriptTail Subscript Attribute Name Name ref int") => `(tactic| (k_here; (with_reducible show wpAny _ _ (subscriptTail _ _ (Value.ref _) (Value.int _ _)) _ _ _); (with_reducible rename St _ _ _ _ _ => kS); (with_reducible rename Rest _ _ => kR); k_dflt (refine' sub_D (knd := intKind PP _) ?h0 kS ?hm ?hd ?hk ?hv ?_; (case h0 => with_reducible assumption); (case hm => tb_rel); (case hd => first | with_reducible assumption | with_reducible exact isDict_nil _); (case hk => exact intKind_is _ _ _ _); (case hv => first | with_reducible assumption | with_reducible exact valueAt_node _ (by assumption) | with_reducible exact valueAt_stored _ _ _)); (intro s' hr' kS'); (have kR' := Rest.comp kR hr'); clear kS kR hr'; (have kF := kS'.F); (have kN := kS'.N); (try k_sweep)))
local macro_rules | `(tactic| walk_at "subscriptTail Subscript Name ref int") => `(tactic| (k_here; (with_reducible show wpAny _ _ (subscriptTail _ _ (Value.ref _) (Value.int _ _)) _ _ _); (with_reducible rename St _ _ _ _ _ => kS); (with_reducible rename Rest _ _ => kR); k_dflt (refine' sub_D (knd := intKind PP _) ?h0 kS ?hm ?hd ?hk ?hv ?_; (case h0 => with_reducible assumption); (case hm => tb_rel); (case hd => first | with_reducible assumption | with_reducible exact isDict_nil _); (case hk => exact intKind_is _ _ _ _); (case hv => first | with_reducible assumption | with_reducible exact valueAt_node _ (by assumption) | with_reducible exact valueAt_stored _ _ _)); (intro s' hr' kS'); (have kR' := Rest.comp kR hr'); clear kS kR hr'; (have kF := kS'.F); (have kN := kS'.N); (try k_sweep)))
local macro_rules | `(tactic| walk_at "storeName") => `(tactic| (k_here; (with_reducible rename St _ _ _ _ _ => kS); (with_reducible rename Rest _ _ => kR); k_dflt (refine' storeS kS ?_ ?h1 ?h2 ?h3; (case h1 => exact rfl); (case h2 => exact rfl); (case h3 => exact rfl)); (intro s' hr' kS'); (have kR' := Rest.comp kR hr'); clear kS kR hr'; (have kF := kS'.F); (have kN := kS'.N); (try k_sweep)))
local macro_rules | `(tactic| walk_at "eval Dict nil nil") => `(tactic| (k_here; (with_reducible rename St _ _ _ _ _ => kS); (with_reducible rename Rest _ _ => kR); k_dflt (refine' dictS kS ?_); (intro d' s' hr' kS' l1); (have hm' := cons_mem kS'); (have kR' := Rest.comp kR hr'); clear kS kR hr'; (have kF := kS'.F); (have kN := kS'.N); (try k_sweep)))
local macro_rules | `(tactic| walk_at "setItem ref int ref") => `(tactic| (k_here; (with_reducible rename St _ _ _ _ _ => kS); (with_reducible rename Rest _ _ => kR); k_dflt (refine' set_D (knd := intKind PP _) ?h0 kS ?hm ?hd ?hk ?hz ?_; (case h0 => with_reducible assumption); (case hm => tb_rel); (case hd => first | with_reducible assumption | with_reducible exact isDict_nil _); (case hk => exact intKind_is _ _ _ _); (case hz => first | with_reducible assumption | exact Nat.le_of_ble_eq_true rfl)); (intro s' o' hr' kS' hd' hm'); (have kR' := Rest.comp kR hr'); clear kS kR hr'; (have kF := kS'.F); (have kN := kS'.N); (try k_sweep)))
local macro_rules | `(tactic| walk_at "delItem ref") => `(tactic| (k_here; (with_reducible rename St _ _ _ _ _ => kS); (with_reducible rename Rest _ _ => kR); k_dflt (refine' del_D (knd := intKind PP _) ?h0 kS ?hm ?hd ?hk ?hz ?hl ?_; (case h0 => with_reducible assumption); (case hm => tb_rel); (case hd => first | with_reducible assumption | with_reducible exact isDict_nil _); (case hk => exact intKind_is _ _ _ _); (case hz => with_reducible assumption); (case hl => with_reducible assumption)); (intro s' o' hr' kS' hd' hm'); (have kR' := Rest.comp kR hr'); clear kS kR hr'; (have kF := kS'.F); (have kN := kS'.N); (try k_sweep)))
local macro_rules | `(tactic| walk_at "call builtin:dict.update") => `(tactic| (k_here; (with_reducible rename St _ _ _ _ _ => kS); (with_reducible rename Rest _ _ => kR); k_dflt (refine' update_nil (knd := strKind PP _) (knd' := strKind PP _) ?h0 ?h1 kS ?hm ?hd ?hme ?he ?hde ?_; (case h0 => with_reducible assumption); (case h1 => with_reducible assumption); (case hm => tb_rel); (case hd => first | with_reducible assumption | with_reducible exact isDict_nil _); (case hme => tb_rel); (case he => first | with_reducible assumption | with_reducible exact isDict_nil _); (case hde => tb_start)); (intro s' hr' kS'); (have kR' := Rest.comp kR hr'); clear kS kR hr'; (have kF := kS'.F); (have kN := kS'.N); (try k_sweep)))
local macro_rules | `(tactic| walk_at "call builtin:dict.get") => `(tactic| (k_here; (with_reducible show wpAny _ _ (call _ [_, _, _]) _ _ _); (with_reducible rename St _ _ _ _ _ => kS); (with_reducible rename Rest _ _ => kR); k_dflt (refine' get2_D (knd := intKind PP _) ?h0 kS ?hm ?hd ?hk ?hv ?_; (case h0 => with_reducible assumption); (case hm => tb_rel); (case hd => first | with_reducible assumption | with_reducible exact isDict_nil _); (case hk => exact intKind_is _ _ _ _); (case hv => first | exact getD_of_none (by assumption) | exact getD_of_some (by assumption))); (intro s' hr' kS'); (have kR' := Rest.comp kR hr'); clear kS kR hr'; (have kF := kS'.F); (have kN := kS'.N); (try k_sweep)))
local macro_rules | `(tactic| walk_at "getMethod ref") => `(tactic| (k_here; k_dflt (first
  | ((with_reducible show wpAny _ _ (getMethod (Value.ref _) (Str.ofString "update") _) _ _ _); refine' getM_DU (knd := strKind PP _) ?h0 ?S ?hm ?hd ?_; (case h0 => with_reducible assumption); (case S => assumption); (case hm => tb_rel); (case hd => first | with_reducible assumption | with_reducible exact isDict_nil _))
  | ((with_reducible show wpAny _ _ (getMethod (Value.ref _) (Str.ofString "get") _) _ _ _); refine' getM_DG (knd := intKind PP _) ?h0 ?S ?hm ?hd ?_; (case h0 => with_reducible assumption); (case S => assumption); (case hm => tb_rel); (case hd => first | with_reducible assumption | with_reducible exact isDict_nil _)))))
local macro_rules | `(tactic| walk_at "LeaveK") => `(tactic| ((with_reducible rename St _ _ _ _ _ => kS); (refine leaveS (by assumption) kS ?_); (intro kS'); clear kS; (try dsimp only)))
local macro_rules | `(tactic| walk_at "newTuple") => `(tactic| (k_here; (with_reducible rename St _ _ _ _ _ => kS); (with_reducible rename Rest _ _ => kR); k_dflt (refine' tupS kS ?_ ?hz; (case hz => size_fits)); (intro t' s' hr' kS' l1); (have hm' := cons_mem kS'); (have kR' := Rest.comp kR hr'); clear kS kR hr'; (have kF := kS'.F); (have kN := kS'.N); (try k_sweep)))
local macro_rules | `(tactic| walk_at "newList") => `(tactic| (k_here; (with_reducible rename St _ _ _ _ _ => kS); (with_reducible rename Rest _ _ => kR); k_dflt (refine' listS kS ?_ ?hz; (case hz => size_fits)); (intro t' s' hr' kS' l1); (have hm' := cons_mem kS'); (have kR' := Rest.comp kR hr'); clear kS kR hr'; (have kF := kS'.F); (have kN := kS'.N); (try k_sweep)))
local macro_rules | `(tactic| walk_at "unpackItems ref") => `(tactic| (k_here; (with_reducible rename Cx _ _ _ _ _ => kC); (with_reducible rename St _ _ _ _ _ => kS); (with_reducible rename Rest _ _ => kR); k_dflt (refine' unpackS ?h0 kS ?hm (Cx.hh kC) ?hn ?_; (case h0 => with_reducible assumption); (case hm => tb_rel); (case hn => exact rfl)); (intro s' hr' kS'); (have kR' := Rest.comp kR hr'); clear kS kR hr'; (have kF := kS'.F); (have kN := kS'.N); (try k_sweep)))
local macro_rules | `(tactic| walk_at "compareOp NotEq int int") => `(tactic| first | with_reducible refine ne_int_t (by with_reducible assumption) ?_ | with_reducible refine ne_int_f (by with_reducible assumption) ?_)
local macro_rules | `(tactic| walk_at "compareOp Eq int int") => `(tactic| first | with_reducible refine eq_int_t (by with_reducible assumption) ?_ | with_reducible refine eq_int_f (by with_reducible assumption) ?_)
local macro_rules | `(tactic| walk_at "setAttr ref") => `(tactic| (k_here; (with_reducible rename Cx _ _ _ _ _ => kC); (with_reducible rename St _ _ _ _ _ => kS); (with_reducible rename Rest _ _ => kR); k_dflt (refine' setAttrS kC kS ?h1 ?h2 ?k6 ?k7 ?k8 ?k9 ?k10 ?k11 ?k13 ?_; (case h1 => tb_rel); (case h2 => tb_rel); (case k6 => k_is); (case k7 => k_is); (case k8 => k_is); (case k9 => k_is); (case k10 => k_get); (case k11 => k_put); (case k13 => exact Nat.le_of_ble_eq_true rfl)); (intro s' hr' kS' hm'); (have kR' := Rest.comp kR hr'); clear kS kR hr'; (have kF := kS'.F); (have kN := kS'.N); (try k_sweep)))

abbrev rangeO (N : Nat) (t u v : Tok) : Obj := { cls := .type "range", dict := none, data := .fields #[.int 0 t, .int N u, .int 1 v], slots := #[] }
def emptyG (n : Nat) : Gr := ⟨n, fun _ => []⟩
theorem emptyG_add (n : Nat) : (emptyG n).addN = emptyG (n + 1) := by
  unfold Gr.addN emptyG; congr; funext i; simp
set_option maxHeartbeats 8000000 in
theorem add_nodes_from_c {w : World} {A : Around} {s : Shared} {h₀ : Heap} {env : Env} {L : Addr} {a : GA} {m : Str → Option Value} {gl rest : List (Addr × Obj)} {R : Result → Shared → Prop} {N : Nat} {r : Addr} {t u v : Tok}
  (C : Cx w A env L h₀) (S : St h₀ L m (gl ++ rest) s.heap) (H : GraphIn w gl a (emptyG 0)) {g : Addr} (hg : a.g = g) (hr0 : (r, rangeO N t u v) ∈ rest) (hN : N ≤ 1000)
  (hroom : A.depth + 1 < recursionLimit) (h : ∀ s' gl' a', Rest s s' → a'.g = a.g → GraphIn w gl' a' (emptyG N) → St h₀ L m (gl' ++ rest) s'.heap → R (.ok (.ret .none)) s') :
  codeAny (model PP w) A (.call (.ref 217) ⟨[.ref g, .ref r], []⟩) R s := by
  subst hg
  refine enterK (binds := fun D => [(Str.ofString "self", .ref a.g), (Str.ofString "nodes_for_adding", .ref r), (Str.ofString "attr", .ref D)]) C S (by k_is) (by k_is) rfl (fun _ => rfl) (fun _ => locs rfl) (fun D g₀ L' s₁ hr C' S' => ?_) (by omega)
  have hL := S.low.1
  clear C S
  replace S' := S'.mid
  have F := S'.F
  have N' := S'.N
  have X := C'.X
  obtain ⟨mean, mg, mb, T⟩ := C'.T
  iterate 1 (first | walk1 | (dsimp only; walk1))
  refine forS (h₀ := g₀) (L := L') C'.hh ?_
  iterate 1 (first | walk1 | (dsimp only; walk1))
  refine iter_range S' (S'.get (List.mem_append_right _ (.tail _ hr0))) (by omega) fun I o s₂ hr₂ S₂ hP => ?_
  replace hr := Rest.comp hr hr₂
  refine ⟨I, o, N, _, _, _, _, gl ++ (D, dictOf [] 0) :: rest, fun k m' news g q => m' = (fun y => List.lookup y [(Str.ofString "self", Value.ref a.g), (Str.ofString "nodes_for_adding", .ref r), (Str.ofString "attr", .ref D)].reverse) ∧ g = s.gens ∧ q = s.os ∧
    ∃ gl' a', news = gl' ++ (D, dictOf [] 0) :: rest ∧ a'.g = a.g ∧ GraphIn w gl' a' (emptyG k), rfl, Iter.range I 0 N, S₂, hP, ⟨rfl, hr.1, hr.2, gl, a, rfl, rfl, H⟩, fun _ _ _ _ _ _ => trivial, ?_, ?_⟩
  · rintro k vv m' news o' s₃ hk ⟨tv, rfl⟩ ⟨rfl, hg, hq, gl', a', rfl, ha, H'⟩ hP' S₃
    have hr : Rest s s₃ := ⟨hg, hq⟩
    clear S' F N' S₂
    have F := S₃.F
    have N' := S₃.N
    have H1 := H'.inst
    rw [ha] at H1
    obtain ⟨t1, t2, t3, gr, H2⟩ := H'.dict
    iterate 2 (first | walk1 | (dsimp only; walk1))
    refine methodCall_star ?_
    iterate 1 (first | walk1 | (dsimp only; walk1))
    refine getBound C' S₃ (List.mem_cons_of_mem _ (List.mem_append_left _ H1)) (List.mem_cons_of_mem _ (List.mem_append_left _ H2)) (by k_is) (by k_is) (by k_is) (by k_is) (by k_is) (by decide) (by k_get) (by k_is) (fun q s₄ hr₄ S₄ l₄ => ?_)
    replace hr := Rest.comp hr hr₄
    clear F N'
    have F := S₄.F
    have N' := S₄.N
    refine callWith_starE (h₀ := g₀) (L := L') ?_
    iterate 3 (first | walk1 | (dsimp only; walk1))
    have S₅ := S₄.push (dictOf [] 0)
    refine wpAny_bind ?_
    clear F N'
    have F := S₅.F
    have N' := S₅.N
    iterate 1 (first | walk1 | (dsimp only; walk1))
    refine wpAny_bind (wpAny_standAt (wpAny_pure ?_))
    refine ⟨D, _, _, dictOf [] 0, rfl, S₅, by simp, isDict_nil 0, S₅.get List.mem_cons_self, ?_, ?_⟩
    · obtain ⟨k, _, hk⟩ := keeps_M (M := model PP w) (f := 210) (by k_is) _ ⟨S₅.get (List.mem_cons_of_mem _ List.mem_cons_self), X.keeps S₅.F.keep⟩
      exact ⟨k, hk⟩
    refine call_meth S₅.N (List.mem_cons_of_mem _ List.mem_cons_self) ?_
    have S₆ : St g₀ L' _ (gl' ++ (I, o') :: (D, dictOf [] 0) :: rest) _ := (S₅.tl.tl).mid
    refine add_node_new C' S₆ H' ha (by simp [emptyG]) (by show k ≤ 1000; omega) (by simp only [depth_deeper]; omega) (fun s₇ gl'' a'' hr₇ ha'' H'' S₇ => ?_)
    replace hr := Rest.comp hr hr₇
    dsimp only
    clear F N'
    have F := S₇.F
    have N' := S₇.N
    iterate 1 (first | walk1 | (dsimp only; walk1))
    have hp : List.Perm (gl'' ++ (I, o') :: (D, dictOf [] 0) :: rest) ((I, o') :: (gl'' ++ (D, dictOf [] 0) :: rest)) := List.perm_middle
    refine ⟨_, some (.int (0 + k) tv), _, S₇.perm hp, rfl, hr.1, hr.2, gl'', a'', rfl, ha''.trans ha, ?_⟩
    rw [← emptyG_add]; exact H''
  · rintro m' vn news s₃ ⟨rfl, hg, hq, gl', a', rfl, ha, H'⟩ S₃
    clear S' F N' S₂
    have F := S₃.F
    have N' := S₃.N
    dsimp only
    iterate 2 (first | walk1 | (dsimp only; walk1))
    rename St _ _ _ _ _ => kS
    exact h _ gl' a' ⟨hg, hq⟩ ha H' kS.unmid

end Mine
end
section
open PySem PySem.W PySem.Calls PyProof.Rows
set_option maxRecDepth 100000
namespace Mine

local macro_rules | `(tactic| tb_start) => `(tactic| first | with_reducible assumption | with_reducible exact Ne.symm (by assumption) | (refine' fresh_ne ?l ?h0 ?h; (case l => with_reducible assumption); (case h0 => with_reducible assumption); (case h => tb_rel)) | (refine' Ne.symm (fresh_ne ?l ?h0 ?h); (case l => with_reducible assumption); (case h0 => with_reducible assumption); (case h => tb_rel)))
local macro_rules | `(tactic| tb_rel) => `(tactic| first | with_reducible assumption | with_reducible exact List.mem_cons_self | (with_reducible refine List.mem_cons_of_mem _ ?_; tb_rel) | (with_reducible refine mem_put_self (o := ?oo) ?hh; case hh => tb_rel) | (with_reducible refine mem_put_ne ?h1 ?h2; (case h1 => tb_rel); (case h2 => tb_start)) | (with_reducible refine List.mem_append_left _ ?_; tb_rel) | (with_reducible refine List.mem_append_right _ ?_; tb_rel))
local macro_rules | `(tactic| k_mem) => `(tactic| tb_rel)
local macro_rules | `(tactic| walk_at "compareOp In int ref") => `(tactic| (k_here; (with_reducible rename St _ _ _ _ _ => kS); (with_reducible rename Rest _ _ => kR); k_dflt (refine' in_D (knd := intKind PP _) ?h0 kS ?hm ?hd ?hk ?hv ?_; (case h0 => with_reducible assumption); (case hm => tb_rel); (case hd => first | with_reducible assumption | with_reducible exact isDict_nil _); (case hk => exact intKind_is _ _ _ _); (case hv => first | with_reducible assumption | with_reducible exact isSome_node _ (by assumption) | with_reducible exact isSome_node_none _ (by assumption) | with_reducible exact valueAt_adjS _ _)); (intro s' hr' kS'); (have kR' := Rest.comp kR hr'); clear kS kR hr'; (have kF := kS'.F); (have kN := kS'.N); (try k_sweep)))
local macro_rules | `(tactic| walk_at "compareOp NotIn int ref") => `(tactic| (k_here; (with_reducible rename St _ _ _ _ _ => kS); (with_reducible rename Rest _ _ => kR); k_dflt (refine' notin_D (knd := intKind PP _) ?h0 kS ?hm ?hd ?hk ?hv ?_; (case h0 => with_reducible assumption); (case hm => tb_rel); (case hd => first | with_reducible assumption | with_reducible exact isDict_nil _); (case hk => exact intKind_is _ _ _ _); (case hv => first | with_reducible assumption | with_reducible exact isSome_node _ (by assumption) | with_reducible exact isSome_node_none _ (by assumption) | with_reducible exact valueAt_adjS _ _)); (intro s' hr' kS'); (have kR' := Rest.comp kR hr'); clear kS kR hr'; (have kF := kS'.F); (have kN := kS'.N); (try k_sweep)))
local macro_rules | `(tactic| walk_at "subscriptTail Name Name ref int") => `(tactic| (k_here; (with_reducible show wpAny _ _ (subscriptTail _ _ (Value.ref _) (Value.int _ _)) _ _ _); (with_reducible rename St _ _ _ _ _ => kS); (with_reducible rename Rest _ _ => kR); k_dflt (refine' sub_D (knd := intKind PP _) ?h0 kS ?hm ?hd ?hk ?hv ?_; (case h0 => with_reducible assumption); (case hm => tb_rel); (case hd => first | with_reducible assumption | with_reducible exact isDict_nil _); (case hk => exact intKind_is _ _ _ _); (case hv => first | with_reducible assumption | with_reducible exact valueAt_node _ (by assumption) | with_reducible exact valueAt_stored _ _ _)); (intro s' hr' kS'); (have kR' := Rest.comp kR hr'); clear kS kR hr'; (have kF := kS'.F); (have kN := kS'.N); (try k_sweep)))
local macro_rules | `(tactic| walk_at "subscriptTail Attribute Name Name ref int") => `(tactic| (k_here; (with_reducible show wpAny _ _ (subscriptTail _ _ (Value.ref _) (Value.int _ _)) _ _ _); (with_reducible rename St _ _ _ _ _ => kS); (with_reducible rename Rest _ _ => kR); k_dflt (refine' sub_D (knd := intKind PP _) ?h0 kS ?hm ?hd ?hk ?hv ?_; (case h0 => with_reducible assumption); (case hm => tb_rel); (case hd => first | with_reducible assumption | with_reducible exact isDict_nil _); (case hk => exact intKind_is _ _ _ _); (case hv => first | with_reducible assumption | with_reducible exact valueAt_node _ (by assumption) | with_reducible exact valueAt_stored _ _ _)); (intro s' hr' kS'); (have kR' := Rest.comp kR hr'); clear kS kR hr'; (have kF := kS'.F); (have kN := kS'.N); (try k_sweep)))
local macro_rules | `(tactic| walk_at "subscriptTail Subscript Attribute Name Name ref int") => `(tactic| (k_here; (with_reducible show wpAny _ _ (subscriptTail _ _ (Value.ref _) (Value.int _ _)) _ _ _); (with_reducible rename St _ _ _ _ _ => kS); (with_reducible rename Rest _ _ => kR); k_dflt (refine' sub_D (knd := intKind PP _) ?h0 kS ?hm ?hd ?hk ?hv ?_; (case h0 => with_reducible assumption); (case hm => tb_rel); (case hd => first | with_reducible assumption | with_reducible exact isDict_nil _); (case hk => exact intKind_is _ _ _ _); (case hv => first | with_reducible assumption | with_reducible exact valueAt_node _ (by assumption) | with_reducible exact valueAt_stored _ _ _)); (intro s' hr' kS'); (have kR' := Rest.comp kR hr'); clear kS kR hr'; (have kF := kS'.F); (have kN := kS'.N); (try k_sweep)))
local macro_rules | `(tactic| walk_at "subscriptTail Subscript Name ref int") => `(tactic| (k_here; (with_reducible show wpAny _ _ (subscriptTail _ _ (Value.ref _) (Value.int _ _)) _ _ _); (with_reducible rename St _ _ _ _ _ => kS); (with_reducible rename Rest _ _ => kR); k_dflt (refine' sub_D (knd := intKind PP _) ?h0 kS ?hm ?hd ?hk ?hv ?_; (case h0 => with_reducible assumption); (case hm => tb_rel); (case hd => first | with_reducible assumption | with_reducible exact isDict_nil _); (case hk => exact intKind_is _ _ _ _); (case hv => first | with_reducible assumption | with_reducible exact valueAt_node _ (by assumption) | with_reducible exact valueAt_stored _ _ _)); (intro s' hr' kS'); (have kR' := Rest.comp kR hr'); clear kS kR hr'; (have kF := kS'.F); (have kN := kS'.N); (try k_sweep)))
local macro_rules | `(tactic| walk_at "storeName") => `(tactic| (k_here; (with_reducible rename St _ _ _ _ _ => kS); (with_reducible rename Rest _ _ => kR); k_dflt (refine' storeS kS ?_ ?h1 ?h2 ?h3; (case h1 => exact rfl); (case h2 => exact rfl); (case h3 => exact rfl)); (intro s' hr' kS'); (have kR' := Rest.comp kR hr'); clear kS kR hr'; (have kF := kS'.F); (have kN := kS'.N); (try k_sweep)))
local macro_rules | `(tactic| walk_at "eval Dict nil nil") => `(tactic| (k_here; (with_reducible rename St _ _ _ _ _ => kS); (with_reducible rename Rest _ _ => kR); k_dflt (refine' dictS kS ?_); (intro d' s' hr' kS' l1); (have hm' := cons_mem kS'); (have kR' := Rest.comp kR hr'); clear kS kR hr'; (have kF := kS'.F); (have kN := kS'.N); (try k_sweep)))
local macro_rules | `(tactic| walk_at "setItem ref int ref") => `(tactic| (k_here; (with_reducible rename St _ _ _ _ _ => kS); (with_reducible rename Rest _ _ => kR); k_dflt (refine' set_D (knd := intKind PP _) ?h0 kS ?hm ?hd ?hk ?hz ?_; (case h0 => with_reducible assumption); (case hm => tb_rel); (case hd => first | with_reducible assumption | with_reducible exact isDict_nil _); (case hk => exact intKind_is _ _ _ _); (case hz => first | with_reducible assumption | exact Nat.le_of_ble_eq_true rfl)); (intro s' o' hr' kS' hd' hm'); (have kR' := Rest.comp kR hr'); clear kS kR hr'; (have kF := kS'.F); (have kN := kS'.N); (try k_sweep)))
local macro_rules | `(tactic| walk_at "delItem ref") => `(tactic| (k_here; (with_reducible rename St _ _ _ _ _ => kS); (with_reducible rename Rest _ _ => kR); k_dflt (refine' del_D (knd := intKind PP _) ?h0 kS ?hm ?hd ?hk ?hz ?hl ?_; (case h0 => with_reducible assumption); (case hm => tb_rel); (case hd => first | with_reducible assumption | with_reducible exact isDict_nil _); (case hk => exact intKind_is _ _ _ _); (case hz => with_reducible assumption); (case hl => with_reducible assumption)); (intro s' o' hr' kS' hd' hm'); (have kR' := Rest.comp kR hr'); clear kS kR hr'; (have kF := kS'.F); (have kN := kS'.N); (try k_sweep)))
local macro_rules | `(tactic| walk_at "call builtin:dict.update") => `(tactic| (k_here; (with_reducible rename St _ _ _ _ _ => kS); (with_reducible rename Rest _ _ => kR); k_dflt (refine' update_nil (knd := strKind PP _) (knd' := strKind PP _) ?h0 ?h1 kS ?hm ?hd ?hme ?he ?hde ?_; (case h0 => with_reducible assumption); (case h1 => with_reducible assumption); (case hm => tb_rel); (case hd => first | with_reducible assumption | with_reducible exact isDict_nil _); (case hme => tb_rel); (case he => first | with_reducible assumption | with_reducible exact isDict_nil _); (case hde => tb_start)); (intro s' hr' kS'); (have kR' := Rest.comp kR hr'); clear kS kR hr'; (have kF := kS'.F); (have kN := kS'.N); (try k_sweep)))
local macro_rules | `(tactic| walk_at "call builtin:dict.get") => `(tactic| (k_here; (with_reducible show wpAny _ _ (call _ [_, _, _]) _ _ _); (with_reducible rename St _ _ _ _ _ => kS); (with_reducible rename Rest _ _ => kR); k_dflt (refine' get2_D (knd := intKind PP _) ?h0 kS ?hm ?hd ?hk ?hv ?_; (case h0 => with_reducible assumption); (case hm => tb_rel); (case hd => first | with_reducible assumption | with_reducible exact isDict_nil _); (case hk => exact intKind_is _ _ _ _); (case hv => first | exact getD_of_none (by assumption) | exact getD_of_some (by assumption))); (intro s' hr' kS'); (have kR' := Rest.comp kR hr'); clear kS kR hr'; (have kF := kS'.F); (have kN := kS'.N); (try k_sweep)))
local macro_rules | `(tactic| walk_at "getMethod ref") => `(tactic| (k_here; k_dflt (first
  | ((with_reducible show wpAny _ _ (getMethod (Value.ref _) (Str.ofString "update") _) _ _ _); refine' getM_DU (knd := strKind PP _) ?h0 ?S ?hm ?hd ?_; (case h0 => with_reducible assumption); (case S => assumption); (case hm => tb_rel); (case hd => first | with_reducible assumption | with_reducible exact isDict_nil _))
  | ((with_reducible show wpAny _ _ (getMethod (Value.ref _) (Str.ofString "get") _) _ _ _); refine' getM_DG (knd := intKind PP _) ?h0 ?S ?hm ?hd ?_; (case h0 => with_reducible assumption); (case S => assumption); (case hm => tb_rel); (case hd => first | with_reducible assumption | with_reducible exact isDict_nil _)))))
local macro_rules | `(tactic| walk_at "LeaveK") => `(tactic| ((with_reducible rename St _ _ _ _ _ => kS); (refine leaveS (by assumption) kS ?_); (intro kS'); clear kS; (try dsimp only)))
local macro_rules | `(tactic| walk_at "newTuple") => `(tactic| (k_here; (with_reducible rename St _ _ _ _ _ => kS); (with_reducible rename Rest _ _ => kR); k_dflt (refine' tupS kS ?_ ?hz; (case hz => size_fits)); (intro t' s' hr' kS' l1); (have hm' := cons_mem kS'); (have kR' := Rest.comp kR hr'); clear kS kR hr'; (have kF := kS'.F); (have kN := kS'.N); (try k_sweep)))
local macro_rules | `(tactic| walk_at "newList") => `(tactic| (k_here; (with_reducible rename St _ _ _ _ _ => kS); (with_reducible rename Rest _ _ => kR); k_dflt (refine' listS kS ?_ ?hz; (case hz => size_fits)); (intro t' s' hr' kS' l1); (have hm' := cons_mem kS'); (have kR' := Rest.comp kR hr'); clear kS kR hr'; (have kF := kS'.F); (have kN := kS'.N); (try k_sweep)))
local macro_rules | `(tactic| walk_at "unpackItems ref") => `(tactic| (k_here; (with_reducible rename Cx _ _ _ _ _ => kC); (with_reducible rename St _ _ _ _ _ => kS); (with_reducible rename Rest _ _ => kR); k_dflt (refine' unpackS ?h0 kS ?hm (Cx.hh kC) ?hn ?_; (case h0 => with_reducible assumption); (case hm => tb_rel); (case hn => exact rfl)); (intro s' hr' kS'); (have kR' := Rest.comp kR hr'); clear kS kR hr'; (have kF := kS'.F); (have kN := kS'.N); (try k_sweep)))
local macro_rules | `(tactic| walk_at "compareOp NotEq int int") => `(tactic| first | with_reducible refine ne_int_t (by with_reducible assumption) ?_ | with_reducible refine ne_int_f (by with_reducible assumption) ?_)
local macro_rules | `(tactic| walk_at "compareOp Eq int int") => `(tactic| first | with_reducible refine eq_int_t (by with_reducible assumption) ?_ | with_reducible refine eq_int_f (by with_reducible assumption) ?_)
local macro_rules | `(tactic| walk_at "setAttr ref") => `(tactic| (k_here; (with_reducible rename Cx _ _ _ _ _ => kC); (with_reducible rename St _ _ _ _ _ => kS); (with_reducible rename Rest _ _ => kR); k_dflt (refine' setAttrS kC kS ?h1 ?h2 ?k6 ?k7 ?k8 ?k9 ?k10 ?k11 ?k13 ?_; (case h1 => tb_rel); (case h2 => tb_rel); (case k6 => k_is); (case k7 => k_is); (case k8 => k_is); (case k9 => k_is); (case k10 => k_get); (case k11 => k_put); (case k13 => exact Nat.le_of_ble_eq_true rfl)); (intro s' hr' kS' hm'); (have kR' := Rest.comp kR hr'); clear kS kR hr'; (have kF := kS'.F); (have kN := kS'.N); (try k_sweep)))

set_option maxHeartbeats 8000000 in
theorem graph_new {w : World} {A : Around} {E : Value → Shared → Prop} {s : Shared} {h₀ : Heap} {env : Env} {L : Addr} {m : Str → Option Value} {news : List (Addr × Obj)} {Q : Value → Shared → Prop}
  (C : Cx w A env L h₀) (S : St h₀ L m news s.heap) {p0 : Addr × Obj} (hp0 : p0 ∈ news) (hroom : A.depth + 1 < recursionLimit)
  (h : ∀ s' gl a, Rest s s' → GraphIn w gl a (emptyG 0) → St h₀ L m (gl ++ news) s'.heap → Q (.ref a.g) s') :
  wpAny (model PP w) A (call (.ref 310) [] []) Q E s := by
  refine call_cls (K := hd.heap_39 w.params) (fI := 151) S.F C.X S.N (by k_is) (by k_is) (by k_is) (fun x dx h' F' N' l1 l2 => ?_)
  have hl : 1 < L := S.low.1
  have hLs := S.F.ns.lt
  have S₁ : St h₀ L m ((x, instObj 310 dx) :: (dx, dictOf [] 0) :: news) h' := by
    refine ⟨F', N', ?_, hl, ?_⟩
    · rw [List.map_cons, List.nodup_cons, List.map_cons, List.nodup_cons]
      refine ⟨fun hx => ?_, fun hx => ?_, S.D⟩
      · rcases List.mem_cons.mp hx with e | hx
        · exact absurd l2 (by rw [show x = dx from e]; exact Nat.lt_irrefl _)
        · obtain ⟨p, hp, e⟩ := List.mem_map.mp hx
          exact absurd (Nat.lt_trans (l1 p hp) l2) (by rw [e]; exact Nat.lt_irrefl _)
      · obtain ⟨p, hp, e⟩ := List.mem_map.mp hx
        exact absurd (l1 p hp) (by rw [e]; exact Nat.lt_irrefl _)
    · intro p hp
      have h0 := Nat.lt_trans (S.low.2 _ hp0) (l1 _ hp0)
      rcases List.mem_cons.mp hp with rfl | hp
      · exact Nat.lt_trans h0 l2
      · rcases List.mem_cons.mp hp with rfl | hp
        · exact h0
        · exact S.low.2 _ hp
  have hxd : x ≠ dx := Nat.ne_of_gt l2
  refine enterK (s := { s with heap := h' }) (binds := fun D => [(Str.ofString "self", .ref x), (Str.ofString "incoming_graph_data", .none), (Str.ofString "attr", .ref D)]) (C.under_make 310 [] []) S₁ (by k_is) (by k_is) rfl (fun _ => rfl) (fun _ => locs rfl) (fun D g₀ L' s₁ hr C' S' => ?_) ?_
  · have hD0 := cons_mem S'
    replace hr : Rest s s₁ := hr
    clear C S S₁ F' N'
    have F := S'.F
    have N := S'.N
    have X := C'.X
    obtain ⟨mean, mg, mb, T⟩ := C'.T
    have hnd : ∀ p ∈ news, p.1 ≠ dx := fun p hp => Nat.ne_of_lt (l1 p hp)
    have hDx : dx ≠ D := S'.hd_ne (List.mem_cons_of_mem _ List.mem_cons_self)
    have hxD : x ≠ D := S'.hd_ne List.mem_cons_self
    iterate 5 (first | walk1 | (dsimp only; walk1))
    rename Addr => d1
    rename (Above _ d1) => k1
    rename St _ _ _ _ _ => kS
    have f1 : d1 ≠ dx := Nat.ne_of_gt (k1 (dx, dictOf [] 0) (by simp))
    have g1 : d1 ≠ D := Nat.ne_of_gt (k1 (D, dictOf [] 0) (by simp))
    have g1' : d1 ≠ x := Nat.ne_of_gt (k1 (x, instObj 310 dx) (by simp))
    rw [put_cons_ne (p := (d1, _)) f1, put_cons_ne (p := (D, _)) hDx.symm, put_cons_ne (p := (x, _)) hxd, put_cons, if_pos rfl, put_id hnd] at kS
    have F := kS.F
    have N := kS.N
    iterate 5 (first | walk1 | (dsimp only; walk1))
    rename Addr => d2
    rename (Above _ d2) => k2
    rename St _ _ _ _ _ => kS
    have f2 : d2 ≠ dx := Nat.ne_of_gt (k2 (dx, _) (.tail _ (.tail _ (.tail _ (.head _)))))
    have h21 : d2 ≠ d1 := Nat.ne_of_gt (k2 (d1, dictOf [] 0) (by simp))
    have g2 : d2 ≠ D := Nat.ne_of_gt (k2 (D, dictOf [] 0) (by simp))
    have g2' : d2 ≠ x := Nat.ne_of_gt (k2 (x, instObj 310 dx) (by simp))
    rw [put_cons_ne (p := (d2, _)) f2, put_cons_ne (p := (d1, _)) f1, put_cons_ne (p := (D, _)) hDx.symm, put_cons_ne (p := (x, _)) hxd, put_cons, if_pos rfl, put_id hnd] at kS
    have F := kS.F
    have N := kS.N
    iterate 5 (first | walk1 | (dsimp only; walk1))
    rename Addr => d3
    rename (Above _ d3) => k3
    rename St _ _ _ _ _ => kS
    have f3 : d3 ≠ dx := Nat.ne_of_gt (k3 (dx, _) (.tail _ (.tail _ (.tail _ (.tail _ (.head _))))))
    have h32 : d3 ≠ d2 := Nat.ne_of_gt (k3 (d2, dictOf [] 0) (by simp))
    have h31 : d3 ≠ d1 := Nat.ne_of_gt (k3 (d1, dictOf [] 0) (by simp))
    have g3 : d3 ≠ D := Nat.ne_of_gt (k3 (D, dictOf [] 0) (by simp))
    have g3' : d3 ≠ x := Nat.ne_of_gt (k3 (x, instObj 310 dx) (by simp))
    rw [put_cons_ne (p := (d3, _)) f3, put_cons_ne (p := (d2, _)) f2, put_cons_ne (p := (d1, _)) f1, put_cons_ne (p := (D, _)) hDx.symm, put_cons_ne (p := (x, _)) hxd, put_cons, if_pos rfl, put_id hnd] at kS
    have F := kS.F
    have N := kS.N
    repeat (first | walk1 | (dsimp only; walk1))
    rename St _ _ _ _ _ => kS
    rename Rest _ _ => kR
    refine ⟨rfl, ?_⟩
    dsimp only
    refine h _ [(d3, dictOf [] 0), (d2, dictOf [] 0), (d1, dictOf [] 0), (x, instObj 310 dx), (dx, _)] { g := x, gD := dx, nd := d2, ad := d3, aN := fun _ => 0, aA := fun _ => 0, role := fun z => if z = x then 0 else if z = dx then 1 else if z = d2 then 2 else if z = d3 then 3 else 9 } kR ?_ (kS.sub (.cons_cons _ (.cons_cons _ (.cons_cons _ (.cons _ (.cons_cons _ (.cons_cons _ (List.Sublist.refl _))))))))
    refine ⟨by simp, ⟨_, _, _, d1, List.mem_cons_of_mem _ (List.mem_cons_of_mem _ (List.mem_cons_of_mem _ (List.mem_cons_of_mem _ List.mem_cons_self)))⟩, ⟨_, by simp, isDict_nil 0⟩, fun i hi => absurd hi (Nat.not_lt_zero _), ⟨_, by simp, isDict_nil 0⟩, fun i hi => absurd hi (Nat.not_lt_zero _), fun i hi => absurd hi (Nat.not_lt_zero _), ?_, ?_, ?_, ?_, fun i hi => absurd hi (Nat.not_lt_zero _), fun i hi => absurd hi (Nat.not_lt_zero _)⟩
    · simp
    · simp [hxd.symm]
    · simp [g2', f2]
    · simp [g3', f3, h32]
  · simp only [depth_under_make]; omega

end Mine
end
section
open PySem PySem.W PySem.Calls PyProof.Rows
set_option maxRecDepth 100000
namespace Mine

local macro_rules | `(tactic| tb_start) => `(tactic| first | with_reducible assumption | with_reducible exact Ne.symm (by assumption) | (refine' fresh_ne ?l ?h0 ?h; (case l => with_reducible assumption); (case h0 => with_reducible assumption); (case h => tb_rel)) | (refine' Ne.symm (fresh_ne ?l ?h0 ?h); (case l => with_reducible assumption); (case h0 => with_reducible assumption); (case h => tb_rel)))
local macro_rules | `(tactic| tb_rel) => `(tactic| first | with_reducible assumption | with_reducible exact List.mem_cons_self | (with_reducible refine List.mem_cons_of_mem _ ?_; tb_rel) | (with_reducible refine mem_put_self (o := ?oo) ?hh; case hh => tb_rel) | (with_reducible refine mem_put_ne ?h1 ?h2; (case h1 => tb_rel); (case h2 => tb_start)) | (with_reducible refine List.mem_append_left _ ?_; tb_rel) | (with_reducible refine List.mem_append_right _ ?_; tb_rel))
local macro_rules | `(tactic| k_mem) => `(tactic| tb_rel)
local macro_rules | `(tactic| walk_at "compareOp In int ref") => `(tactic| (k_here; (with_reducible rename St _ _ _ _ _ => kS); (with_reducible rename Rest _ _ => kR); k_dflt (refine' in_D (knd := intKind PP _) ?h0 kS ?hm ?hd ?hk ?hv ?_; (case h0 => with_reducible assumption); (case hm => tb_rel); (case hd => first | with_reducible assumption | with_reducible exact isDict_nil _); (case hk => exact intKind_is _ _ _ _); (case hv => first | with_reducible assumption | with_reducible exact isSome_node _ (by assumption) | with_reducible exact isSome_node_none _ (by assumption) | with_reducible exact valueAt_adjS _ _)); (intro s' hr' kS'); (have kR' := Rest.comp kR hr'); clear kS kR hr'; (have kF := kS'.F); (have kN := kS'.N); (try k_sweep)))
local macro_rules | `(tactic| walk_at "compareOp NotIn int ref") => `(tactic| (k_here; (with_reducible rename St _ _ _ _ _ => kS); (with_reducible rename Rest _ _ => kR); k_dflt (refine' notin_D (knd := intKind PP _) ?h0 kS ?hm ?hd ?hk ?hv ?_; (case h0 => with_reducible assumption); (case hm => tb_rel); (case hd => first | with_reducible assumption | with_reducible exact isDict_nil _); (case hk => exact intKind_is _ _ _ _); (case hv => first | with_reducible assumption | with_reducible exact isSome_node _ (by assumption) | with_reducible exact isSome_node_none _ (by assumption) | with_reducible exact valueAt_adjS _ _)); (intro s' hr' kS'); (have kR' := Rest.comp kR hr'); clear kS kR hr'; (have kF := kS'.F); (have kN := kS'.N); (try k_sweep)))
local macro_rules | `(tactic| walk_at "subscriptTail Name Name ref int") => `(tactic| (k_here; (with_reducible show wpAny _ _ (subscriptTail _ _ (Value.ref _) (Value.int _ _)) _ _ _); (with_reducible rename St _ _ _ _ _ => kS); (with_reducible rename Rest _ _ => kR); k_dflt (refine' sub_D (knd := intKind PP _) ?h0 kS ?hm ?hd ?hk ?hv ?_; (case h0 => with_reducible assumption); (case hm => tb_rel); (case hd => first | with_reducible assumption | with_reducible exact isDict_nil _); (case hk => exact intKind_is _ _ _ _); (case hv => first | with_reducible assumption | with_reducible exact valueAt_node _ (by assumption) | with_reducible exact valueAt_stored _ _ _)); (intro s' hr' kS'); (have kR' := Rest.comp kR hr'); clear kS kR hr'; (have kF := kS'.F); (have kN := kS'.N); (try k_sweep)))
local macro_rules | `(tactic| walk_at "subscriptTail Attribute Name Name ref int") => `(tactic| (k_here; (with_reducible show wpAny _ _ (subscriptTail _ _ (Value.ref _) (Value.int _ _)) _ _ _); (with_reducible rename St _ _ _ _ _ => kS); (with_reducible rename Rest _ _ => kR); k_dflt (refine' sub_D (knd := intKind PP _) ?h0 kS ?hm ?hd ?hk ?hv ?_; (case h0 => with_reducible assumption); (case hm => tb_rel); (case hd => first | with_reducible assumption | with_reducible exact isDict_nil _); (case hk => exact intKind_is _ _ _ _); (case hv => first | with_reducible assumption | with_reducible exact valueAt_node _ (by assumption) | with_reducible exact valueAt_stored _ _ _)); (intro s' hr' kS'); (have kR' := Rest.comp kR hr'); clear kS kR hr'; (have kF := kS'.F); (have kN := kS'.N); (try k_sweep)))
local macro_rules | `(tactic| walk_at "subscriptTail Subscript Attribute Name Name ref int") => `(tactic| (k_here; (with_reducible show wpAny _ _ (subscriptTail _ _ (Value.ref _) (Value.int _ _)) _ _ _); (with_reducible rename St _ _ _ _ _ => kS); (with_reducible rename Rest _ _ => kR); k_dflt (refine' sub_D (knd := intKind PP _) ?h0 kS ?hm ?hd ?hk ?hv ?_; (case h0 => with_reducible assumption); (case hm => tb_rel); (case hd => first | with_reducible assumption | with_reducible exact isDict_nil _); (case hk => exact intKind_is _ _ _ _); (case hv => first | with_reducible assumption | with_reducible exact valueAt_node _ (by assumption) | with_reducible exact valueAt_stored _ _ _)); (intro s' hr' kS'); (have kR' := Rest.comp kR hr'); clear kS kR hr'; (have kF := kS'.F); (have kN := kS'.N); (try k_sweep)))
local macro_rules | `(tactic| walk_at "subscriptTail Subscript Name ref int") => `(tactic| (k_here; (with_reducible show wpAny _ _ (subscriptTail _ _ (Value.ref _) (Value.int _ _)) _ _ _); (with_reducible rename St _ _ _ _ _ => kS); (with_reducible rename Rest _ _ => kR); k_dflt (refine' sub_D (knd := intKind PP _) ?h0 kS ?hm ?hd ?hk ?hv ?_; (case h0 => with_reducible assumption); (case hm => tb_rel); (case hd => first | with_reducible assumption | with_reducible exact isDict_nil _); (case hk => exact intKind_is _ _ _ _); (case hv => first | with_reducible assumption | with_reducible exact valueAt_node _ (by assumption) | with_reducible exact valueAt_stored _ _ _)); (intro s' hr' kS'); (have kR' := Rest.comp kR hr'); clear kS kR hr'; (have kF := kS'.F); (have kN := kS'.N); (try k_sweep)))
local macro_rules | `(tactic| walk_at "storeName") => `(tactic| (k_here; (with_reducible rename St _ _ _ _ _ => kS); (with_reducible rename Rest _ _ => kR); k_dflt (refine' storeS kS ?_ ?h1 ?h2 ?h3; (case h1 => exact rfl); (case h2 => exact rfl); (case h3 => exact rfl)); (intro s' hr' kS'); (have kR' := Rest.comp kR hr'); clear kS kR hr'; (have kF := kS'.F); (have kN := kS'.N); (try k_sweep)))
local macro_rules | `(tactic| walk_at "eval Dict nil nil") => `(tactic| (k_here; (with_reducible rename St _ _ _ _ _ => kS); (with_reducible rename Rest _ _ => kR); k_dflt (refine' dictS kS ?_); (intro d' s' hr' kS' l1); (have hm' := cons_mem kS'); (have kR' := Rest.comp kR hr'); clear kS kR hr'; (have kF := kS'.F); (have kN := kS'.N); (try k_sweep)))
local macro_rules | `(tactic| walk_at "setItem ref int ref") => `(tactic| (k_here; (with_reducible rename St _ _ _ _ _ => kS); (with_reducible rename Rest _ _ => kR); k_dflt (refine' set_D (knd := intKind PP _) ?h0 kS ?hm ?hd ?hk ?hz ?_; (case h0 => with_reducible assumption); (case hm => tb_rel); (case hd => first | with_reducible assumption | with_reducible exact isDict_nil _); (case hk => exact intKind_is _ _ _ _); (case hz => first | with_reducible assumption | exact Nat.le_of_ble_eq_true rfl)); (intro s' o' hr' kS' hd' hm'); (have kR' := Rest.comp kR hr'); clear kS kR hr'; (have kF := kS'.F); (have kN := kS'.N); (try k_sweep)))
local macro_rules | `(tactic| walk_at "delItem ref") => `(tactic| (k_here; (with_reducible rename St _ _ _ _ _ => kS); (with_reducible rename Rest _ _ => kR); k_dflt (refine' del_D (knd := intKind PP _) ?h0 kS ?hm ?hd ?hk ?hz ?hl ?_; (case h0 => with_reducible assumption); (case hm => tb_rel); (case hd => first | with_reducible assumption | with_reducible exact isDict_nil _); (case hk => exact intKind_is _ _ _ _); (case hz => with_reducible assumption); (case hl => with_reducible assumption)); (intro s' o' hr' kS' hd' hm'); (have kR' := Rest.comp kR hr'); clear kS kR hr'; (have kF := kS'.F); (have kN := kS'.N); (try k_sweep)))
local macro_rules | `(tactic| walk_at "call builtin:dict.update") => `(tactic| (k_here; (with_reducible rename St _ _ _ _ _ => kS); (with_reducible rename Rest _ _ => kR); k_dflt (refine' update_nil (knd := strKind PP _) (knd' := strKind PP _) ?h0 ?h1 kS ?hm ?hd ?hme ?he ?hde ?_; (case h0 => with_reducible assumption); (case h1 => with_reducible assumption); (case hm => tb_rel); (case hd => first | with_reducible assumption | with_reducible exact isDict_nil _); (case hme => tb_rel); (case he => first | with_reducible assumption | with_reducible exact isDict_nil _); (case hde => tb_start)); (intro s' hr' kS'); (have kR' := Rest.comp kR hr'); clear kS kR hr'; (have kF := kS'.F); (have kN := kS'.N); (try k_sweep)))
local macro_rules | `(tactic| walk_at "call builtin:dict.get") => `(tactic| (k_here; (with_reducible show wpAny _ _ (call _ [_, _, _]) _ _ _); (with_reducible rename St _ _ _ _ _ => kS); (with_reducible rename Rest _ _ => kR); k_dflt (refine' get2_D (knd := intKind PP _) ?h0 kS ?hm ?hd ?hk ?hv ?_; (case h0 => with_reducible assumption); (case hm => tb_rel); (case hd => first | with_reducible assumption | with_reducible exact isDict_nil _); (case hk => exact intKind_is _ _ _ _); (case hv => first | exact getD_of_none (by assumption) | exact getD_of_some (by assumption))); (intro s' hr' kS'); (have kR' := Rest.comp kR hr'); clear kS kR hr'; (have kF := kS'.F); (have kN := kS'.N); (try k_sweep)))
local macro_rules | `(tactic| walk_at "getMethod ref") => `(tactic| (k_here; k_dflt (first
  | ((with_reducible show wpAny _ _ (getMethod (Value.ref _) (Str.ofString "update") _) _ _ _); refine' getM_DU (knd := strKind PP _) ?h0 ?S ?hm ?hd ?_; (case h0 => with_reducible assumption); (case S => assumption); (case hm => tb_rel); (case hd => first | with_reducible assumption | with_reducible exact isDict_nil _))
  | ((with_reducible show wpAny _ _ (getMethod (Value.ref _) (Str.ofString "get") _) _ _ _); refine' getM_DG (knd := intKind PP _) ?h0 ?S ?hm ?hd ?_; (case h0 => with_reducible assumption); (case S => assumption); (case hm => tb_rel); (case hd => first | with_reducible assumption | with_reducible exact isDict_nil _)))))
local macro_rules | `(tactic| walk_at "LeaveK") => `(tactic| ((with_reducible rename St _ _ _ _ _ => kS); (refine leaveS (by assumption) kS ?_); (intro kS'); clear kS; (try dsimp only)))
local macro_rules | `(tactic| walk_at "newTuple") => `(tactic| (k_here; (with_reducible rename St _ _ _ _ _ => kS); (with_reducible rename Rest _ _ => kR); k_dflt (refine' tupS kS ?_ ?hz; (case hz => size_fits)); (intro t' s' hr' kS' l1); (have hm' := cons_mem kS'); (have kR' := Rest.comp kR hr'); clear kS kR hr'; (have kF := kS'.F); (have kN := kS'.N); (try k_sweep)))
local macro_rules | `(tactic| walk_at "newList") => `(tactic| (k_here; (with_reducible rename St _ _ _ _ _ => kS); (with_reducible rename Rest _ _ => kR); k_dflt (refine' listS kS ?_ ?hz; (case hz => size_fits)); (intro t' s' hr' kS' l1); (have hm' := cons_mem kS'); (have kR' := Rest.comp kR hr'); clear kS kR hr'; (have kF := kS'.F); (have kN := kS'.N); (try k_sweep)))
local macro_rules | `(tactic| walk_at "unpackItems ref") => `(tactic| (k_here; (with_reducible rename Cx _ _ _ _ _ => kC); (with_reducible rename St _ _ _ _ _ => kS); (with_reducible rename Rest _ _ => kR); k_dflt (refine' unpackS ?h0 kS ?hm (Cx.hh kC) ?hn ?_; (case h0 => with_reducible assumption); (case hm => tb_rel); (case hn => exact rfl)); (intro s' hr' kS'); (have kR' := Rest.comp kR hr'); clear kS kR hr'; (have kF := kS'.F); (have kN := kS'.N); (try k_sweep)))
local macro_rules | `(tactic| walk_at "compareOp NotEq int int") => `(tactic| first | with_reducible refine ne_int_t (by with_reducible assumption) ?_ | with_reducible refine ne_int_f (by with_reducible assumption) ?_)
local macro_rules | `(tactic| walk_at "compareOp Eq int int") => `(tactic| first | with_reducible refine eq_int_t (by with_reducible assumption) ?_ | with_reducible refine eq_int_f (by with_reducible assumption) ?_)
local macro_rules | `(tactic| walk_at "setAttr ref") => `(tactic| (k_here; (with_reducible rename Cx _ _ _ _ _ => kC); (with_reducible rename St _ _ _ _ _ => kS); (with_reducible rename Rest _ _ => kR); k_dflt (refine' setAttrS kC kS ?h1 ?h2 ?k6 ?k7 ?k8 ?k9 ?k10 ?k11 ?k13 ?_; (case h1 => tb_rel); (case h2 => tb_rel); (case k6 => k_is); (case k7 => k_is); (case k8 => k_is); (case k9 => k_is); (case k10 => k_get); (case k11 => k_put); (case k13 => exact Nat.le_of_ble_eq_true rfl)); (intro s' hr' kS' hm'); (have kR' := Rest.comp kR hr'); clear kS kR hr'; (have kF := kS'.F); (have kN := kS'.N); (try k_sweep)))

local macro_rules | `(tactic| walk_at "call ref") => `(tactic| (k_here; (with_reducible rename St _ _ _ _ _ => kS); (with_reducible rename Rest _ _ => kR); k_dflt (refine' wpAny_call (add_node_old ?C kS ?H ?hg ?hv ?hroom ?_); (case C => with_reducible assumption); (case H => with_reducible assumption); (case hg => first | rfl | assumption); (case hv => with_reducible assumption); (case hroom => (simp only [depth_deeper, depth_in1]; omega))); (intro s' hr' kS'); (try dsimp only); (have kR' := Rest.comp kR hr'); clear kS kR hr'; (have kF := kS'.F); (have kN := kS'.N); (try k_sweep)))

set_option maxHeartbeats 8000000 in
theorem add_edge_new {w : World} {A : Around} {s : Shared} {h₀ : Heap} {env : Env} {L : Addr} {a : GA} {G : Gr} {m : Str → Option Value} {gl rest : List (Addr × Obj)} {R : Result → Shared → Prop} {u v : Nat} {tu tv : Tok}
  (C : Cx w A env L h₀) (S : St h₀ L m (gl ++ rest) s.heap) (H : GraphIn w gl a G) {g : Addr} (hg : a.g = g) (hu : u < G.n) (hv : v < G.n) (habs : v ∉ (G.adj u).map (·.1)) (hlen : ∀ i, i < G.n → (G.adj i).length ≤ 1000)
  (hroom : A.depth + 1 < recursionLimit) (h : ∀ s' gl' a' x, Rest s s' → a'.g = a.g → GraphIn w gl' a' (G.edge u v x) → St h₀ L m (gl' ++ rest) s'.heap → R (.ok (.ret .none)) s') :
  codeAny (model PP w) A (.call (.ref 224) ⟨[.ref g, .int u tu, .int v tv], []⟩) R s := by
  subst hg
  refine enterK (binds := fun D => [(Str.ofString "self", .ref a.g), (Str.ofString "u_of_edge", .int u tu), (Str.ofString "v_of_edge", .int v tv), (Str.ofString "attr", .ref D)]) C S (by k_is) (by k_is) rfl (fun _ => rfl) (fun _ => locs rfl) (fun D g₀ L' s₁ hr C' S' => ?_) (by omega)
  have hL := S.low.1
  clear C S
  replace S' := S'.mid
  have hD0 : (D, dictOf [] 0) ∈ gl ++ (D, dictOf [] 0) :: rest := by simp
  have F := S'.F
  have N := S'.N
  have X := C'.X
  obtain ⟨mean, mg, mb, T⟩ := C'.T
  have H1 := H.inst
  obtain ⟨t1, t2, t3, gr, H2⟩ := H.dict
  obtain ⟨oA, H3, H3d⟩ := H.adjO
  obtain ⟨oU, H4, H4d⟩ := H.nbr u hu
  obtain ⟨oV, H5, H5d⟩ := H.nbr v hv
  have hz1 : (adjD (G.adj u)).length ≤ sizeLine := by rw [adjD, List.length_map, sizeLine_eq]; have := hlen u hu; omega
  have hz2 : (adjD (G.adj v)).length ≤ sizeLine := by rw [adjD, List.length_map, sizeLine_eq]; have := hlen v hv; omega
  have habs' : valueAt (adjD (G.adj u)) (v : Int) = none := by
    rw [valueAt_adj]
    have := addrOf_isSome (G.adj u) v
    rw [decide_eq_false habs] at this
    cases hx : addrOf (G.adj u) v with
    | none => rfl
    | some x => rw [hx] at this; cases this
  have n1 : a.g ≠ a.aA u := fun e => by have := H.r0; rw [e, H.r6 u hu] at this; omega
  have n2 : a.gD ≠ a.aA u := fun e => by have := H.r1; rw [e, H.r6 u hu] at this; omega
  have n3 : a.ad ≠ a.aA u := fun e => by have := H.r3; rw [e, H.r6 u hu] at this; omega
  iterate 27 (first | walk1 | (dsimp only; walk1))
  rename St _ _ _ _ _ => kS
  replace kS := kS.tl
  iterate 61 (first | walk1 | (dsimp only; walk1))
  rename St _ _ _ _ _ => kS
  rename Rest _ _ => kR
  rename (Obj.IsDictOf (intKind PP w) _ (stored _ _ _)) => hd1
  rename ((a.aA u, _) ∈ put _ _ _) => hm1
  rename (Above (gl ++ (D, dictOf [] 0) :: rest) _) => l1
  rename ((_, dictOf [] 0) ∈ (_, dictOf [] 0) :: (gl ++ (D, dictOf [] 0) :: rest)) => hmd
  rename_i dd _ _ _ _ _ _ o1 _ _ _
  rw [adjD_stored] at hd1
  have Dg : ((((dd, dictOf [] 0) :: gl) ++ (D, dictOf [] 0) :: rest).map (·.1)).Nodup := by have := kS.D; rw [put_fst] at this; exact this
  rw [show (dd, dictOf [] 0) :: (gl ++ (D, dictOf [] 0) :: rest) = ((dd, dictOf [] 0) :: gl) ++ (D, dictOf [] 0) :: rest from rfl, put_left Dg (List.Mem.tail _ H4)] at kS
  have hX : ∃ oX, (a.aA v, oX) ∈ put (a.aA u) o1 ((dd, dictOf [] 0) :: gl) ∧ oX.IsDictOf (intKind PP w) (adjD ((G.set u (storeA (G.adj u) v dd)).adj v)) := by
    show ∃ oX, _ ∧ Obj.IsDictOf _ oX (adjD (if v = u then _ else _))
    by_cases huv : v = u
    · rw [if_pos huv, huv]; rw [huv] at hd1; exact ⟨o1, mem_put_self (.tail _ H4), hd1⟩
    · rw [if_neg huv]
      exact ⟨oV, mem_put_ne (.tail _ H5) fun e => huv (by have := H.r6 v hv; rw [e, H.r6 u hu] at this; omega), H5d⟩
  obtain ⟨oX, hX, hXd⟩ := hX
  have hzX : (adjD ((G.set u (storeA (G.adj u) v dd)).adj v)).length ≤ sizeLine := by
    show (adjD (if v = u then _ else _)).length ≤ _
    rw [adjD, List.length_map, sizeLine_eq]
    have := storeA_length (G.adj u) v dd; have := hlen u hu; have := hlen v hv
    split <;> omega
  refine set_D hX kS (List.mem_append_left _ hX) hXd (intKind_is _ _ _ _) hzX (fun s' o2 hr' kS' hd2 hm2 => ?_)
  have kR' := Rest.comp kR hr'
  clear kS kR hr'
  rw [adjD_stored] at hd2
  have Dg' : ((put (a.aA u) o1 ((dd, dictOf [] 0) :: gl) ++ (D, dictOf [] 0) :: rest).map (·.1)).Nodup := by rw [List.map_append, put_fst, ← List.map_append]; exact Dg
  iterate 2 (first | walk1 | (dsimp only; walk1))
  rename St _ _ _ _ _ => kS
  rw [put_left Dg' hX] at kS
  have hfr : ∀ p ∈ gl, p.1 ≠ dd := fun p hp => Nat.ne_of_lt (l1 p (List.mem_append_left _ hp))
  have HG := (H.cons (ox := dictOf [] 0) 5 hfr)
  have hdd : DDok w ((dd, dictOf [] 0) :: gl) { a with role := fun z => if z = dd then 5 else a.role z } dd := ⟨if_pos rfl, _, .head _, isDict_nil 0⟩
  have HG1 := HG.setAdj (l' := storeA (G.adj u) v dd) hu hd1 (fun p hp => by
    rcases mem_storeA hp with rfl | hp
    · exact ⟨hv, hdd⟩
    · exact HG.dd u hu p hp)
  have HG2 := HG1.setAdj (u := v) (l' := storeA ((G.set u (storeA (G.adj u) v dd)).adj v) u dd) hv hd2 (fun p hp => by
    rcases mem_storeA hp with rfl | hp
    · refine ⟨hu, hdd.put ?_⟩
      rw [HG.r6 u hu]; omega
    · exact HG1.dd v hv p hp)
  exact h _ _ { a with role := fun z => if z = dd then 5 else a.role z } dd kR' rfl HG2 kS.unmid

set_option maxHeartbeats 8000000 in
theorem add_edge_old {w : World} {A : Around} {s : Shared} {h₀ : Heap} {env : Env} {L : Addr} {a : GA} {G : Gr} {m : Str → Option Value} {gl rest : List (Addr × Obj)} {R : Result → Shared → Prop} {u v : Nat} {tu tv : Tok} {x : Addr}
  (C : Cx w A env L h₀) (S : St h₀ L m (gl ++ rest) s.heap) (H : GraphIn w gl a G) {g : Addr} (hg : a.g = g) (hu : u < G.n) (hv : v < G.n) (hpr : addrOf (G.adj u) v = some x) (hlen : ∀ i, i < G.n → (G.adj i).length ≤ 1000)
  (hroom : A.depth + 1 < recursionLimit) (h : ∀ s' gl', Rest s s' → GraphIn w gl' a (G.edge u v x) → St h₀ L m (gl' ++ rest) s'.heap → R (.ok (.ret .none)) s') :
  codeAny (model PP w) A (.call (.ref 224) ⟨[.ref g, .int u tu, .int v tv], []⟩) R s := by
  subst hg
  refine enterK (binds := fun D => [(Str.ofString "self", .ref a.g), (Str.ofString "u_of_edge", .int u tu), (Str.ofString "v_of_edge", .int v tv), (Str.ofString "attr", .ref D)]) C S (by k_is) (by k_is) rfl (fun _ => rfl) (fun _ => locs rfl) (fun D g₀ L' s₁ hr C' S' => ?_) (by omega)
  have hL := S.low.1
  clear C S
  obtain ⟨_, hx5, ox, hxm, hxd⟩ := H.dd u hu _ (addrOf_some hpr)
  have hxD : x ≠ D := S'.hd_ne (List.mem_append_left rest hxm)
  replace S' := S'.mid
  have hD0 : (D, dictOf [] 0) ∈ gl ++ (D, dictOf [] 0) :: rest := by simp
  have F := S'.F
  have N := S'.N
  have X := C'.X
  obtain ⟨mean, mg, mb, T⟩ := C'.T
  have H1 := H.inst
  obtain ⟨t1, t2, t3, gr, H2⟩ := H.dict
  obtain ⟨oA, H3, H3d⟩ := H.adjO
  obtain ⟨oU, H4, H4d⟩ := H.nbr u hu
  obtain ⟨oV, H5, H5d⟩ := H.nbr v hv
  have hz1 : (adjD (G.adj u)).length ≤ sizeLine := by rw [adjD, List.length_map, sizeLine_eq]; have := hlen u hu; omega
  have hz2 : (adjD (G.adj v)).length ≤ sizeLine := by rw [adjD, List.length_map, sizeLine_eq]; have := hlen v hv; omega
  have hpr' : valueAt (adjD (G.adj u)) (v : Int) = some (.ref x) := by rw [valueAt_adj, hpr]; rfl
  have n1 : a.g ≠ a.aA u := fun e => by have := H.r0; rw [e, H.r6 u hu] at this; omega
  have n2 : a.gD ≠ a.aA u := fun e => by have := H.r1; rw [e, H.r6 u hu] at this; omega
  have n3 : a.ad ≠ a.aA u := fun e => by have := H.r3; rw [e, H.r6 u hu] at this; omega
  iterate 27 (first | walk1 | (dsimp only; walk1))
  rename St _ _ _ _ _ => kS
  replace kS := kS.tl
  iterate 61 (first | walk1 | (dsimp only; walk1))
  rename St _ _ _ _ _ => kS
  rename Rest _ _ => kR
  rename (Obj.IsDictOf (intKind PP w) _ (stored _ _ _)) => hd1
  rename ((a.aA u, _) ∈ put _ _ _) => hm1
  rename (Above (gl ++ (D, dictOf [] 0) :: rest) _) => l1
  rename ((_, dictOf [] 0) ∈ (_, dictOf [] 0) :: (gl ++ (D, dictOf [] 0) :: rest)) => hmd
  rename_i dd _ _ _ _ _ _ o1 _ _ _
  rw [adjD_stored] at hd1
  have hdu : dd ≠ a.aA u := Nat.ne_of_gt (l1 _ (List.mem_append_left _ H4))
  have Dg : ((gl ++ (dd, dictOf [] 0) :: (D, dictOf [] 0) :: rest).map (·.1)).Nodup := by
    have := kS.D
    rw [put_fst] at this
    have hp : List.Perm ((dd, dictOf [] 0) :: (gl ++ (D, dictOf [] 0) :: rest)) (gl ++ (dd, dictOf [] 0) :: (D, dictOf [] 0) :: rest) := List.perm_middle.symm
    exact (hp.map (·.1)).nodup_iff.mp this
  have Dg0 : ((gl ++ (D, dictOf [] 0) :: rest).map (·.1)).Nodup := by
    have := kS.D
    rw [put_fst, List.map_cons, List.nodup_cons] at this
    exact this.2
  rw [put_cons_ne (p := (dd, dictOf [] 0)) hdu, put_left Dg0 H4] at kS
  replace kS := kS.mid.unmid
  have hX : ∃ oX, (a.aA v, oX) ∈ put (a.aA u) o1 gl ∧ oX.IsDictOf (intKind PP w) (adjD ((G.set u (storeA (G.adj u) v x)).adj v)) := by
    show ∃ oX, _ ∧ Obj.IsDictOf _ oX (adjD (if v = u then _ else _))
    by_cases huv : v = u
    · rw [if_pos huv, huv]; rw [huv] at hd1; exact ⟨o1, mem_put_self H4, hd1⟩
    · rw [if_neg huv]
      exact ⟨oV, mem_put_ne H5 fun e => huv (by have := H.r6 v hv; rw [e, H.r6 u hu] at this; omega), H5d⟩
  obtain ⟨oX, hX, hXd⟩ := hX
  have hzX : (adjD ((G.set u (storeA (G.adj u) v x)).adj v)).length ≤ sizeLine := by
    show (adjD (if v = u then _ else _)).length ≤ _
    rw [adjD, List.length_map, sizeLine_eq]
    have := storeA_length (G.adj u) v x; have := hlen u hu; have := hlen v hv
    split <;> omega
  refine set_D hX kS (List.mem_append_left _ hX) hXd (intKind_is _ _ _ _) hzX (fun s' o2 hr' kS' hd2 hm2 => ?_)
  have kR' := Rest.comp kR hr'
  clear kS kR hr'
  rw [adjD_stored] at hd2
  have Dg' : ((put (a.aA u) o1 gl ++ (D, dictOf [] 0) :: rest).map (·.1)).Nodup := by rw [List.map_append, put_fst, ← List.map_append]; exact Dg0
  iterate 2 (first | walk1 | (dsimp only; walk1))
  rename St _ _ _ _ _ => kS
  rw [put_left Dg' hX] at kS
  have hdd : DDok w gl a x := ⟨hx5, ox, hxm, hxd⟩
  have HG1 := H.setAdj (l' := storeA (G.adj u) v x) hu hd1 (fun p hp => by
    rcases mem_storeA hp with rfl | hp
    · exact ⟨hv, hdd⟩
    · exact H.dd u hu p hp)
  have HG2 := HG1.setAdj (u := v) (l' := storeA ((G.set u (storeA (G.adj u) v x)).adj v) u x) hv hd2 (fun p hp => by
    rcases mem_storeA hp with rfl | hp
    · refine ⟨hu, hdd.put ?_⟩
      rw [H.r6 u hu]; omega
    · exact HG1.dd v hv p hp)
  exact h _ _ kR' HG2 kS.unmid

set_option maxHeartbeats 8000000 in
theorem remove_edge_c {w : World} {A : Around} {s : Shared} {h₀ : Heap} {env : Env} {L : Addr} {a : GA} {G : Gr} {m : Str → Option Value} {gl rest : List (Addr × Obj)} {R : Result → Shared → Prop} {u v : Nat} {tu tv : Tok}
  (C : Cx w A env L h₀) (S : St h₀ L m (gl ++ rest) s.heap) (H : GraphIn w gl a G) {g : Addr} (hg : a.g = g) (hu : u < G.n) (hv : v < G.n) (hpu : v ∈ (G.adj u).map (·.1)) (hpv : u ∈ (G.adj v).map (·.1)) (hlen : ∀ i, i < G.n → (G.adj i).length ≤ 1000)
  (hroom : A.depth < recursionLimit) (h : ∀ s' gl' G', Rest s s' → GraphIn w gl' a G' → G' = (if u = v then G.set u ((G.adj u).filter fun p => decide (p.1 ≠ v)) else (G.set u ((G.adj u).filter fun p => decide (p.1 ≠ v))).set v ((G.adj v).filter fun p => decide (p.1 ≠ u))) → St h₀ L m (gl' ++ rest) s'.heap → R (.ok (.ret .none)) s') :
  codeAny (model PP w) A (.call (.ref 246) ⟨[.ref g, .int u tu, .int v tv], []⟩) R s := by
  subst hg
  refine enter (binds := [(Str.ofString "self", .ref a.g), (Str.ofString "u", .int u tu), (Str.ofString "v", .int v tv)]) C S (by k_is) (by k_is) (BindsTo.of_eq rfl) (locs rfl) (fun g₀ L' s₁ hr C' S' => ?_) (by omega)
  have hL := S.low.1
  clear C S
  have F := S'.F
  have N := S'.N
  have X := C'.X
  obtain ⟨mean, mg, mb, T⟩ := C'.T
  have H1 := H.inst
  obtain ⟨t1, t2, t3, gr, H2⟩ := H.dict
  obtain ⟨oA, H3, H3d⟩ := H.adjO
  obtain ⟨oV, H5, H5d⟩ := H.nbr v hv
  obtain ⟨oU, H4, H4d⟩ := H.nbr u hu
  have hz1 : (adjD (G.adj u)).length ≤ sizeLine := by rw [adjD, List.length_map, sizeLine_eq]; have := hlen u hu; omega
  have hz2 : (adjD (G.adj v)).length ≤ sizeLine := by rw [adjD, List.length_map, sizeLine_eq]; have := hlen v hv; omega
  have n1 : a.g ≠ a.aA u := fun e => by have := H.r0; rw [e, H.r6 u hu] at this; omega
  have n2 : a.gD ≠ a.aA u := fun e => by have := H.r1; rw [e, H.r6 u hu] at this; omega
  have n3 : a.ad ≠ a.aA u := fun e => by have := H.r3; rw [e, H.r6 u hu] at this; omega
  have hl1 : (valueAt (adjD (G.adj u)) (v : Int)).isSome = true := by rw [valueAt_adjS, decide_eq_true hpu]
  have hl2 : (valueAt (adjD (G.adj v)) (u : Int)).isSome = true := by rw [valueAt_adjS, decide_eq_true hpv]
  have hsub : ∀ (i j : Nat), i < G.n → ∀ p ∈ (G.adj i).filter (fun p => decide (p.1 ≠ j)), p.1 < G.n ∧ DDok w gl a p.2 := fun i j hi p hp => H.dd i hi p (List.mem_filter.mp hp).1
  by_cases huv : u = v
  · have hi : (u : Int) = (v : Int) := by rw [huv]
    iterate 28 (first | walk1 | (dsimp only; walk1))
    rename St _ _ _ _ _ => kS
    rename Rest _ _ => kR
    rename (Obj.IsDictOf (intKind PP w) _ (without _ _)) => hd1
    rw [put_left kS.D' H4] at kS
    rw [adjD_without] at hd1
    exact h _ _ _ kR (H.setAdj hu hd1 (hsub u v hu)) (if_pos huv).symm kS
  · have hi : (u : Int) ≠ (v : Int) := fun e => huv (by omega)
    have n4 : a.aA v ≠ a.aA u := fun e => huv (by have := H.r6 v hv; rw [e, H.r6 u hu] at this; omega)
    iterate 41 (first | walk1 | (dsimp only; walk1))
    rename St _ _ _ _ _ => kS
    rename Rest _ _ => kR
    rename (Obj.IsDictOf (intKind PP w) _ (without (adjD (G.adj v)) _)) => hd2
    rename (Obj.IsDictOf (intKind PP w) _ (without (adjD (G.adj u)) _)) => hd1
    have D1 := kS.D''
    have D2 := kS.Dp H4
    rw [put_left D1 H4, put_left D2 (mem_put_ne H5 n4)] at kS
    rw [adjD_without] at hd1 hd2
    have H1' := H.setAdj hu hd1 (hsub u v hu)
    have hv2 : (G.set u ((G.adj u).filter fun p => decide (p.1 ≠ v))).adj v = G.adj v := if_neg fun e => huv e.symm
    exact h _ _ _ kR (H1'.setAdj (u := v) hv hd2 (fun p hp => ⟨(hsub v u hv p hp).1, ((hsub v u hv p hp).2).put (by rw [H.r6 u hu]; omega)⟩)) (if_neg huv).symm kS

end Mine
end
section
open PySem PySem.W PySem.Calls PyProof.Rows
set_option maxRecDepth 100000
namespace Mine

local macro_rules | `(tactic| tb_start) => `(tactic| first | with_reducible assumption | with_reducible exact Ne.symm (by assumption) | (refine' fresh_ne ?l ?h0 ?h; (case l => with_reducible assumption); (case h0 => with_reducible assumption); (case h => tb_rel)) | (refine' Ne.symm (fresh_ne ?l ?h0 ?h); (case l => with_reducible assumption); (case h0 => with_reducible assumption); (case h => tb_rel)))
local macro_rules | `(tactic| tb_rel) => `(tactic| first | with_reducible assumption | with_reducible exact List.mem_cons_self | (with_reducible refine List.mem_cons_of_mem _ ?_; tb_rel) | (with_reducible refine mem_put_self (o := ?oo) ?hh; case hh => tb_rel) | (with_reducible refine mem_put_ne ?h1 ?h2; (case h1 => tb_rel); (case h2 => tb_start)) | (with_reducible refine List.mem_append_left _ ?_; tb_rel) | (with_reducible refine List.mem_append_right _ ?_; tb_rel))
local macro_rules | `(tactic| k_mem) => `(tactic| tb_rel)
local macro_rules | `(tactic| walk_at "compareOp In int ref") => `(tactic| (k_here; (with_reducible rename St _ _ _ _ _ => kS); (with_reducible rename Rest _ _ => kR); k_dflt (refine' in_D (knd := intKind PP _) ?h0 kS ?hm ?hd ?hk ?hv ?_; (case h0 => with_reducible assumption); (case hm => tb_rel); (case hd => first | with_reducible assumption | with_reducible exact isDict_nil _); (case hk => exact intKind_is _ _ _ _); (case hv => first | with_reducible assumption | with_reducible exact isSome_node _ (by assumption) | with_reducible exact isSome_node_none _ (by assumption) | with_reducible exact valueAt_adjS _ _)); (intro s' hr' kS'); (have kR' := Rest.comp kR hr'); clear kS kR hr'; (have kF := kS'.F); (have kN := kS'.N); (try k_sweep)))
local macro_rules | `(tactic| walk_at "compareOp NotIn int ref") => `(tactic| (k_here; (with_reducible rename St _ _ _ _ _ => kS); (with_reducible rename Rest _ _ => kR); k_dflt (refine' notin_D (knd := intKind PP _) ?h0 kS ?hm ?hd ?hk ?hv ?_; (case h0 => with_reducible assumption); (case hm => tb_rel); (case hd => first | with_reducible assumption | with_reducible exact isDict_nil _); (case hk => exact intKind_is _ _ _ _); (case hv => first | with_reducible assumption | with_reducible exact isSome_node _ (by assumption) | with_reducible exact isSome_node_none _ (by assumption) | with_reducible exact valueAt_adjS _ _)); (intro s' hr' kS'); (have kR' := Rest.comp kR hr'); clear kS kR hr'; (have kF := kS'.F); (have kN := kS'.N); (try k_sweep)))
local macro_rules | `(tactic| walk_at "subscriptTail Name Name ref int") => `(tactic| (k_here; (with_reducible show wpAny _ _ (subscriptTail _ _ (Value.ref _) (Value.int _ _)) _ _ _); (with_reducible rename St _ _ _ _ _ => kS); (with_reducible rename Rest _ _ => kR); k_dflt (refine' sub_D (knd := intKind PP _) ?h0 kS ?hm ?hd ?hk ?hv ?_; (case h0 => with_reducible assumption); (case hm => tb_rel); (case hd => first | with_reducible assumption | with_reducible exact isDict_nil _); (case hk => exact intKind_is _ _ _ _); (case hv => first | with_reducible assumption | with_reducible exact valueAt_node _ (by assumption) | with_reducible exact valueAt_stored _ _ _)); (intro s' hr' kS'); (have kR' := Rest.comp kR hr'); clear kS kR hr'; (have kF := kS'.F); (have kN := kS'.N); (try k_sweep)))
local macro_rules | `(tactic| walk_at "subscriptTail Attribute Name Name ref int") => `(tactic| (k_here; (with_reducible show wpAny _ _ (subscriptTail _ _ (Value.ref _) (Value.int _ _)) _ _ _); (with_reducible rename St _ _ _ _ _ => kS); (with_reducible rename Rest _ _ => kR); k_dflt (refine' sub_D (knd := intKind PP _) ?h0 kS ?hm ?hd ?hk ?hv ?_; (case h0 => with_reducible assumption); (case hm => tb_rel); (case hd => first | with_reducible assumption | with_reducible exact isDict_nil _); (case hk => exact intKind_is _ _ _ _); (case hv => first | with_reducible assumption | with_reducible exact valueAt_node _ (by assumption) | with_reducible exact valueAt_stored _ _ _)); (intro s' hr' kS'); (have kR' := Rest.comp kR hr'); clear kS kR hr'; (have kF := kS'.F); (have kN := kS'.N); (try k_sweep)))
local macro_rules | `(tactic| walk_at "subscriptTail Subscript Attribute Name Name ref int") => `(tactic| (k_here; (with_reducible show wpAny _ _ (subscriptTail _ _ (Value.ref _) (Value.int _ _)) _ _ _); (with_reducible rename St _ _ _ _ _ => kS); (with_reducible rename Rest _ _ => kR); k_dflt (refine' sub_D (knd := intKind PP _) ?h0 kS ?hm ?hd ?hk ?hv ?_; (case h0 => with_reducible assumption); (case hm => tb_rel); (case hd => first | with_reducible assumption | with_reducible exact isDict_nil _); (case hk => exact intKind_is _ _ _ _); (case hv => first | with_reducible assumption | with_reducible exact valueAt_node _ (by assumption) | with_reducible exact valueAt_stored _ _ _)); (intro s' hr' kS'); (have kR' := Rest.comp kR hr'); clear kS kR hr'; (have kF := kS'.F); (have kN := kS'.N); (try k_sweep)))
local macro_rules | `(tactic| walk_at "subscriptTail Subscript Name ref int") => `(tactic| (k_here; (with_reducible show wpAny _ _ (subscriptTail _ _ (Value.ref _) (Value.int _ _)) _ _ _); (with_reducible rename St _ _ _ _ _ => kS); (with_reducible rename Rest _ _ => kR); k_dflt (refine' sub_D (knd := intKind PP _) ?h0 kS ?hm ?hd ?hk ?hv ?_; (case h0 => with_reducible assumption); (case hm => tb_rel); (case hd => first | with_reducible assumption | with_reducible exact isDict_nil _); (case hk => exact intKind_is _ _ _ _); (case hv => first | with_reducible assumption | with_reducible exact valueAt_node _ (by assumption) | with_reducible exact valueAt_stored _ _ _)); (intro s' hr' kS'); (have kR' := Rest.comp kR hr'); clear kS kR hr'; (have kF := kS'.F); (have kN := kS'.N); (try k_sweep)))
local macro_rules | `(tactic| walk_at "storeName") => `(tactic| (k_here; (with_reducible rename St _ _ _ _ _ => kS); (with_reducible rename Rest _ _ => kR); k_dflt (refine' storeS kS ?_ ?h1 ?h2 ?h3; (case h1 => exact rfl); (case h2 => exact rfl); (case h3 => exact rfl)); (intro s' hr' kS'); (have kR' := Rest.comp kR hr'); clear kS kR hr'; (have kF := kS'.F); (have kN := kS'.N); (try k_sweep)))
local macro_rules | `(tactic| walk_at "eval Dict nil nil") => `(tactic| (k_here; (with_reducible rename St _ _ _ _ _ => kS); (with_reducible rename Rest _ _ => kR); k_dflt (refine' dictS kS ?_); (intro d' s' hr' kS' l1); (have hm' := cons_mem kS'); (have kR' := Rest.comp kR hr'); clear kS kR hr'; (have kF := kS'.F); (have kN := kS'.N); (try k_sweep)))
local macro_rules | `(tactic| walk_at "setItem ref int ref") => `(tactic| (k_here; (with_reducible rename St _ _ _ _ _ => kS); (with_reducible rename Rest _ _ => kR); k_dflt (refine' set_D (knd := intKind PP _) ?h0 kS ?hm ?hd ?hk ?hz ?_; (case h0 => with_reducible assumption); (case hm => tb_rel); (case hd => first | with_reducible assumption | with_reducible exact isDict_nil _); (case hk => exact intKind_is _ _ _ _); (case hz => first | with_reducible assumption | exact Nat.le_of_ble_eq_true rfl)); (intro s' o' hr' kS' hd' hm'); (have kR' := Rest.comp kR hr'); clear kS kR hr'; (have kF := kS'.F); (have kN := kS'.N); (try k_sweep)))
local macro_rules | `(tactic| walk_at "delItem ref") => `(tactic| (k_here; (with_reducible rename St _ _ _ _ _ => kS); (with_reducible rename Rest _ _ => kR); k_dflt (refine' del_D (knd := intKind PP _) ?h0 kS ?hm ?hd ?hk ?hz ?hl ?_; (case h0 => with_reducible assumption); (case hm => tb_rel); (case hd => first | with_reducible assumption | with_reducible exact isDict_nil _); (case hk => exact intKind_is _ _ _ _); (case hz => with_reducible assumption); (case hl => with_reducible assumption)); (intro s' o' hr' kS' hd' hm'); (have kR' := Rest.comp kR hr'); clear kS kR hr'; (have kF := kS'.F); (have kN := kS'.N); (try k_sweep)))
local macro_rules | `(tactic| walk_at "call builtin:dict.update") => `(tactic| (k_here; (with_reducible rename St _ _ _ _ _ => kS); (with_reducible rename Rest _ _ => kR); k_dflt (refine' update_nil (knd := strKind PP _) (knd' := strKind PP _) ?h0 ?h1 kS ?hm ?hd ?hme ?he ?hde ?_; (case h0 => with_reducible assumption); (case h1 => with_reducible assumption); (case hm => tb_rel); (case hd => first | with_reducible assumption | with_reducible exact isDict_nil _); (case hme => tb_rel); (case he => first | with_reducible assumption | with_reducible exact isDict_nil _); (case hde => tb_start)); (intro s' hr' kS'); (have kR' := Rest.comp kR hr'); clear kS kR hr'; (have kF := kS'.F); (have kN := kS'.N); (try k_sweep)))
local macro_rules | `(tactic| walk_at "call builtin:dict.get") => `(tactic| (k_here; (with_reducible show wpAny _ _ (call _ [_, _, _]) _ _ _); (with_reducible rename St _ _ _ _ _ => kS); (with_reducible rename Rest _ _ => kR); k_dflt (refine' get2_D (knd := intKind PP _) ?h0 kS ?hm ?hd ?hk ?hv ?_; (case h0 => with_reducible assumption); (case hm => tb_rel); (case hd => first | with_reducible assumption | with_reducible exact isDict_nil _); (case hk => exact intKind_is _ _ _ _); (case hv => first | exact getD_of_none (by assumption) | exact getD_of_some (by assumption))); (intro s' hr' kS'); (have kR' := Rest.comp kR hr'); clear kS kR hr'; (have kF := kS'.F); (have kN := kS'.N); (try k_sweep)))
local macro_rules | `(tactic| walk_at "getMethod ref") => `(tactic| (k_here; k_dflt (first
  | ((with_reducible show wpAny _ _ (getMethod (Value.ref _) (Str.ofString "update") _) _ _ _); refine' getM_DU (knd := strKind PP _) ?h0 ?S ?hm ?hd ?_; (case h0 => with_reducible assumption); (case S => assumption); (case hm => tb_rel); (case hd => first | with_reducible assumption | with_reducible exact isDict_nil _))
  | ((with_reducible show wpAny _ _ (getMethod (Value.ref _) (Str.ofString "get") _) _ _ _); refine' getM_DG (knd := intKind PP _) ?h0 ?S ?hm ?hd ?_; (case h0 => with_reducible assumption); (case S => assumption); (case hm => tb_rel); (case hd => first | with_reducible assumption | with_reducible exact isDict_nil _)))))
local macro_rules | `(tactic| walk_at "LeaveK") => `(tactic| ((with_reducible rename St _ _ _ _ _ => kS); (refine leaveS (by assumption) kS ?_); (intro kS'); clear kS; (try dsimp only)))
local macro_rules | `(tactic| walk_at "newTuple") => `(tactic| (k_here; (with_reducible rename St _ _ _ _ _ => kS); (with_reducible rename Rest _ _ => kR); k_dflt (refine' tupS kS ?_ ?hz; (case hz => size_fits)); (intro t' s' hr' kS' l1); (have hm' := cons_mem kS'); (have kR' := Rest.comp kR hr'); clear kS kR hr'; (have kF := kS'.F); (have kN := kS'.N); (try k_sweep)))
local macro_rules | `(tactic| walk_at "newList") => `(tactic| (k_here; (with_reducible rename St _ _ _ _ _ => kS); (with_reducible rename Rest _ _ => kR); k_dflt (refine' listS kS ?_ ?hz; (case hz => size_fits)); (intro t' s' hr' kS' l1); (have hm' := cons_mem kS'); (have kR' := Rest.comp kR hr'); clear kS kR hr'; (have kF := kS'.F); (have kN := kS'.N); (try k_sweep)))
local macro_rules | `(tactic| walk_at "unpackItems ref") => `(tactic| (k_here; (with_reducible rename Cx _ _ _ _ _ => kC); (with_reducible rename St _ _ _ _ _ => kS); (with_reducible rename Rest _ _ => kR); k_dflt (refine' unpackS ?h0 kS ?hm (Cx.hh kC) ?hn ?_; (case h0 => with_reducible assumption); (case hm => tb_rel); (case hn => exact rfl)); (intro s' hr' kS'); (have kR' := Rest.comp kR hr'); clear kS kR hr'; (have kF := kS'.F); (have kN := kS'.N); (try k_sweep)))
local macro_rules | `(tactic| walk_at "compareOp NotEq int int") => `(tactic| first | with_reducible refine ne_int_t (by with_reducible assumption) ?_ | with_reducible refine ne_int_f (by with_reducible assumption) ?_)
local macro_rules | `(tactic| walk_at "compareOp Eq int int") => `(tactic| first | with_reducible refine eq_int_t (by with_reducible assumption) ?_ | with_reducible refine eq_int_f (by with_reducible assumption) ?_)
local macro_rules | `(tactic| walk_at "setAttr ref") => `(tactic| (k_here; (with_reducible rename Cx _ _ _ _ _ => kC); (with_reducible rename St _ _ _ _ _ => kS); (with_reducible rename Rest _ _ => kR); k_dflt (refine' setAttrS kC kS ?h1 ?h2 ?k6 ?k7 ?k8 ?k9 ?k10 ?k11 ?k13 ?_; (case h1 => tb_rel); (case h2 => tb_rel); (case k6 => k_is); (case k7 => k_is); (case k8 => k_is); (case k9 => k_is); (case k10 => k_get); (case k11 => k_put); (case k13 => exact Nat.le_of_ble_eq_true rfl)); (intro s' hr' kS' hm'); (have kR' := Rest.comp kR hr'); clear kS kR hr'; (have kF := kS'.F); (have kN := kS'.N); (try k_sweep)))

local macro_rules | `(tactic| walk_at "assign Tuple cons ref") => `(tactic| (k_here; (with_reducible rename Cx _ _ _ _ _ => kC); (with_reducible rename St _ _ _ _ _ => kS); (with_reducible rename Rest _ _ => kR); k_dflt (refine' assignTupS ?h0 kS ?hm (Cx.hh kC) ?hn ?hs ?_; (case h0 => with_reducible assumption); (case hm => tb_rel); (case hn => exact rfl); (case hs => exact rfl)); (intro s' hr' kS'); (have kR' := Rest.comp kR hr'); clear kS kR hr'; (have kF := kS'.F); (have kN := kS'.N); (try k_sweep)))


theorem add_edge_c {w : World} {A : Around} {s : Shared} {h₀ : Heap} {env : Env} {L : Addr} {a : GA} {G : Gr} {m : Str → Option Value} {gl rest : List (Addr × Obj)} {R : Result → Shared → Prop} {u v : Nat} {tu tv : Tok}
  (C : Cx w A env L h₀) (S : St h₀ L m (gl ++ rest) s.heap) (H : GraphIn w gl a G) {g : Addr} (hg : a.g = g) (hok : GOk G) (hn : G.n ≤ 900) (hu : u < G.n) (hv : v < G.n)
  (hroom : A.depth + 1 < recursionLimit) (h : ∀ s' gl' a' x, Rest s s' → a'.g = a.g → GraphIn w gl' a' (G.edge u v x) → St h₀ L m (gl' ++ rest) s'.heap → R (.ok (.ret .none)) s') :
  codeAny (model PP w) A (.call (.ref 224) ⟨[.ref g, .int u tu, .int v tv], []⟩) R s := by
  have hlen : ∀ i, i < G.n → (G.adj i).length ≤ 1000 := fun i hi => by have := hok.len hi; omega
  cases e : addrOf (G.adj u) v with
  | none =>
    refine add_edge_new C S H hg hu hv ?_ hlen hroom h
    have := addrOf_isSome (G.adj u) v
    rw [e] at this
    exact fun hh => by rw [decide_eq_true hh] at this; cases this
  | some x => exact add_edge_old C S H hg hu hv e hlen hroom fun s' gl' hr H' S' => h s' gl' a x hr rfl H' S'
theorem valueAt_edge (G : Gr) (u v : Nat) (x : Addr) : valueAt (adjD ((G.edge u v x).adj u)) (v : Int) = some (.ref x) := by
  rw [valueAt_adj]
  have : addrOf ((G.edge u v x).adj u) v = some x := by
    rw [edge_adj]
    by_cases e : u = v
    · subst e; rw [if_pos rfl]; exact addrOf_storeA _ _ _
    · rw [if_neg e, if_pos rfl]; exact addrOf_storeA _ _ _
  rw [this]; rfl
theorem addrOf_mem {l : List (Nat × Addr)} {v : Nat} {x : Addr} (h : addrOf l v = some x) : ∃ p ∈ l, p.2 = x := by
  unfold addrOf at h
  cases e : l.find? fun p => decide (p.1 = v) with
  | none => rw [e] at h; cases h
  | some p => rw [e] at h; exact ⟨p, List.mem_of_find?_eq_some e, by injection h⟩
theorem edge_dd {w : World} {gl : List (Addr × Obj)} {a : GA} {G : Gr} {u v : Nat} {x : Addr} (H : GraphIn w gl a (G.edge u v x)) (hu : u < G.n) : DDok w gl a x := by
  have h := valueAt_edge G u v x
  rw [valueAt_adj] at h
  cases e : addrOf ((G.edge u v x).adj u) v with
  | none => rw [e] at h; cases h
  | some y =>
    rw [e] at h
    obtain ⟨p, hp, rfl⟩ := addrOf_mem e
    have h2 := (H.dd u hu p hp).2
    have : p.2 = x := by simpa using h
    rw [← this]; exact h2

theorem edge_take {G G' : Gr} {es : List (Nat × Nat)} {k u v : Nat} (h : ∀ i j, G'.has i j ↔ G.has i j ∨ ∃ e ∈ es.take k, (i = e.1 ∧ j = e.2) ∨ (i = e.2 ∧ j = e.1)) (hk : es[k]? = some (u, v)) (x : Addr) (i j : Nat) :
    (G'.edge u v x).has i j ↔ G.has i j ∨ ∃ e ∈ es.take (k + 1), (i = e.1 ∧ j = e.2) ∨ (i = e.2 ∧ j = e.1) := by
  rw [edge_has, h, List.take_add_one, hk]
  simp only [Option.toList, List.mem_append, List.mem_singleton]
  constructor
  · rintro ((h1 | ⟨e, h1, h2⟩) | h1)
    · exact .inl h1
    · exact .inr ⟨e, .inl h1, h2⟩
    · exact .inr ⟨(u, v), .inr rfl, h1⟩
  · rintro (h1 | ⟨e, h1 | rfl, h2⟩)
    · exact .inl (.inl h1)
    · exact .inl (.inr ⟨e, h1, h2⟩)
    · exact .inr h2
set_option maxHeartbeats 8000000 in
theorem add_edges_from_c {w : World} {A : Around} {s : Shared} {h₀ : Heap} {env : Env} {L : Addr} {a : GA} {G : Gr} {m : Str → Option Value} {gl rest : List (Addr × Obj)} {R : Result → Shared → Prop} {l : Addr} {n : Nat} {ts : List Addr} {es : List (Nat × Nat)}
  (C : Cx w A env L h₀) (S : St h₀ L m (gl ++ rest) s.heap) (H : GraphIn w gl a G) {g : Addr} (hg : a.g = g) (hok : GOk G) (hn : G.n ≤ 900) (he : EdgesIn rest l n ts es) (hb : ∀ e ∈ es, e.1 < G.n ∧ e.2 < G.n) (hlen : es.length ≤ 10000)
  (hroom : A.depth + 3 < recursionLimit) (h : ∀ s' gl' a' G', Rest s s' → a'.g = a.g → GraphIn w gl' a' G' → GOk G' → G'.n = G.n → (∀ i j, G'.has i j ↔ G.has i j ∨ ∃ e ∈ es, (i = e.1 ∧ j = e.2) ∨ (i = e.2 ∧ j = e.1)) → St h₀ L m (gl' ++ rest) s'.heap → R (.ok (.ret .none)) s') :
  codeAny (model PP w) A (.call (.ref 231) ⟨[.ref g, .ref l], []⟩) R s := by
  subst hg
  refine enterK (binds := fun D => [(Str.ofString "self", .ref a.g), (Str.ofString "ebunch_to_add", .ref l), (Str.ofString "attr", .ref D)]) C S (by k_is) (by k_is) rfl (fun _ => rfl) (fun _ => locs rfl) (fun D g₀ L' s₁ hr C' S' => ?_) (by omega)
  have hL := S.low.1
  clear C S
  replace S' := S'.mid
  have F := S'.F
  have N' := S'.N
  have X := C'.X
  obtain ⟨mean, mg, mb, T⟩ := C'.T
  iterate 1 (first | walk1 | (dsimp only; walk1))
  refine forN (h₀ := g₀) (L := L') C'.hh ?_
  iterate 1 (first | walk1 | (dsimp only; walk1))
  refine iter_edges S' (rest := rest) he (fun p hp => List.mem_append_right _ (.tail _ hp)) fun I o s₂ hr₂ S₂ hP => ?_
  replace hr := Rest.comp hr hr₂
  refine ⟨I, o, _, _, _, _, [Str.ofString "ne", Str.ofString "u", Str.ofString "v", Str.ofString "dd"], _, fun y => List.lookup y [(Str.ofString "self", Value.ref a.g), (Str.ofString "ebunch_to_add", .ref l), (Str.ofString "attr", .ref D)].reverse, gl ++ (D, dictOf [] 0) :: rest, fun k m' news g q => m' = (fun y => List.lookup y [(Str.ofString "self", Value.ref a.g), (Str.ofString "ebunch_to_add", .ref l), (Str.ofString "attr", .ref D)].reverse) ∧ g = s.gens ∧ q = s.os ∧
    ∃ gl' a' G', news = gl' ++ (D, dictOf [] 0) :: rest ∧ a'.g = a.g ∧ GraphIn w gl' a' G' ∧ GOk G' ∧ G'.n = G.n ∧ (∀ i j, G'.has i j ↔ G.has i j ∨ ∃ e ∈ es.take k, (i = e.1 ∧ j = e.2) ∨ (i = e.2 ∧ j = e.1)), rfl, Iter.list I l (ts.map .ref) n, S₂, fun _ _ => rfl, hP, ⟨rfl, hr.1, hr.2, gl, a, G, rfl, rfl, H, hok, rfl, by simp⟩, ?_, ?_, ?_⟩
  · rintro k m' news g q ⟨_, _, _, gl', a', G', rfl, _⟩
    exact List.mem_append_right _ (.tail _ he.1)
  · rintro k vv FF m' news o' s₃ hk hv ⟨rfl, hg, hq, gl', a', G', rfl, ha, H', hok', hn', hhas⟩ hP' S₃
    have hr : Rest s s₃ := ⟨hg, hq⟩
    rw [List.getElem?_map] at hv
    obtain ⟨t, ht, rfl⟩ : ∃ t, ts[k]? = some t ∧ vv = .ref t := by
      cases e : ts[k]? with
      | none => rw [e] at hv; cases hv
      | some t => rw [e] at hv; exact ⟨t, rfl, by injection hv with hv; exact hv.symm⟩
    obtain ⟨u, v, tu, tv, hek, het⟩ := he.2.2 k t ht
    obtain ⟨hu, hvn⟩ := hb _ (List.mem_of_getElem? hek)
    dsimp only at hu hvn
    clear S' F N' S₂
    have F := S₃.F
    have N' := S₃.N
    have hT0 : (t, tupO [.int (u : Nat) tu, .int (v : Nat) tv]) ∈ (I, o') :: (gl' ++ (D, dictOf [] 0) :: rest) := List.mem_cons_of_mem _ (List.mem_append_right _ (.tail _ het))
    have hE2 : ([.int (u : Nat) tu, .int (v : Nat) tv] : List Value).length = 2 := rfl
    iterate 47 (first | walk1 | (dsimp only; walk1))
    rename St _ _ _ _ _ => kS
    rename Rest _ _ => kR
    rename Cx _ _ _ _ _ => C'
    rename Addr => dd
    have H1 := H'.inst
    rw [ha] at H1
    obtain ⟨t1, t2, t3, gr, H2⟩ := H'.dict
    have hms : ∀ p ∈ gl', ∀ (x y : Addr × Obj), p ∈ x :: y :: (gl' ++ (D, dictOf [] 0) :: rest) := fun p hp x y => .tail _ (.tail _ (List.mem_append_left _ hp))
    have hDm : (D, dictOf [] 0) ∈ (I, o') :: (gl' ++ (D, dictOf [] 0) :: rest) := by simp
    refine methodCall_star ?_
    iterate 1 (first | walk1 | (dsimp only; walk1))
    refine getBound C' kS (hms _ H1 _ _) (hms _ H2 _ _) (by k_is) (by k_is) (by k_is) (by k_is) (by k_is) (by decide) (by k_get) (by k_is) (fun q s₄ hr₄ S₄ l₄ => ?_)
    have kR' := Rest.comp kR hr₄
    clear kS kR
    have F := S₄.F
    have N' := S₄.N
    refine callWith_starE (h₀ := g₀) (L := L') ?_
    iterate 5 (first | walk1 | (dsimp only; walk1))
    have S₅ := S₄.push (dictOf [] 0)
    refine wpAny_bind ?_
    have F := S₅.F
    have N' := S₅.N
    iterate 1 (first | walk1 | (dsimp only; walk1))
    refine wpAny_bind (wpAny_standAt (wpAny_pure ?_))
    refine ⟨D, _, _, dictOf [] 0, rfl, S₅, by simp, isDict_nil 0, S₅.get List.mem_cons_self, ?_, ?_⟩
    · obtain ⟨k, _, hk⟩ := keeps_M (M := model PP w) (f := 224) (by k_is) _ ⟨S₅.get (List.mem_cons_of_mem _ List.mem_cons_self), X.keeps S₅.F.keep⟩
      exact ⟨k, hk⟩
    refine call_meth S₅.N (List.mem_cons_of_mem _ List.mem_cons_self) ?_
    have S₆ := (S₅.tl.tl).perm (List.perm_append_comm_assoc [(_, _), (_, _)] gl' ((D, dictOf [] 0) :: rest))
    refine add_edge_c C' S₆ H' ha hok' (by omega) (by omega) (by omega) (by simp only [depth_deeper]; omega) (fun s₇ gl'' a'' x hr₇ ha'' H'' S₇ => ?_)
    have kR := Rest.comp kR' hr₇
    clear kR'
    dsimp only
    clear F N' H1 H2 hms hDm S₄ S₅ S₆ hT0 t1 t2 t3 gr
    have F := S₇.F
    have N' := S₇.N
    have H1 := H''.inst
    rw [ha'', ha] at H1
    obtain ⟨t1, t2, t3, gr, H2⟩ := H''.dict
    obtain ⟨oA, H3, H3d⟩ := H''.adjO
    have hu' : u < (G'.edge u v x).n := by show u < G'.n; omega
    obtain ⟨oU, H4, H4d⟩ := H''.nbr u hu'
    have hvx := valueAt_edge G' u v x
    obtain ⟨_, oX, H5, H5d⟩ := edge_dd H'' (by omega : u < G'.n)
    have H6 : (dd, dictOf [] 0) ∈ [(dd, dictOf [] 0), (I, o')] ++ ((D, dictOf [] 0) :: rest) := .head _
    have hne := S₇.ne_lr H5 H6
    iterate 19 (first | walk1 | (dsimp only; walk1))
    rename St _ _ _ _ _ => kS
    rename Rest _ _ => kR
    have kS1 := kS.unmid.perm List.perm_middle
    exact ⟨_, _, _, kS1, by (intro y hy; (simp only [List.mem_cons, List.not_mem_nil, or_false, not_or] at hy); simp only [ovr, hy, if_false, or_self, List.mem_cons, List.not_mem_nil, ite_self]), rfl, kR.1, kR.2, gl'', a'', G'.edge u v x, rfl, ha''.trans ha, H'', edge_ok hok' (by omega) (by omega) x, hn', edge_take hhas hek x⟩
  · rintro FF m' news s₃ ⟨rfl, hg, hq, gl', a', G', rfl, ha, H', hok', hn', hhas⟩ S₃
    clear S' F N' S₂
    have F := S₃.F
    have N' := S₃.N
    dsimp only
    iterate 2 (first | walk1 | (dsimp only; walk1))
    rename St _ _ _ _ _ => kS
    rw [List.length_map, he.2.1, List.take_length] at hhas
    exact h _ gl' a' G' ⟨hg, hq⟩ ha H' hok' hn' hhas kS.unmid

end Mine
end
section
open PySem PySem.W PySem.Calls PyProof.Rows
set_option maxRecDepth 100000
namespace Mine

local macro_rules | `(tactic| tb_start) => `(tactic| first | with_reducible assumption | with_reducible exact Ne.symm (by assumption) | (refine' fresh_ne ?l ?h0 ?h; (case l => with_reducible assumption); (case h0 => with_reducible assumption); (case h => tb_rel)) | (refine' Ne.symm (fresh_ne ?l ?h0 ?h); (case l => with_reducible assumption); (case h0 => with_reducible assumption); (case h => tb_rel)))
local macro_rules | `(tactic| tb_rel) => `(tactic| first | with_reducible assumption | with_reducible exact List.mem_cons_self | (with_reducible refine List.mem_cons_of_mem _ ?_; tb_rel) | (with_reducible refine mem_put_self (o := ?oo) ?hh; case hh => tb_rel) | (with_reducible refine mem_put_ne ?h1 ?h2; (case h1 => tb_rel); (case h2 => tb_start)) | (with_reducible refine List.mem_append_left _ ?_; tb_rel) | (with_reducible refine List.mem_append_right _ ?_; tb_rel))
local macro_rules | `(tactic| k_mem) => `(tactic| tb_rel)
local macro_rules | `(tactic| walk_at "compareOp In int ref") => `(tactic| (k_here; (with_reducible rename St _ _ _ _ _ => kS); (with_reducible rename Rest _ _ => kR); k_dflt (refine' in_D (knd := intKind PP _) ?h0 kS ?hm ?hd ?hk ?hv ?_; (case h0 => with_reducible assumption); (case hm => tb_rel); (case hd => first | with_reducible assumption | with_reducible exact isDict_nil _); (case hk => exact intKind_is _ _ _ _); (case hv => first | with_reducible assumption | with_reducible exact isSome_node _ (by assumption) | with_reducible exact isSome_node_none _ (by assumption) | with_reducible exact valueAt_adjS _ _)); (intro s' hr' kS'); (have kR' := Rest.comp kR hr'); clear kS kR hr'; (have kF := kS'.F); (have kN := kS'.N); (try k_sweep)))
local macro_rules | `(tactic| walk_at "compareOp NotIn int ref") => `(tactic| (k_here; (with_reducible rename St _ _ _ _ _ => kS); (with_reducible rename Rest _ _ => kR); k_dflt (refine' notin_D (knd := intKind PP _) ?h0 kS ?hm ?hd ?hk ?hv ?_; (case h0 => with_reducible assumption); (case hm => tb_rel); (case hd => first | with_reducible assumption | with_reducible exact isDict_nil _); (case hk => exact intKind_is _ _ _ _); (case hv => first | with_reducible assumption | with_reducible exact isSome_node _ (by assumption) | with_reducible exact isSome_node_none _ (by assumption) | with_reducible exact valueAt_adjS _ _)); (intro s' hr' kS'); (have kR' := Rest.comp kR hr'); clear kS kR hr'; (have kF := kS'.F); (have kN := kS'.N); (try k_sweep)))
local macro_rules | `(tactic| walk_at "subscriptTail Name Name ref int") => `(tactic| (k_here; (with_reducible show wpAny _ _ (subscriptTail _ _ (Value.ref _) (Value.int _ _)) _ _ _); (with_reducible rename St _ _ _ _ _ => kS); (with_reducible rename Rest _ _ => kR); k_dflt (refine' sub_D (knd := intKind PP _) ?h0 kS ?hm ?hd ?hk ?hv ?_; (case h0 => with_reducible assumption); (case hm => tb_rel); (case hd => first | with_reducible assumption | with_reducible exact isDict_nil _); (case hk => exact intKind_is _ _ _ _); (case hv => first | with_reducible assumption | with_reducible exact valueAt_node _ (by assumption) | with_reducible exact valueAt_stored _ _ _)); (intro s' hr' kS'); (have kR' := Rest.comp kR hr'); clear kS kR hr'; (have kF := kS'.F); (have kN := kS'.N); (try k_sweep)))
local macro_rules | `(tactic| walk_at "subscriptTail Attribute Name Name ref int") => `(tactic| (k_here; (with_reducible show wpAny _ _ (subscriptTail _ _ (Value.ref _) (Value.int _ _)) _ _ _); (with_reducible rename St _ _ _ _ _ => kS); (with_reducible rename Rest _ _ => kR); k_dflt (refine' sub_D (knd := intKind PP _) ?h0 kS ?hm ?hd ?hk ?hv ?_; (case h0 => with_reducible assumption); (case hm => tb_rel); (case hd => first | with_reducible assumption | with_reducible exact isDict_nil _); (case hk => exact intKind_is _ _ _ _); (case hv => first | with_reducible assumption | with_reducible exact valueAt_node _ (by assumption) | with_reducible exact valueAt_stored _ _ _)); (intro s' hr' kS'); (have kR' := Rest.comp kR hr'); clear kS kR hr'; (have kF := kS'.F); (have kN := kS'.N); (try k_sweep)))
local macro_rules | `(tactic| walk_at "subscriptTail Subscript Attribute Name Name ref int") => `(tactic| (k_here; (with_reducible show wpAny _ _ (subscriptTail _ _ (Value.ref _) (Value.int _ _)) _ _ _); (with_reducible rename St _ _ _ _ _ => kS); (with_reducible rename Rest _ _ => kR); k_dflt (refine' sub_D (knd := intKind PP _) ?h0 kS ?hm ?hd ?hk ?hv ?_; (case h0 => with_reducible assumption); (case hm => tb_rel); (case hd => first | with_reducible assumption | with_reducible exact isDict_nil _); (case hk => exact intKind_is _ _ _ _); (case hv => first | with_reducible assumption | with_reducible exact valueAt_node _ (by assumption) | with_reducible exact valueAt_stored _ _ _)); (intro s' hr' kS'); (have kR' := Rest.comp kR hr'); clear kS kR hr'; (have kF := kS'.F); (have kN := kS'.N); (try k_sweep)))
local macro_rules | `(tactic| walk_at "subscriptTail Subscript Name ref int") => `(tactic| (k_here; (with_reducible show wpAny _ _ (subscriptTail _ _ (Value.ref _) (Value.int _ _)) _ _ _); (with_reducible rename St _ _ _ _ _ => kS); (with_reducible rename Rest _ _ => kR); k_dflt (refine' sub_D (knd := intKind PP _) ?h0 kS ?hm ?hd ?hk ?hv ?_; (case h0 => with_reducible assumption); (case hm => tb_rel); (case hd => first | with_reducible assumption | with_reducible exact isDict_nil _); (case hk => exact intKind_is _ _ _ _); (case hv => first | with_reducible assumption | with_reducible exact valueAt_node _ (by assumption) | with_reducible exact valueAt_stored _ _ _)); (intro s' hr' kS'); (have kR' := Rest.comp kR hr'); clear kS kR hr'; (have kF := kS'.F); (have kN := kS'.N); (try k_sweep)))
local macro_rules | `(tactic| walk_at "storeName") => `(tactic| (k_here; (with_reducible rename St _ _ _ _ _ => kS); (with_reducible rename Rest _ _ => kR); k_dflt (refine' storeS kS ?_ ?h1 ?h2 ?h3; (case h1 => exact rfl); (case h2 => exact rfl); (case h3 => exact rfl)); (intro s' hr' kS'); (have kR' := Rest.comp kR hr'); clear kS kR hr'; (have kF := kS'.F); (have kN := kS'.N); (try k_sweep)))
local macro_rules | `(tactic| walk_at "eval Dict nil nil") => `(tactic| (k_here; (with_reducible rename St _ _ _ _ _ => kS); (with_reducible rename Rest _ _ => kR); k_dflt (refine' dictS kS ?_); (intro d' s' hr' kS' l1); (have hm' := cons_mem kS'); (have kR' := Rest.comp kR hr'); clear kS kR hr'; (have kF := kS'.F); (have kN := kS'.N); (try k_sweep)))
local macro_rules | `(tactic| walk_at "setItem ref int ref") => `(tactic| (k_here; (with_reducible rename St _ _ _ _ _ => kS); (with_reducible rename Rest _ _ => kR); k_dflt (refine' set_D (knd := intKind PP _) ?h0 kS ?hm ?hd ?hk ?hz ?_; (case h0 => with_reducible assumption); (case hm => tb_rel); (case hd => first | with_reducible assumption | with_reducible exact isDict_nil _); (case hk => exact intKind_is _ _ _ _); (case hz => first | with_reducible assumption | exact Nat.le_of_ble_eq_true rfl)); (intro s' o' hr' kS' hd' hm'); (have kR' := Rest.comp kR hr'); clear kS kR hr'; (have kF := kS'.F); (have kN := kS'.N); (try k_sweep)))
local macro_rules | `(tactic| walk_at "delItem ref") => `(tactic| (k_here; (with_reducible rename St _ _ _ _ _ => kS); (with_reducible rename Rest _ _ => kR); k_dflt (refine' del_D (knd := intKind PP _) ?h0 kS ?hm ?hd ?hk ?hz ?hl ?_; (case h0 => with_reducible assumption); (case hm => tb_rel); (case hd => first | with_reducible assumption | with_reducible exact isDict_nil _); (case hk => exact intKind_is _ _ _ _); (case hz => with_reducible assumption); (case hl => with_reducible assumption)); (intro s' o' hr' kS' hd' hm'); (have kR' := Rest.comp kR hr'); clear kS kR hr'; (have kF := kS'.F); (have kN := kS'.N); (try k_sweep)))
local macro_rules | `(tactic| walk_at "call builtin:dict.update") => `(tactic| (k_here; (with_reducible rename St _ _ _ _ _ => kS); (with_reducible rename Rest _ _ => kR); k_dflt (refine' update_nil (knd := strKind PP _) (knd' := strKind PP _) ?h0 ?h1 kS ?hm ?hd ?hme ?he ?hde ?_; (case h0 => with_reducible assumption); (case h1 => with_reducible assumption); (case hm => tb_rel); (case hd => first | with_reducible assumption | with_reducible exact isDict_nil _); (case hme => tb_rel); (case he => first | with_reducible assumption | with_reducible exact isDict_nil _); (case hde => tb_start)); (intro s' hr' kS'); (have kR' := Rest.comp kR hr'); clear kS kR hr'; (have kF := kS'.F); (have kN := kS'.N); (try k_sweep)))
local macro_rules | `(tactic| walk_at "call builtin:dict.get") => `(tactic| (k_here; (with_reducible show wpAny _ _ (call _ [_, _, _]) _ _ _); (with_reducible rename St _ _ _ _ _ => kS); (with_reducible rename Rest _ _ => kR); k_dflt (refine' get2_D (knd := intKind PP _) ?h0 kS ?hm ?hd ?hk ?hv ?_; (case h0 => with_reducible assumption); (case hm => tb_rel); (case hd => first | with_reducible assumption | with_reducible exact isDict_nil _); (case hk => exact intKind_is _ _ _ _); (case hv => first | exact getD_of_none (by assumption) | exact getD_of_some (by assumption))); (intro s' hr' kS'); (have kR' := Rest.comp kR hr'); clear kS kR hr'; (have kF := kS'.F); (have kN := kS'.N); (try k_sweep)))
local macro_rules | `(tactic| walk_at "getMethod ref") => `(tactic| (k_here; k_dflt (first
  | ((with_reducible show wpAny _ _ (getMethod (Value.ref _) (Str.ofString "update") _) _ _ _); refine' getM_DU (knd := strKind PP _) ?h0 ?S ?hm ?hd ?_; (case h0 => with_reducible assumption); (case S => assumption); (case hm => tb_rel); (case hd => first | with_reducible assumption | with_reducible exact isDict_nil _))
  | ((with_reducible show wpAny _ _ (getMethod (Value.ref _) (Str.ofString "get") _) _ _ _); refine' getM_DG (knd := intKind PP _) ?h0 ?S ?hm ?hd ?_; (case h0 => with_reducible assumption); (case S => assumption); (case hm => tb_rel); (case hd => first | with_reducible assumption | with_reducible exact isDict_nil _)))))
local macro_rules | `(tactic| walk_at "LeaveK") => `(tactic| ((with_reducible rename St _ _ _ _ _ => kS); (refine leaveS (by assumption) kS ?_); (intro kS'); clear kS; (try dsimp only)))
local macro_rules | `(tactic| walk_at "newTuple") => `(tactic| (k_here; (with_reducible rename St _ _ _ _ _ => kS); (with_reducible rename Rest _ _ => kR); k_dflt (refine' tupS kS ?_ ?hz; (case hz => size_fits)); (intro t' s' hr' kS' l1); (have hm' := cons_mem kS'); (have kR' := Rest.comp kR hr'); clear kS kR hr'; (have kF := kS'.F); (have kN := kS'.N); (try k_sweep)))
local macro_rules | `(tactic| walk_at "newList") => `(tactic| (k_here; (with_reducible rename St _ _ _ _ _ => kS); (with_reducible rename Rest _ _ => kR); k_dflt (refine' listS kS ?_ ?hz; (case hz => size_fits)); (intro t' s' hr' kS' l1); (have hm' := cons_mem kS'); (have kR' := Rest.comp kR hr'); clear kS kR hr'; (have kF := kS'.F); (have kN := kS'.N); (try k_sweep)))
local macro_rules | `(tactic| walk_at "unpackItems ref") => `(tactic| (k_here; (with_reducible rename Cx _ _ _ _ _ => kC); (with_reducible rename St _ _ _ _ _ => kS); (with_reducible rename Rest _ _ => kR); k_dflt (refine' unpackS ?h0 kS ?hm (Cx.hh kC) ?hn ?_; (case h0 => with_reducible assumption); (case hm => tb_rel); (case hn => exact rfl)); (intro s' hr' kS'); (have kR' := Rest.comp kR hr'); clear kS kR hr'; (have kF := kS'.F); (have kN := kS'.N); (try k_sweep)))
local macro_rules | `(tactic| walk_at "compareOp NotEq int int") => `(tactic| first | with_reducible refine ne_int_t (by with_reducible assumption) ?_ | with_reducible refine ne_int_f (by with_reducible assumption) ?_)
local macro_rules | `(tactic| walk_at "compareOp Eq int int") => `(tactic| first | with_reducible refine eq_int_t (by with_reducible assumption) ?_ | with_reducible refine eq_int_f (by with_reducible assumption) ?_)
local macro_rules | `(tactic| walk_at "setAttr ref") => `(tactic| (k_here; (with_reducible rename Cx _ _ _ _ _ => kC); (with_reducible rename St _ _ _ _ _ => kS); (with_reducible rename Rest _ _ => kR); k_dflt (refine' setAttrS kC kS ?h1 ?h2 ?k6 ?k7 ?k8 ?k9 ?k10 ?k11 ?k13 ?_; (case h1 => tb_rel); (case h2 => tb_rel); (case k6 => k_is); (case k7 => k_is); (case k8 => k_is); (case k9 => k_is); (case k10 => k_get); (case k11 => k_put); (case k13 => exact Nat.le_of_ble_eq_true rfl)); (intro s' hr' kS' hm'); (have kR' := Rest.comp kR hr'); clear kS kR hr'; (have kF := kS'.F); (have kN := kS'.N); (try k_sweep)))

local macro_rules | `(tactic| walk_at "subscriptTail Name BinOp ref int") => `(tactic| (k_here; (with_reducible rename St _ _ _ _ _ => kS); k_dflt (refine' subL ?h0 kS ?hm ?hx ?hn ?hh ?_; (case h0 => with_reducible assumption); (case hm => tb_rel); (case hx => first | with_reducible assumption | exact rfl); (case hn => first | decide | omega); (case hh => first | decide | omega))))
local macro_rules | `(tactic| walk_at "subscriptTail Name Constant ref int") => `(tactic| (k_here; (with_reducible rename St _ _ _ _ _ => kS); k_dflt (refine' subL ?h0 kS ?hm ?hx ?hn ?hh ?_; (case h0 => with_reducible assumption); (case hm => tb_rel); (case hx => first | with_reducible assumption | exact rfl); (case hn => first | decide | omega); (case hh => first | decide | omega))))
local macro_rules | `(tactic| walk_at "subscriptTail Name Name ref int") => `(tactic| (k_here; (with_reducible rename St _ _ _ _ _ => kS); k_dflt (refine' subL ?h0 kS ?hm ?hx ?hn ?hh ?_; (case h0 => with_reducible assumption); (case hm => tb_rel); (case hx => first | with_reducible assumption | exact rfl); (case hn => first | decide | omega); (case hh => first | decide | omega))))
local macro_rules | `(tactic| walk_at "subscriptTail Subscript Name Constant ref int") => `(tactic| (k_here; (with_reducible rename St _ _ _ _ _ => kS); k_dflt (refine' subL ?h0 kS ?hm ?hx ?hn ?hh ?_; (case h0 => with_reducible assumption); (case hm => tb_rel); (case hx => first | with_reducible assumption | exact rfl); (case hn => first | decide | omega); (case hh => first | decide | omega))))
local macro_rules | `(tactic| walk_at "subscriptTail Subscript Name Constant BinOp ref int") => `(tactic| (k_here; (with_reducible rename St _ _ _ _ _ => kS); k_dflt (refine' subL ?h0 kS ?hm ?hx ?hn ?hh ?_; (case h0 => with_reducible assumption); (case hm => tb_rel); (case hx => first | with_reducible assumption | exact rfl); (case hn => first | decide | omega); (case hh => first | decide | omega))))
local macro_rules | `(tactic| walk_at "subscriptTail Subscript Name Name ref int") => `(tactic| (k_here; (with_reducible rename St _ _ _ _ _ => kS); k_dflt (refine' subL ?h0 kS ?hm ?hx ?hn ?hh ?_; (case h0 => with_reducible assumption); (case hm => tb_rel); (case hx => first | with_reducible assumption | exact rfl); (case hn => first | decide | omega); (case hh => first | decide | omega))))
local macro_rules | `(tactic| walk_at "subscriptTail List Name ref int") => `(tactic| (k_here; (with_reducible rename St _ _ _ _ _ => kS); k_dflt (refine' subL ?h0 kS ?hm ?hx ?hn ?hh ?_; (case h0 => with_reducible assumption); (case hm => tb_rel); (case hx => first | with_reducible assumption | exact rfl); (case hn => first | decide | omega); (case hh => first | decide | omega))))
local macro_rules | `(tactic| walk_at "subscriptTail List cons Name ref int") => `(tactic| (k_here; (with_reducible rename St _ _ _ _ _ => kS); k_dflt (refine' subL ?h0 kS ?hm ?hx ?hn ?hh ?_; (case h0 => with_reducible assumption); (case hm => tb_rel); (case hx => first | with_reducible assumption | exact rfl); (case hn => first | decide | omega); (case hh => first | decide | omega))))
local macro_rules | `(tactic| walk_at "subscriptTail Subscript Name BinOp ref int") => `(tactic| (k_here; (with_reducible rename St _ _ _ _ _ => kS); k_dflt (refine' subL ?h0 kS ?hm ?hx ?hn ?hh ?_; (case h0 => with_reducible assumption); (case hm => tb_rel); (case hx => first | with_reducible assumption | exact rfl); (case hn => first | decide | omega); (case hh => first | decide | omega))))
local macro_rules | `(tactic| walk_at "getItem ref int") => `(tactic| (k_here; (with_reducible rename St _ _ _ _ _ => kS); k_dflt (refine' getL ?h0 kS ?hm ?hx ?hn ?hh ?_; (case h0 => with_reducible assumption); (case hm => tb_rel); (case hx => first | with_reducible assumption | exact rfl); (case hn => first | decide | omega); (case hh => first | decide | omega))))
local macro_rules | `(tactic| walk_at "setItem ref int int") => `(tactic| (k_here; (with_reducible rename St _ _ _ _ _ => kS); (with_reducible rename Rest _ _ => kR); k_dflt (refine' setL ?h0 kS ?hm ?hn ?hh ?hk ?hv ?_; (case h0 => with_reducible assumption); (case hm => tb_rel); (case hn => first | decide | omega); (case hh => first | decide | omega); (case hk => first | decide | (simp; done) | (simp; omega)); (case hv => first | (simp only [Int.toNat_one, Int.toNat_zero, Int.toNat_natCast, List.set_cons_succ, List.set_cons_zero]; exact rfl) | exact rfl)); (intro s' hr' kS' hm'); (have kR' := Rest.comp kR hr'); clear kS kR hr'; (have kF := kS'.F); (have kN := kS'.N); (try k_sweep)))
local macro_rules | `(tactic| walk_at "call builtin:len") => `(tactic| (k_here; (with_reducible rename St _ _ _ _ _ => kS); (with_reducible rename Rest _ _ => kR); k_dflt (refine' lenListS ?h0 kS ?hm ?hz ?_; (case h0 => with_reducible assumption); (case hm => tb_rel); (case hz => first | with_reducible assumption | omega)); (intro s' t' hr' kS'); (have kR' := Rest.comp kR hr'); clear kS kR hr'; (have kF := kS'.F); (have kN := kS'.N); (try k_sweep)))

set_option maxHeartbeats 8000000 in
theorem next_c {w : World} {A : Around} {s : Shared} {h₀ : Heap} {env : Env} {L : Addr} {m : Str → Option Value} {news : List (Addr × Obj)} {R : Result → Shared → Prop} {sa sc : Addr} {x : Int} {n c : Nat} {ti tl : Tok} {lim : Nat} {vs : List Value}
  (C : Cx w A env L h₀) (S : St h₀ L m news s.heap) (hsa : (sa, lst [.ref sc, .int x ti] n) ∈ news) (hsc : (sc, lst vs c) ∈ news) (hv : ∀ v ∈ vs, ∃ k t, v = .int k t) (hl : vs.length ≤ 1000) (hx0 : 0 ≤ x) (hx1 : x ≤ 1000) (hlim : 0 < lim) (hlim2 : lim ≤ 1000)
  (hroom : A.depth < recursionLimit) (h : ∀ s' ti' r t, Rest s s' → r < lim → St h₀ L m (put sa (lst [.ref sc, .int (x + 1) ti'] n) news) s'.heap → R (.ok (.ret (.int (r : Nat) t))) s') :
  codeAny (model PP w) A (.call (.ref 321) ⟨[.ref sa, .int (lim : Nat) tl], []⟩) R s := by
  refine enter (binds := [(Str.ofString "state", .ref sa), (Str.ofString "limit", .int (lim : Nat) tl)]) C S (by k_is) (by k_is) (BindsTo.of_eq rfl) (locs rfl) (fun g₀ L' s₁ hr C' S' => ?_) hroom
  have hL := S.low.1
  clear C S
  have F := S'.F
  have N := S'.N
  have X := C'.X
  obtain ⟨mean, mg, mb, T⟩ := C'.T
  have hne : sc ≠ sa := fun e => by
    have := S'.uniq (e ▸ hsc) hsa
    injection this with _ _ hd _
    injection hd with hd _
    have hd : vs = [Value.ref sc, Value.int x ti] := by simpa using hd
    obtain ⟨k, t, hk⟩ := hv (.ref sc) (by rw [hd]; simp)
    cases hk
  by_cases hlt : x + 1 ≤ vs.length
  · obtain ⟨k, tk, hk⟩ := hv (vs[x.toNat]'(by omega)) (List.getElem_mem _)
    have hx : vs[(x + 1 - 1).toNat]? = some (.int k tk) := by
      rw [show (x + 1 - 1).toNat = x.toNat by omega, List.getElem?_eq_getElem (by omega), hk]
    iterate 48 (first | walk1 | (dsimp only; walk1))
    have hf := Int.fmod_nonneg_of_pos k (b := (lim : Int)) (by omega)
    have hf2 := Int.fmod_lt_of_pos k (b := (lim : Int)) (by omega)
    have e : k.fmod (lim : Int) = (((k.fmod (lim : Int)).toNat : Nat) : Int) := (Int.toNat_of_nonneg hf).symm
    rw [e]
    refine h _ _ _ _ (by assumption) (by omega) (by assumption)
  · iterate 32 (first | walk1 | (dsimp only; walk1))
    exact h _ _ 0 _ (by assumption) hlim (by assumption)

end Mine
end
section
set_option autoImplicit false
namespace Mine
def tw (f : Nat → Bool) (l : List Nat) : List Nat := l.mapIdx fun i x => if f i = true then 1 - x else x
theorem fns_sum {q n : Nat} (g : List Nat → Nat) : ((fns q (n + 1)).map g).sum = ((fns q n).map fun l => ((List.range q).map fun x => g (l ++ [x])).sum).sum := by
  rw [fns]
  induction fns q n with
  | nil => rfl
  | cons l r ih => rw [List.flatMap_cons, List.map_append, List.sum_append, ih, List.map_cons, List.sum_cons, List.map_map]; rfl
theorem tw_sum (f : Nat → Bool) : ∀ (n : Nat) (g : List Nat → Nat), ((fns 2 n).map fun l => g (tw f l)).sum = ((fns 2 n).map g).sum
  | 0, g => rfl
  | n + 1, g => by
    rw [fns_sum, fns_sum (g := g), ← tw_sum f n fun l => ((List.range 2).map fun x => g (l ++ [x])).sum]
    congr 1
    refine List.map_congr_left fun l _ => ?_
    have e : ∀ x, tw f (l ++ [x]) = tw f l ++ [if f l.length = true then 1 - x else x] := fun x => by unfold tw; rw [List.mapIdx_concat]
    show g (tw f (l ++ [0])) + (g (tw f (l ++ [1])) + 0) = g (tw f l ++ [0]) + (g (tw f l ++ [1]) + 0)
    rw [e, e]
    cases f l.length
    · simp
    · simp; omega
open Classical in
theorem cnt_sum {α : Type} (L : List α) (P : α → Prop) : (L.filter fun l => decide (P l)).length = (L.map fun l => if P l then 1 else 0).sum := by
  rw [sum_if L P 1 _ (fun l _ h => if_pos h) (fun l _ h => if_neg h), Nat.mul_one]
theorem two_col {n : Nat} {E : Eds} (hE : InR n E) {f : Nat → Bool} (hf : ∀ p ∈ E, f p.1 ≠ f p.2) : NC 2 n [] E = 2 ^ pcs n E := by
  rw [← nc_nil (q := 2) hE]
  unfold NC
  rw [cnt_sum, cnt_sum, ← tw_sum f n]
  congr 1
  refine List.map_congr_left fun l hl => ?_
  obtain ⟨e, hq⟩ := fns_len hl
  have key : Okc [] E (tw f l) ↔ Okc E [] l := by
    have kk : ∀ p ∈ E, ((tw f l)[p.1]? ≠ (tw f l)[p.2]? ↔ l[p.1]? = l[p.2]?) := fun p hp => by
      obtain ⟨h1, h2⟩ := hE p hp
      have e1 := List.getElem?_eq_getElem (l := l) (i := p.1) (by omega)
      have e2 := List.getElem?_eq_getElem (l := l) (i := p.2) (by omega)
      have q1 := hq _ (List.getElem_mem (l := l) (n := p.1) (by omega))
      have q2 := hq _ (List.getElem_mem (l := l) (n := p.2) (by omega))
      unfold tw
      rw [List.getElem?_mapIdx, List.getElem?_mapIdx, e1, e2]
      generalize l[p.1] = x at q1
      generalize l[p.2] = y at q2
      have := hf p hp
      simp only [Option.map_some, ne_eq, Option.some.injEq]
      revert this
      cases f p.1 <;> cases f p.2 <;> simp <;> omega
    exact ⟨fun h => ⟨fun p hp => (kk p hp).mp (h.2 p hp), (fun p hp => nomatch hp)⟩, fun h => ⟨(fun p hp => nomatch hp), fun p hp => (kk p hp).mpr (h.1 p hp)⟩⟩
  by_cases h : Okc E [] l
  · rw [if_pos h, if_pos (key.mpr h)]
  · rw [if_neg h, if_neg fun k => h (key.mp k)]
theorem no_col {n : Nat} {E : Eds} (hE : InR n E) (hf : ¬ ∃ f : Nat → Bool, ∀ p ∈ E, f p.1 ≠ f p.2) : NC 2 n [] E = 0 := by
  unfold NC
  rw [List.length_eq_zero_iff, List.filter_eq_nil_iff]
  intro l hl h
  have h := (@of_decide_eq_true _ (Classical.propDecidable _) h : Okc [] E l).2
  obtain ⟨e, hq⟩ := fns_len hl
  refine hf ⟨fun i => l[i]? == some 1, fun p hp q => h p hp ?_⟩
  obtain ⟨h1, h2⟩ := hE p hp
  have e1 := List.getElem?_eq_getElem (l := l) (i := p.1) (by omega)
  have e2 := List.getElem?_eq_getElem (l := l) (i := p.2) (by omega)
  have q1 := hq _ (List.getElem_mem (l := l) (n := p.1) (by omega))
  have q2 := hq _ (List.getElem_mem (l := l) (n := p.2) (by omega))
  have q : (l[p.1]? == some 1) = (l[p.2]? == some 1) := q
  rw [e1, e2] at q ⊢
  generalize l[p.1] = x at q q1
  generalize l[p.2] = y at q q2
  have : (x = 1 ↔ y = 1) := by
    have := congrArg (· = true) q
    simpa using this
  congr 1
  omega
end Mine
end
section
set_option autoImplicit false
namespace Mine
def gdk (es : List (Nat × Nat)) (k : Nat) (l : List Nat) : Prop := ∀ p ∈ es, p.2 < k → p.1 < p.2 ∧ l[p.1]? ≠ l[p.2]?
theorem shade_ok {es : List (Nat × Nat)} {l : List Nat} {x : Nat} : (shadeBs es l x).all id = true ↔ ∀ p ∈ es, p.2 = l.length → p.1 < p.2 ∧ l[p.1]? ≠ some x := by
  unfold shadeBs
  simp only [List.all_eq_true, List.mem_map, List.mem_filter, id, decide_eq_true_eq, forall_exists_index, and_imp]
  constructor
  · intro h p hp e
    have := h _ p hp e rfl
    simpa using this
  · rintro h _ p hp e rfl
    have := h p hp e
    simpa using this
theorem gdk_snoc {es : List (Nat × Nat)} {k x : Nat} {l : List Nat} (hl : l.length = k) : gdk es (k + 1) (l ++ [x]) ↔ gdk es k l ∧ (shadeBs es l x).all id = true := by
  rw [shade_ok]
  have g : ∀ i, i < k → (l ++ [x])[i]? = l[i]? := fun i hi => List.getElem?_append_left (by omega)
  have gk : (l ++ [x])[k]? = some x := by rw [← hl]; simp
  constructor
  · intro h
    refine ⟨fun p hp q => ?_, fun p hp q => ?_⟩
    · have := h p hp (by omega)
      rw [g p.1 (by omega), g p.2 q] at this; exact this
    · have := h p hp (by omega)
      rw [g p.1 (by omega), q, hl, gk] at this; exact ⟨by omega, this.2⟩
  · rintro ⟨h1, h2⟩ p hp q
    rcases Nat.lt_succ_iff_lt_or_eq.mp q with q | q
    · have := h1 p hp q
      rw [g p.1 (by omega), g p.2 q]; exact this
    · have := h2 p hp (by omega)
      rw [g p.1 (by omega), q, gk]; exact ⟨by omega, this.2⟩
open Classical in
theorem cols_step (es : List (Nat × Nat)) (q : Nat) : ∀ (m k : Nat), ((fns q k).map fun l => if gdk es k l then cols es q m l else 0).sum = ((fns q (k + m)).map fun l => if gdk es (k + m) l then 1 else 0).sum
  | 0, k => by simp [cols]
  | m + 1, k => by
    have ih := cols_step es q m (k + 1)
    rw [show k + (m + 1) = k + 1 + m by omega, ← ih, fns_sum]
    congr 1
    refine List.map_congr_left fun l hl => ?_
    have e := (fns_len hl).1
    by_cases h : gdk es k l
    · rw [if_pos h, cols]
      congr 1
      refine List.map_congr_left fun x _ => ?_
      by_cases hs : (shadeBs es l x).all id = true
      · rw [if_pos hs, if_pos ((gdk_snoc e).mpr ⟨h, hs⟩)]
      · rw [if_neg hs, if_neg fun k => hs ((gdk_snoc e).mp k).2]
    · rw [if_neg h]
      have : (List.range q).map (fun x => if gdk es (k + 1) (l ++ [x]) then cols es q m (l ++ [x]) else 0) = (List.range q).map fun _ => 0 := List.map_congr_left fun x _ => if_neg fun k => h ((gdk_snoc e).mp k).1
      rw [this]
      induction List.range q with
      | nil => rfl
      | cons _ _ ih => rw [List.map_cons, List.sum_cons, ← ih]
open Classical in
theorem cols_nc {es : List (Nat × Nat)} {q n : Nat} (hE : InR n es) (hle : ∀ p ∈ es, p.1 ≤ p.2) : cols es q n [] = NC q n [] es := by
  have h := cols_step es q n 0
  rw [Nat.zero_add] at h
  have h0 : gdk es 0 [] := fun p _ q => absurd q (Nat.not_lt_zero _)
  unfold NC
  rw [cnt_sum]
  have e : ((fns q 0).map fun l => if gdk es 0 l then cols es q n l else 0).sum = cols es q n [] := by simp [fns, h0]
  rw [← e]
  refine Eq.trans h ?_
  congr 1
  refine List.map_congr_left fun l hl => ?_
  have key : gdk es n l ↔ Okc [] es l := ⟨fun h => ⟨(fun p hp => nomatch hp), fun p hp => (h p hp (hE p hp).2).2⟩, fun h p hp _ => ⟨by
    have := h.2 p hp
    rcases Nat.lt_or_ge p.1 p.2 with k | k
    · exact k
    · exact absurd (by rw [Nat.le_antisymm (hle p hp) k]) this, h.2 p hp⟩⟩
  by_cases k : Okc [] es l
  · rw [if_pos k, if_pos (key.mpr k)]
  · rw [if_neg k, if_neg fun z => k (key.mp z)]
end Mine
end
section
set_option autoImplicit false
namespace Mine
def GrOf (G : Gr) (E : Eds) : Prop := ∀ i j, G.has i j ↔ ((i, j) ∈ E ∨ (j, i) ∈ E)
theorem reach_jn {G : Gr} {E : Eds} (h : GrOf G E) {u v : Nat} : Reach G u v ↔ Jn E u v := by
  constructor
  · intro k
    induction k with
    | refl => exact .refl
    | step _ e ih => exact ih.step ((h _ _).mp e)
  · intro k
    induction k with
    | refl => exact .refl
    | step _ e ih => exact ih.step ((h _ _).mpr e)
theorem low_lw {G : Gr} {E : Eds} (h : GrOf G E) (i : Nat) : Low G i ↔ Lw E i :=
  ⟨fun k y hy q => k y hy ((reach_jn h).mpr q), fun k y hy q => k y hy ((reach_jn h).mp q)⟩
theorem remG_pcs {G : Gr} {E : Eds} (h : GrOf G E) : ∀ (k i : Nat), remG G k i + pcs i E = pcs (i + k) E
  | 0, i => by rw [remG, Nat.zero_add]; rfl
  | k + 1, i => by
    have hp : pcs (i + 1) E = pcs i E + @ite Nat (Lw E i) (Classical.propDecidable _) 1 0 := by
      unfold pcs; rw [List.range_succ, List.filter_append, List.length_append]; by_cases q : Lw E i <;> simp [q]
    have ih := remG_pcs h k (i + 1)
    rw [show i + (k + 1) = i + 1 + k by omega, ← ih, hp]
    by_cases q : Lw E i
    · rw [remG_low ((low_lw h i).mpr q), if_pos q]; omega
    · rw [remG_not fun z => q ((low_lw h i).mp z), if_neg q]; omega
theorem rem_pcs {G : Gr} {E : Eds} (h : GrOf G E) : rem G 0 = pcs G.n E := by
  have := remG_pcs h G.n 0
  have e : pcs 0 E = 0 := rfl
  unfold rem
  rw [Nat.zero_add] at this
  rw [Nat.sub_zero]; omega
theorem bip_iff {G : Gr} {E : Eds} (h : GrOf G E) (hE : InR G.n E) : (∃ f : Nat → Bool, ∀ p ∈ E, f p.1 ≠ f p.2) ↔ ∃ f : Nat → Bool, ∀ i j, i < G.n → G.has i j → f i ≠ f j :=
  ⟨fun ⟨f, x⟩ => ⟨f, fun i j _ k => by
    rcases (h i j).mp k with k | k
    · exact x _ k
    · exact (x _ k).symm⟩, fun ⟨f, x⟩ => ⟨f, fun p hp => x p.1 p.2 (hE p hp).1 ((h _ _).mpr (.inl hp))⟩⟩
end Mine
end
section
set_option autoImplicit false
namespace Mine
/-! plain: the order of the subsets -/
def flp (i : Nat) (b : Nat → Bool) : Nat → Bool := fun j => if j = i then !b j else b j
def put1 (i : Nat) (v : Bool) (b : Nat → Bool) : Nat → Bool := fun j => if j = i then v else b j
def lst1 : Nat → (Nat → Bool) → (Nat → Bool)
  | 0, s => s
  | m + 1, s => lst1 m (flp m (lst1 m s))
def blk : Nat → (Nat → Bool) → List (Nat → Bool)
  | 0, s => [s]
  | m + 1, s => blk m s ++ blk m (flp m (lst1 m s))
def allS (ψ : (Nat → Bool) → Int) : Nat → (Nat → Bool) → Int
  | 0, s => ψ s
  | m + 1, s => allS ψ m (put1 m false s) + allS ψ m (put1 m true s)
theorem lst1_ge : ∀ (m : Nat) (s : Nat → Bool) (j : Nat), m ≤ j → lst1 m s j = s j
  | 0, s, j, _ => rfl
  | m + 1, s, j, h => by
    rw [lst1, lst1_ge m _ j (by omega)]
    unfold flp
    rw [if_neg (by omega), lst1_ge m s j (by omega)]
theorem allS_congr (ψ : (Nat → Bool) → Int) : ∀ (m : Nat) (s t : Nat → Bool), (∀ j, m ≤ j → s j = t j) → allS ψ m s = allS ψ m t
  | 0, s, t, h => by rw [allS, allS, funext fun j => h j (Nat.zero_le j)]
  | m + 1, s, t, h => by
    have k : ∀ v j, m ≤ j → put1 m v s j = put1 m v t j := fun v j hj => by
      unfold put1
      by_cases e : j = m
      · rw [if_pos e, if_pos e]
      · rw [if_neg e, if_neg e]; exact h j (by omega)
    rw [allS, allS, allS_congr ψ m _ _ (k false), allS_congr ψ m _ _ (k true)]
theorem blk_sum (ψ : (Nat → Bool) → Int) : ∀ (m : Nat) (s : Nat → Bool), ((blk m s).map ψ).sum = allS ψ m s
  | 0, s => by simp [blk, allS]
  | m + 1, s => by
    rw [blk, List.map_append, List.sum_append, blk_sum ψ m, blk_sum ψ m, allS]
    have e1 : allS ψ m s = allS ψ m (put1 m (s m) s) := allS_congr ψ m _ _ fun j _ => by unfold put1; split <;> simp_all
    have e2 : allS ψ m (flp m (lst1 m s)) = allS ψ m (put1 m (!s m) s) := allS_congr ψ m _ _ fun j hj => by
      unfold put1 flp
      rw [lst1_ge m s j hj]
      by_cases q : j = m
      · rw [if_pos q, if_pos q, q]
      · rw [if_neg q, if_neg q]
    rw [e1, e2]
    cases s m <;> simp [Int.add_comm]
theorem blk_len : ∀ (m : Nat) (s : Nat → Bool), (blk m s).length = 2 ^ m
  | 0, _ => rfl
  | m + 1, s => by rw [blk, List.length_append, blk_len m, blk_len m, Nat.pow_succ]; omega
end Mine
end
section
set_option autoImplicit false
namespace Mine
theorem blk_last : ∀ (m : Nat) (s : Nat → Bool), (blk m s)[2 ^ m - 1]? = some (lst1 m s)
  | 0, _ => rfl
  | m + 1, s => by
    have h : 0 < 2 ^ m := Nat.two_pow_pos m
    rw [blk, List.getElem?_append_right (by rw [blk_len, Nat.pow_succ]; omega), blk_len, show 2 ^ (m + 1) - 1 - 2 ^ m = 2 ^ m - 1 by rw [Nat.pow_succ]; omega, blk_last m, lst1]
theorem blk_first : ∀ (m : Nat) (s : Nat → Bool), (blk m s)[0]? = some s
  | 0, _ => rfl
  | m + 1, s => by
    have h : 0 < 2 ^ m := Nat.two_pow_pos m
    rw [blk, List.getElem?_append_left (by rw [blk_len]; exact h), blk_first m]
theorem shift_bit {m i x : Nat} (h : i < m) : (2 ^ m + x) / 2 ^ i % 2 = x / 2 ^ i % 2 := by
  obtain ⟨k, rfl⟩ : ∃ k, m = i + 1 + k := ⟨m - (i + 1), by omega⟩
  have e : 2 ^ (i + 1 + k) = 2 ^ i * (2 * 2 ^ k) := by rw [Nat.pow_add, Nat.pow_succ, Nat.mul_assoc]
  rw [e, Nat.mul_add_div (Nat.two_pow_pos i), Nat.mul_add_mod]
/-- one turn on -/
theorem blk_next : ∀ (m : Nat) (s : Nat → Bool) (t p : Nat), t + 1 < 2 ^ m → (∀ i, i < p → (t + 1) / 2 ^ i % 2 = 0) → (t + 1) / 2 ^ p % 2 ≠ 0 → ∀ b, (blk m s)[t]? = some b → (blk m s)[t + 1]? = some (flp p b)
  | 0, _, t, _, h, _, _, _, _ => absurd h (by simp)
  | m + 1, s, t, p, h, h0, h1, b, hb => by
    have hp : 0 < 2 ^ m := Nat.two_pow_pos m
    rw [Nat.pow_succ] at h
    rw [blk] at hb ⊢
    rcases Nat.lt_trichotomy (t + 1) (2 ^ m) with q | q | q
    · rw [List.getElem?_append_left (by rw [blk_len]; omega)] at hb ⊢
      exact blk_next m s t p q h0 h1 b hb
    · have hpm : p = m := by
        rw [q] at h0 h1
        rcases Nat.lt_trichotomy p m with k | k | k
        · exfalso
          obtain ⟨r, rfl⟩ : ∃ r, m = p + 1 + r := ⟨m - (p + 1), by omega⟩
          apply h1
          rw [show 2 ^ (p + 1 + r) = 2 ^ p * (2 * 2 ^ r) by rw [Nat.pow_add, Nat.pow_succ, Nat.mul_assoc], Nat.mul_div_cancel_left _ (Nat.two_pow_pos p)]; omega
        · exact k
        · have := h0 m k
          rw [Nat.div_self hp] at this; omega
      subst hpm
      rw [List.getElem?_append_left (by rw [blk_len]; omega), show t = 2 ^ p - 1 by omega, blk_last] at hb
      obtain rfl := Option.some.inj hb
      rw [List.getElem?_append_right (by rw [blk_len]; omega), blk_len, q, Nat.sub_self, blk_first]
    · obtain ⟨u, rfl⟩ : ∃ u, t = 2 ^ m + u := ⟨t - 2 ^ m, by omega⟩
      rw [List.getElem?_append_right (by rw [blk_len]; omega), blk_len, show 2 ^ m + u - 2 ^ m = u by omega] at hb
      rw [List.getElem?_append_right (by rw [blk_len]; omega), blk_len, show 2 ^ m + u + 1 - 2 ^ m = u + 1 by omega]
      have hpm : p < m := by
        rcases Nat.lt_or_ge p m with k | k
        · exact k
        · exfalso
          have hz : ∀ i, i < m → (u + 1) / 2 ^ i % 2 = 0 := fun i hi => by
            have := h0 i (by omega)
            rwa [show 2 ^ m + u + 1 = 2 ^ m + (u + 1) by omega, shift_bit hi] at this
          have : ∀ j, j ≤ m → 2 ^ j ∣ u + 1 := fun j => by
            induction j with
            | zero => intro _; exact ⟨u + 1, by simp⟩
            | succ j ih =>
              intro hj
              obtain ⟨c, hc⟩ := ih (by omega)
              have := hz j (by omega)
              rw [hc, Nat.mul_div_cancel_left _ (Nat.two_pow_pos j)] at this
              exact ⟨c / 2, by rw [hc, Nat.pow_succ, Nat.mul_assoc]; congr 1; omega⟩
          have := Nat.le_of_dvd (by omega) (this m (Nat.le_refl _))
          omega
      refine blk_next m _ u p (by omega) (fun i hi => ?_) ?_ b hb
      · have := h0 i hi
        rwa [show 2 ^ m + u + 1 = 2 ^ m + (u + 1) by omega, shift_bit (by omega)] at this
      · rwa [show 2 ^ m + u + 1 = 2 ^ m + (u + 1) by omega, shift_bit hpm] at h1
end Mine
end
section
set_option autoImplicit false
namespace Mine
def sel (e : Nat → Nat × Nat) : Nat → (Nat → Bool) → Eds
  | 0, _ => []
  | m + 1, b => if b m = true then e m :: sel e m b else sel e m b
def sg : Nat → (Nat → Bool) → Int
  | 0, _ => 1
  | m + 1, b => if b m = true then - sg m b else sg m b
theorem ss_snoc (φ : Eds → Int) (e : Nat × Nat) : ∀ (E C : Eds), SS φ (E ++ [e]) C = SS φ E C - SS (fun C' => φ (e :: C')) E C
  | [], C => rfl
  | x :: E, C => by rw [List.cons_append, SS, ss_snoc φ e E, ss_snoc φ e E, SS, SS]; omega
theorem allS_ext (ψ ψ' : (Nat → Bool) → Int) : ∀ (m : Nat) (s : Nat → Bool), (∀ b, (∀ j, m ≤ j → b j = s j) → ψ b = ψ' b) → allS ψ m s = allS ψ' m s
  | 0, s, h => h s fun _ _ => rfl
  | m + 1, s, h => by
    have k : ∀ v b, (∀ j, m ≤ j → b j = put1 m v s j) → ψ b = ψ' b := fun v b hb => h b fun j hj => by
      have := hb j (by omega)
      unfold put1 at this
      rwa [if_neg (by omega)] at this
    rw [allS, allS, allS_ext ψ ψ' m _ (k false), allS_ext ψ ψ' m _ (k true)]
theorem allS_neg (ψ : (Nat → Bool) → Int) : ∀ (m : Nat) (s : Nat → Bool), allS (fun b => - ψ b) m s = - allS ψ m s
  | 0, _ => rfl
  | m + 1, s => by rw [allS, allS, allS_neg ψ m, allS_neg ψ m]; omega
theorem allS_ss (e : Nat → Nat × Nat) : ∀ (m : Nat) (φ : Eds → Int) (s : Nat → Bool), allS (fun b => sg m b * φ (sel e m b)) m s = SS φ ((List.range m).map e) []
  | 0, φ, s => by simp [allS, sg, sel, SS]
  | m + 1, φ, s => by
    rw [List.range_succ, List.map_append, List.map_cons, List.map_nil, ss_snoc, allS, ← allS_ss e m φ (put1 m false s), ← allS_ss e m (fun C' => φ (e m :: C')) (put1 m true s), Int.sub_eq_add_neg, ← allS_neg]
    congr 1
    · refine allS_ext _ _ m _ fun b hb => ?_
      have := hb m (Nat.le_refl m)
      unfold put1 at this
      rw [if_pos rfl] at this
      simp [sg, sel, this]
    · refine allS_ext _ _ m _ fun b hb => ?_
      have := hb m (Nat.le_refl m)
      unfold put1 at this
      rw [if_pos rfl] at this
      simp [sg, sel, this, Int.neg_mul]
theorem mem_sel {e : Nat → Nat × Nat} {x : Nat × Nat} : ∀ {m : Nat} {b : Nat → Bool}, x ∈ sel e m b ↔ ∃ i, i < m ∧ b i = true ∧ e i = x
  | 0, b => by simp [sel]
  | m + 1, b => by
    rw [sel]
    have ih := mem_sel (e := e) (x := x) (m := m) (b := b)
    constructor
    · intro h
      by_cases hb : b m = true
      · rw [if_pos hb] at h
        rcases List.mem_cons.mp h with rfl | h
        · exact ⟨m, by omega, hb, rfl⟩
        · obtain ⟨i, a, c⟩ := ih.mp h; exact ⟨i, by omega, c⟩
      · rw [if_neg hb] at h
        obtain ⟨i, a, c⟩ := ih.mp h; exact ⟨i, by omega, c⟩
    · rintro ⟨i, hi, hb, rfl⟩
      by_cases q : i = m
      · subst q; rw [if_pos hb]; exact .head _
      · have := ih.mpr ⟨i, by omega, hb, rfl⟩
        split
        · exact .tail _ this
        · exact this
theorem sg_keep {p : Nat} {b : Nat → Bool} : ∀ {m : Nat}, m ≤ p → sg m (flp p b) = sg m b
  | 0, _ => rfl
  | m + 1, h => by
    rw [sg, sg, sg_keep (by omega)]
    have : flp p b m = b m := by unfold flp; rw [if_neg (by omega)]
    rw [this]
theorem sg_flp {p : Nat} {b : Nat → Bool} : ∀ {m : Nat}, p < m → sg m (flp p b) = - sg m b
  | 0, h => absurd h (Nat.not_lt_zero _)
  | m + 1, h => by
    rw [sg, sg]
    by_cases q : p = m
    · subst q
      have : flp p b p = !b p := by unfold flp; rw [if_pos rfl]
      rw [this, sg_keep (Nat.le_refl p)]
      cases b p <;> simp
    · have : flp p b m = b m := by unfold flp; rw [if_neg (by omega)]
      rw [this, sg_flp (by omega)]
      split <;> rfl
theorem sg_zero : ∀ m, sg m (fun _ => false) = 1
  | 0 => rfl
  | m + 1 => by rw [sg, sg_zero m]; rfl
theorem sel_zero (e : Nat → Nat × Nat) : ∀ m, sel e m (fun _ => false) = []
  | 0 => rfl
  | m + 1 => by rw [sel, sel_zero e m]; rfl
/-- the sum over the turns -/
theorem blk_ss (E : Eds) (φ : Eds → Int) : ((blk E.length (fun _ => false)).map fun b => sg E.length b * φ (sel (fun i => E[i]?.getD (0, 0)) E.length b)).sum = SS φ E [] := by
  rw [blk_sum, allS_ss]
  congr 1
  apply List.ext_getElem
  · simp
  · intro i h1 h2; simp [h2]
theorem pcs_mem {n : Nat} {C C' : Eds} (h : ∀ p, p ∈ C ↔ p ∈ C') : pcs n C = pcs n C' := by
  have k : ∀ {C C' : Eds}, (∀ p, p ∈ C → p ∈ C') → ∀ {u v}, Jn C u v → Jn C' u v := fun h u v j => by
    induction j with
    | refl => exact .refl
    | step _ e ih => exact ih.step (e.imp (h _) (h _))
  exact pcs_congr fun u v => ⟨k fun p => (h p).mp, k fun p => (h p).mpr⟩
end Mine
end
section
open PySem PySem.W PySem.Calls PyProof.Rows PySem.SeqAt
set_option maxRecDepth 100000
namespace Mine
section
variable {w : World} {A : Around} {E : Value → Shared → Prop} {s : Shared} {h₀ : Heap} {L l : Addr} {m : Str → Option Value} {news l₀ : List (Addr × Obj)} {vs : List Value} {n : Nat} {t : Tok}
theorem sliceS {Q : Value → Shared → Prop} {value slice : PySem.Expr} {k : Nat} (S : St h₀ L m news s.heap) (hl : s.heap.IsList l vs.toArray) (hz : vs.length ≤ 1000000)
    (h : ∀ D s', Rest s s' → St h₀ L m ((D, lst (vs.take k) 0) :: news) s'.heap → Above news D → Q (.ref D) s')
    (hs : subscripted slice false (.ref l) (.ref s.heap.objs.size) = operate [.ref s.heap.objs.size, .ref l] (getItem (.ref l) (.ref s.heap.objs.size)) := by with_unfolding_all rfl)
    (ht : ∀ r, letTemporaryGo value (.ref l) r = pure () := by intro _; with_unfolding_all rfl) :
    wpAny (model PP w) A (subscriptTail value slice (.ref l) (.ref s.heap.objs.size)) Q E { s with heap := s.heap.push { cls := .type "slice", data := .fields #[.none, .int (k : Nat) t, .none] } } := by
  have hpick : slicePick vs.toArray none (some (k : Int)) none = (vs.take k).toArray := by
    have e : sliceBounds none (some (k : Int)) none vs.toArray.size = (((0 : Nat) : Int), ((min k vs.toArray.size : Nat) : Int), 1) := by
      simp only [sliceBounds, Option.getD_none, show (1 : Int) > 0 by decide, if_true, if_neg (show ¬ ((k : Int) < 0) by omega)]
      congr 1
      congr 1
      omega
    rw [kmk_pick_nat _ e]
    congr 1
    show (vs.drop 0).take (min k vs.toArray.size - 0) = _
    rw [List.drop_zero, Nat.sub_zero, List.size_toArray, kmk_take_min]
  refine slice_list S.F S.N hl .none (.int _ t) (fun h' F' N' => ?_) hs ht (by rw [List.size_toArray, sizeLine_eq]; omega)
  rw [hpick] at N'
  refine h _ { s with heap := h' } ⟨rfl, rfl⟩ ⟨F', N', ?_, S.low.1, fun p hp => ?_⟩ fun p hp => Nat.lt_succ_of_lt (S.lt p hp)
  · rw [List.map_cons, List.nodup_cons]
    refine ⟨fun hx => ?_, S.D⟩
    obtain ⟨p, hp, e⟩ := List.mem_map.mp hx
    have := S.lt p hp
    rw [e] at this
    exact absurd this (by show ¬ s.heap.objs.size + 1 < s.heap.objs.size; omega)
  · rcases List.mem_cons.mp hp with rfl | hp
    · exact Nat.lt_succ_of_lt (Nat.lt_trans S.low.1 S.F.ns.lt)
    · exact S.low.2 p hp
def pairAt (o : Obj) (a b : Int) : Bool := match o.data with
  | .seq xs _ => (match xs.toList with
    | [.int c _, .int d _] => decide (c = a ∧ d = b)
    | _ => false)
  | _ => false
def pairV (h : Heap) (a b : Int) : Value → Bool
  | .ref t => (match h.get? t with | some o => pairAt o a b | none => false)
  | _ => false
theorem tupInt {w : World} {h : Heap} {x : Addr} {a b : Int} {ta tb : Tok} (hx : h.get? x = some (tupO [.int a ta, .int b tb])) : IsTupleKey (intKind PP w) h [a, b] x :=
  ⟨_, _, 0, hx, rfl, rfl, .cons (intKind_is _ _ _ _) (.cons (intKind_is _ _ _ _) .nil)⟩
theorem notinTupS {Q : Value → Shared → Prop} {x el : Addr} {ec : Nat} {ets : List Addr} {es : List (Nat × Nat)} {a b : Nat} {ta tb : Tok} {l₁ : List (Addr × Obj)} {bb : Bool} (S : St h₀ L m news s.heap) (he : EdgesIn l₁ el ec ets es) (hs : ∀ p ∈ l₁, p ∈ news) (hx : (x, tupO [.int (a : Nat) ta, .int (b : Nat) tb]) ∈ news) (hb : decide ((a, b) ∈ es) = bb) (hu : A.units + 10 < cLine)
    (h : ∀ s', Rest s s' → St h₀ L m news s'.heap → Q (.bool (!bb)) s') : wpAny (model PP w) A (compareOp .NotIn (.ref x) (.ref el)) Q E s := by
  subst hb
  replace he := he.mono hs
  have hset : ∀ (k : Nat) t, ets[k]? = some t → ∃ c d, es[k]? = some (c, d) ∧ pairV s.heap a b (.ref t) = decide ((c, d) = (a, b)) ∧ EqAt A.in1 s (.ref t) (.ref x) (decide ((c, d) = (a, b))) := fun k t ht => by
    obtain ⟨c, d, tc, td, e1, e2⟩ := he.2.2 k t ht
    have hd : decide (([(c : Int), (d : Int)] : List Int) = [(a : Int), (b : Int)]) = decide ((c, d) = (a, b)) := by
      congr 1; apply propext
      simp only [List.cons.injEq, and_true, Prod.mk.injEq]
      omega
    refine ⟨c, d, e1, ?_, ?_⟩
    · show (match s.heap.get? t with | some o => pairAt o a b | none => false) = _
      rw [S.get e2]
      show decide ((c : Int) = (a : Int) ∧ (d : Int) = (b : Int)) = _
      congr 1; apply propext
      simp only [Prod.mk.injEq]
      omega
    · have ht1 := S.get e2
      have hx1 := S.get hx
      rw [← hd]
      intro prog w E Q hq
      exact wpAny_eqBool_tuple (knd := intKind prog w) (by show A.units + 1 < cLine; omega) ⟨_, _, 0, ht1, rfl, rfl, .cons (intKind_is _ _ _ _) (.cons (intKind_is _ _ _ _) .nil)⟩ ⟨_, _, 0, hx1, rfl, rfl, .cons (intKind_is _ _ _ _) (.cons (intKind_is _ _ _ _) .nil)⟩ hq
  refine notIn_listAt (pairV s.heap a b) (S.list he.1) (fun y hy => ?_) ?_
  · simp only [List.mem_toArray, List.mem_map] at hy
    obtain ⟨t, ht, rfl⟩ := hy
    obtain ⟨k, hk⟩ := List.getElem?_of_mem ht
    obtain ⟨c, d, _, e2, e3⟩ := hset k t hk
    rw [e2]; exact e3
  · have e : (ets.map Value.ref).toArray.any (pairV s.heap a b) = decide ((a, b) ∈ es) := by
      rw [List.any_toArray, List.any_map, Bool.eq_iff_iff, List.any_eq_true, decide_eq_true_iff]
      constructor
      · rintro ⟨t, ht, q⟩
        obtain ⟨k, hk⟩ := List.getElem?_of_mem ht
        obtain ⟨c, d, e1, e2, _⟩ := hset k t hk
        simp only [Function.comp] at q
        rw [e2] at q
        rw [← of_decide_eq_true q]
        exact List.mem_of_getElem? e1
      · intro hm
        obtain ⟨k, hk⟩ := List.getElem?_of_mem hm
        have hlt : k < ets.length := by rw [he.2.1]; exact (List.getElem?_eq_some_iff.mp hk).1
        obtain ⟨c, d, e1, e2, _⟩ := hset k ets[k] (by simp [hlt])
        refine ⟨ets[k], List.getElem_mem hlt, ?_⟩
        simp only [Function.comp]
        rw [e2]
        rw [hk] at e1
        rw [← Option.some.inj e1]; simp
    rw [e]
    exact h s ⟨rfl, rfl⟩ S
theorem minS {Q : Value → Shared → Prop} {a b : Nat} {ta tb : Tok} (hh : A.handled = none) (S : St h₀ L m news s.heap) (h : ∀ s' t, Rest s s' → St h₀ L m news s'.heap → Q (.int ((min a b : Nat) : Int) t) s') :
    wpAny (model PP w) A (call (.builtin "min") [.int (a : Nat) ta, .int (b : Nat) tb]) Q E s := by
  refine min_two_N hh S.F S.N fun h' tk F' N' => ?_
  have e : (if (b : Int) < (a : Int) then (b : Int) else (a : Int)) = ((min a b : Nat) : Int) := by split <;> omega
  rw [e]
  exact h { s with heap := h', toks := tk } _ ⟨rfl, rfl⟩ ⟨F', N', S.D, S.low⟩
theorem maxS {Q : Value → Shared → Prop} {a b : Nat} {ta tb : Tok} (hh : A.handled = none) (S : St h₀ L m news s.heap) (h : ∀ s' t, Rest s s' → St h₀ L m news s'.heap → Q (.int ((max a b : Nat) : Int) t) s') :
    wpAny (model PP w) A (call (.builtin "max") [.int (a : Nat) ta, .int (b : Nat) tb]) Q E s := by
  refine max_two_N hh S.F S.N fun h' tk F' N' => ?_
  have e : (if (b : Int) > (a : Int) then (b : Int) else (a : Int)) = ((max a b : Nat) : Int) := by split <;> omega
  rw [e]
  exact h { s with heap := h', toks := tk } _ ⟨rfl, rfl⟩ ⟨F', N', S.D, S.low⟩
theorem edges_push {el t : Addr} {ec ec' : Nat} {ets : List Addr} {es : List (Nat × Nat)} {a b : Nat} {ta tb : Tok} {il base : List (Addr × Obj)} (he : EdgesIn ((el, lst (ets.map .ref) ec) :: (il ++ base)) el ec ets es) :
    EdgesIn ((el, lst ((ets ++ [t]).map .ref) ec') :: (((t, tupO [.int (a : Nat) ta, .int (b : Nat) tb]) :: il) ++ base)) el ec' (ets ++ [t]) (es ++ [(a, b)]) := by
  refine ⟨.head _, by simp [he.2.1], fun k u hk => ?_⟩
  rw [getElem?_snoc] at hk
  rw [getElem?_snoc, ← he.2.1]
  by_cases e : k = ets.length
  · rw [if_pos e] at hk ⊢
    obtain rfl := Option.some.inj hk
    exact ⟨a, b, ta, tb, rfl, .tail _ (.head _)⟩
  · rw [if_neg e] at hk ⊢
    obtain ⟨c, d, tc, td, e1, e2⟩ := he.2.2 k u hk
    refine ⟨c, d, tc, td, e1, ?_⟩
    rcases List.mem_cons.mp e2 with q | q
    · exfalso
      have h2 : tupO [.int (c : Nat) tc, .int (d : Nat) td] = lst (ets.map .ref) ec := congrArg Prod.snd q
      have h3 : (Value.type "tuple" : Value) = .type "list" := congrArg Obj.cls h2
      injection h3 with h3
      exact absurd h3 (by decide)
    · exact .tail _ (.tail _ q)
theorem perm_tabs {α : Type} (x y a b c t1 t2 : α) (il : List α) : List.Perm (x :: y :: (il ++ [a, b, c, t1, t2])) (t1 :: t2 :: x :: y :: (il ++ [a, b, c])) := by
  classical exact List.perm_iff_count.mpr fun q => by simp only [List.count_append, List.count_cons]; omega
theorem St.upN {h : Heap} {x : Str} {v : Value} (S : St h₀ L m news h) (hm : m x = some v) : St h₀ L (up x (some v) m) news h := by rw [← hm, up_self]; exact S
def fdOf : Option Obj → Option (List Stmt × Scope × Str × Value)
  | some ⟨_, _, .func fd, _⟩ => (match fd.body with
    | .stmts b => some (b, fd.scope, fd.qualname, fd.code)
    | _ => none)
  | _ => none
end
end Mine
end
section
set_option autoImplicit false
open PySem
namespace Mine
def z0 : Nat → Bool := fun _ => false
def ef (es : Eds) : Nat → Nat × Nat := fun i => es[i]?.getD (0, 0)
theorem ef_at {es : Eds} {p : Nat} {x : Nat × Nat} (h : es[p]? = some x) : ef es p = x := by unfold ef; rw [h]; rfl
theorem ef_mem {es : Eds} {p : Nat} (h : p < es.length) : ef es p ∈ es := by
  rw [ef_at (List.getElem?_eq_getElem h)]; exact List.getElem_mem h
theorem ef_inj {es : Eds} (hnd : es.Nodup) {p q : Nat} (hp : p < es.length) (hq : q < es.length) (e : ef es p = ef es q) : p = q := by
  rw [ef_at (List.getElem?_eq_getElem hp), ef_at (List.getElem?_eq_getElem hq)] at e
  exact (List.getElem?_inj hp hnd).mp (by rw [List.getElem?_eq_getElem hp, List.getElem?_eq_getElem hq, e])
/-- the sum after k turns -/
noncomputable def Sm (es : Eds) (n : Nat) (q : Int) (k : Nat) : Int := (((blk es.length z0).take k).map fun b => sg es.length b * q ^ pcs n (sel (ef es) es.length b)).sum
theorem Sm_zero (es : Eds) (n : Nat) (q : Int) : Sm es n q 0 = 0 := by simp [Sm]
theorem Sm_succ {es : Eds} {n k : Nat} {q : Int} {b : Nat → Bool} (h : (blk es.length z0)[k]? = some b) : Sm es n q (k + 1) = Sm es n q k + sg es.length b * q ^ pcs n (sel (ef es) es.length b) := by
  unfold Sm; rw [List.take_add_one, h]; simp
theorem Sm_all (es : Eds) (n : Nat) (q : Int) : Sm es n q (2 ^ es.length) = SS (fun C => q ^ pcs n C) es [] := by
  unfold Sm
  rw [List.take_of_length_le (by rw [blk_len]; exact Nat.le_refl _)]
  exact blk_ss es fun C => q ^ pcs n C
theorem sg_one : ∀ (m : Nat) (b : Nat → Bool), sg m b = 1 ∨ sg m b = -1
  | 0, _ => .inl rfl
  | m + 1, b => by
    rw [sg]
    rcases sg_one m b with e | e <;> split <;> rw [e] <;> simp
theorem place_ex : ∀ (m k : Nat), 0 < k → k < 2 ^ m → ∃ p, p < m ∧ (∀ i, i < p → k / 2 ^ i % 2 = 0) ∧ k / 2 ^ p % 2 ≠ 0
  | 0, k, h0, h1 => absurd h1 (by simp; omega)
  | m + 1, k, h0, h1 => by
    by_cases h : k % 2 = 0
    · rw [Nat.pow_succ] at h1
      obtain ⟨p, a, b, c⟩ := place_ex m (k / 2) (by omega) (by omega)
      have e : ∀ i, k / 2 ^ (i + 1) = k / 2 / 2 ^ i := fun i => by rw [Nat.pow_succ, Nat.mul_comm, Nat.div_div_eq_div_mul]
      refine ⟨p + 1, by omega, fun i hi => ?_, by rw [e]; exact c⟩
      cases i with
      | zero => simpa using h
      | succ i => rw [e]; exact b i (by omega)
    · exact ⟨0, by omega, fun i hi => absurd hi (Nat.not_lt_zero _), by simpa using h⟩
theorem sel_flp {es : Eds} (hnd : es.Nodup) {p : Nat} (hp : p < es.length) {b : Nat → Bool} (x : Nat × Nat) : x ∈ sel (ef es) es.length (flp p b) ↔ (if b p = true then x ∈ sel (ef es) es.length b ∧ x ≠ ef es p else x ∈ sel (ef es) es.length b ∨ x = ef es p) := by
  rw [mem_sel, mem_sel]
  by_cases hb : b p = true
  · rw [if_pos hb]
    constructor
    · rintro ⟨i, hi, hf, rfl⟩
      unfold flp at hf
      by_cases e : i = p
      · rw [if_pos e, e, hb] at hf; cases hf
      · rw [if_neg e] at hf
        exact ⟨⟨i, hi, hf, rfl⟩, fun q => e (ef_inj hnd hi hp q)⟩
    · rintro ⟨⟨i, hi, hf, rfl⟩, hne⟩
      refine ⟨i, hi, ?_, rfl⟩
      unfold flp
      rw [if_neg (fun e => hne (by rw [e]))]; exact hf
  · rw [if_neg hb]
    constructor
    · rintro ⟨i, hi, hf, rfl⟩
      by_cases e : i = p
      · exact .inr (by rw [e])
      · unfold flp at hf
        rw [if_neg e] at hf
        exact .inl ⟨i, hi, hf, rfl⟩
    · rintro (⟨i, hi, hf, rfl⟩ | rfl)
      · refine ⟨i, hi, ?_, rfl⟩
        unfold flp
        by_cases e : i = p
        · rw [e] at hf; exact absurd hf hb
        · rw [if_neg e]; exact hf
      · exact ⟨p, hp, by unfold flp; rw [if_pos rfl]; simpa using hb, rfl⟩
theorem sel_at {es : Eds} (hnd : es.Nodup) {p : Nat} (hp : p < es.length) {b : Nat → Bool} : ef es p ∈ sel (ef es) es.length b ↔ b p = true := by
  rw [mem_sel]
  constructor
  · rintro ⟨i, hi, hf, e⟩
    rw [← ef_inj hnd hi hp e]; exact hf
  · intro h; exact ⟨p, hp, h, rfl⟩
theorem sel_in {es : Eds} {b : Nat → Bool} {x : Nat × Nat} (h : x ∈ sel (ef es) es.length b) : x ∈ es := by
  obtain ⟨i, hi, _, rfl⟩ := mem_sel.mp h
  exact ef_mem hi
section
variable {es : Eds} {n : Nat} {G : Gr} {b : Nat → Bool} {p u v : Nat}
/-- whether the edge stands -/
theorem has_at (hnd : es.Nodup) (hle : ∀ e ∈ es, e.1 ≤ e.2 ∧ e.2 < n) (hp : p < es.length) (he : ef es p = (u, v)) (hG : GrOf G (sel (ef es) es.length b)) : G.has u v ↔ b p = true := by
  rw [hG u v, ← sel_at hnd hp, he]
  refine ⟨fun h => h.elim id fun h => ?_, .inl⟩
  have h1 := (hle _ (sel_in h)).1
  have h2 := (hle _ (ef_mem hp)).1
  rw [he] at h2
  simp only at h1 h2
  have : u = v := by omega
  subst this; exact h
theorem grof_sym {E : Eds} (hG : GrOf G E) (i j : Nat) (h : G.has i j) : G.has j i := (hG j i).mpr ((hG i j).mp h).symm
theorem grof_add {x : Addr} (hnd : es.Nodup) (hp : p < es.length) (he : ef es p = (u, v)) (hG : GrOf G (sel (ef es) es.length b)) (hb : ¬ b p = true) : GrOf (G.edge u v x) (sel (ef es) es.length (flp p b)) := by
  intro i j
  rw [edge_has, hG i j, sel_flp hnd hp, sel_flp hnd hp, if_neg hb, if_neg hb, he]
  simp only [Prod.mk.injEq]
  constructor
  · rintro ((a | a) | a | a)
    · exact .inl (.inl a)
    · exact .inr (.inl a)
    · exact .inl (.inr a)
    · exact .inr (.inr ⟨a.2, a.1⟩)
  · rintro ((a | a) | a | a)
    · exact .inl (.inl a)
    · exact .inr (.inl a)
    · exact .inl (.inr a)
    · exact .inr (.inr ⟨a.2, a.1⟩)
def Gr.cut (G : Gr) (u v : Nat) : Gr := if u = v then G.set u ((G.adj u).filter fun p => decide (p.1 ≠ v)) else (G.set u ((G.adj u).filter fun p => decide (p.1 ≠ v))).set v ((G.adj v).filter fun p => decide (p.1 ≠ u))
theorem cut_adj (G : Gr) (u v i : Nat) : (G.cut u v).adj i = if i = v then (G.adj v).filter (fun p => decide (p.1 ≠ u)) else if i = u then (G.adj u).filter (fun p => decide (p.1 ≠ v)) else G.adj i := by
  unfold Gr.cut
  by_cases h : u = v
  · subst h
    rw [if_pos rfl]
    show (if i = u then _ else _) = _
    by_cases e : i = u
    · rw [if_pos e, if_pos e]
    · rw [if_neg e, if_neg e]
  · rw [if_neg h]
    show (if i = v then _ else if i = u then _ else _) = _
    rfl
theorem cut_n (G : Gr) (u v : Nat) : (G.cut u v).n = G.n := by unfold Gr.cut; split <;> rfl
theorem fst_filter (l : List (Nat × Addr)) (u j : Nat) : j ∈ (l.filter fun p => decide (p.1 ≠ u)).map (·.1) ↔ j ∈ l.map (·.1) ∧ j ≠ u := by
  simp only [List.mem_map, List.mem_filter, decide_eq_true_eq]
  constructor
  · rintro ⟨x, ⟨a, c⟩, rfl⟩; exact ⟨⟨x, a, rfl⟩, c⟩
  · rintro ⟨⟨x, a, rfl⟩, c⟩; exact ⟨x, ⟨a, c⟩, rfl⟩
theorem cut_has (G : Gr) (u v i j : Nat) : (G.cut u v).has i j ↔ G.has i j ∧ ¬ ((i = u ∧ j = v) ∨ (i = v ∧ j = u)) := by
  unfold Gr.has
  rw [cut_adj]
  by_cases h1 : i = v
  · subst h1
    rw [if_pos rfl, fst_filter]
    constructor
    · rintro ⟨a, c⟩
      exact ⟨a, fun q => q.elim (fun q => c (by rw [q.2, q.1])) fun q => c q.2⟩
    · rintro ⟨a, c⟩; exact ⟨a, fun q => c (.inr ⟨rfl, q⟩)⟩
  · rw [if_neg h1]
    by_cases h2 : i = u
    · subst h2
      rw [if_pos rfl, fst_filter]
      constructor
      · rintro ⟨a, c⟩; exact ⟨a, fun q => q.elim (fun q => c q.2) fun q => h1 q.1⟩
      · rintro ⟨a, c⟩; exact ⟨a, fun q => c (.inl ⟨rfl, q⟩)⟩
    · rw [if_neg h2]
      exact ⟨fun a => ⟨a, fun q => q.elim (fun q => h2 q.1) fun q => h1 q.1⟩, And.left⟩
theorem cut_ok (H : GOk G) (u v : Nat) (hu : u < G.n) (hv : v < G.n) : GOk (G.cut u v) := by
  have key : ∀ i, i < G.n → ((((G.cut u v).adj i).map (·.1)).Nodup ∧ ∀ p ∈ (G.cut u v).adj i, p.1 < G.n) := fun i hi => by
    rw [cut_adj]
    have f : ∀ (k w : Nat), k < G.n → (((G.adj k).filter fun p => decide (p.1 ≠ w)).map (·.1)).Nodup ∧ ∀ p ∈ (G.adj k).filter (fun p => decide (p.1 ≠ w)), p.1 < G.n := fun k w hk =>
      ⟨(List.filter_sublist.map _).nodup (H.nodup k hk), fun p hp => H.lt k hk p (List.mem_filter.mp hp).1⟩
    split
    · exact f v u hv
    · split
      · exact f u v hu
      · exact ⟨H.nodup i hi, H.lt i hi⟩
  exact ⟨fun i hi => (key i (by rw [cut_n] at hi; exact hi)).1, fun i hi => by rw [cut_n]; exact (key i (by rw [cut_n] at hi; exact hi)).2⟩
theorem grof_cut (hnd : es.Nodup) (hle : ∀ e ∈ es, e.1 ≤ e.2 ∧ e.2 < n) (hp : p < es.length) (he : ef es p = (u, v)) (hG : GrOf G (sel (ef es) es.length b)) (hb : b p = true) : GrOf (G.cut u v) (sel (ef es) es.length (flp p b)) := by
  intro i j
  rw [cut_has, hG i j, sel_flp hnd hp, sel_flp hnd hp, if_pos hb, if_pos hb, he]
  have huv := (hle _ (ef_mem hp)).1
  rw [he] at huv
  simp only [ne_eq, Prod.mk.injEq] at huv ⊢
  constructor
  · rintro ⟨a | a, c⟩
    · exact .inl ⟨a, fun q => c (.inl q)⟩
    · exact .inr ⟨a, fun q => c (.inr ⟨q.2, q.1⟩)⟩
  · rintro (⟨a, c⟩ | ⟨a, c⟩)
    · refine ⟨.inl a, ?_⟩
      rintro (q | ⟨q1, q2⟩)
      · exact c q
      · have := (hle _ (sel_in a)).1
        simp only at this
        exact c ⟨by omega, by omega⟩
    · refine ⟨.inr a, ?_⟩
      rintro (⟨q1, q2⟩ | ⟨q1, q2⟩)
      · have := (hle _ (sel_in a)).1
        simp only at this
        exact c ⟨by omega, by omega⟩
      · exact c ⟨q2, q1⟩
end
end Mine
end
section
open PySem PySem.W PySem.Calls PyProof.Rows
set_option maxRecDepth 100000
namespace Mine
def qv : Nat → Int
  | 0 => 1
  | 1 => 2
  | 2 => 3
  | _ => -1
section
variable {w : World} {A : Around} {E : Value → Shared → Prop} {s : Shared} {h₀ : Heap} {L l : Addr} {m : Str → Option Value} {news l₀ : List (Addr × Obj)} {vs : List Value} {n : Nat} {t u : Tok} {Q : Value → Shared → Prop}
theorem bits_le3 {q : Int} (hq : q.natAbs ≤ 3) : Builtin.Int.intBits q ≤ 2 := by
  have : ∀ x : Nat, x ≤ 3 → x.log2 + 1 ≤ 2 := by decide
  unfold Builtin.Int.intBits
  split
  · omega
  · exact this _ hq
theorem powQ {q : Int} {p : Nat} (hq : q.natAbs ≤ 3) (hp : p ≤ 64) (h : Q (.int (q ^ p) s.toks) { s with toks := s.toks + 1 }) : wpAny (model PP w) A (binaryOp .Pow (.int q t) (.int (p : Nat) u)) Q E s := by
  have hb := bits_le3 hq
  refine pow_int (by omega) ?_ (by rw [Int.toNat_natCast]; exact h)
  have h1 : Builtin.Int.intBits q * p ≤ 2 * 64 := Nat.mul_le_mul hb hp
  have h2 : ((Builtin.Int.intBits q * p : Nat) : Int) ≤ 128 := by omega
  rw [Int.natCast_mul] at h2
  omega
theorem pow2S {p : Nat} (hp : p ≤ 64) (h : Q (.int ((2 ^ p : Nat) : Int) s.toks) { s with toks := s.toks + 1 }) : wpAny (model PP w) A (binaryOp .Pow (.int 2 t) (.int (p : Nat) u)) Q E s := by
  refine powQ (by decide) hp ?_
  have e : ((2 ^ p : Nat) : Int) = (2 : Int) ^ p := by simp
  rw [← e]; exact h
theorem fdS {k p : Nat} (hp : p ≤ 20) (h : Q (.int ((k / 2 ^ p : Nat) : Int) s.toks) { s with toks := s.toks + 1 }) : wpAny (model PP w) A (binaryOp .FloorDiv (.int (k : Nat) t) (.int ((2 ^ p : Nat) : Int) u)) Q E s := by
  have h1 : 0 < 2 ^ p := Nat.two_pow_pos p
  have h2 : 2 ^ p ≤ 2 ^ 20 := Nat.pow_le_pow_right (by decide) hp
  refine floordiv_int (by omega) ?_ (Or.inl (PyProof.noPylong_small ?_))
  · rw [← Int.ofNat_fdiv]; exact h
  · have : (2 : Nat) ^ 20 = 1048576 := by decide
    omega
theorem mdS {x : Nat} (h : Q (.int ((x % 2 : Nat) : Int) s.toks) { s with toks := s.toks + 1 }) : wpAny (model PP w) A (binaryOp .Mod (.int (x : Nat) t) (.int 2 u)) Q E s := by
  refine mod_int' (by omega) ?_
  have e : (x : Int).fmod 2 = ((x % 2 : Nat) : Int) := by
    have := Int.ofNat_fmod x 2
    exact this.symm
  rw [e]; exact h
theorem mulSg {a b : Int} (ha : a = 1 ∨ a = -1) (h : Q (.int (a * b) s.toks) { s with toks := s.toks + 1 }) : wpAny (model PP w) A (binaryOp .Mult (.int a t) (.int b u)) Q E s := by
  refine mul_int h (IntMulOk.of_left ?_)
  have : Builtin.Int.intBits a ≤ 2 := bits_le3 (by rcases ha with rfl | rfl <;> decide)
  omega
theorem subLit {value slice : PySem.Expr} {t1 t2 t3 t4 : Tok} {j : Nat} (_h0 : (l, lst [.int 1 t1, .int 2 t2, .int 3 t3, .int (-1) t4] n) ∈ l₀) (S : St h₀ L m news s.heap) (hm : (l, lst [.int 1 t1, .int 2 t2, .int 3 t3, .int (-1) t4] n) ∈ news) (hj : j < 4) (h : ∀ t, Q (.int (qv j) t) s)
    (hs : subscripted slice false (.ref l) (.int (j : Nat) u) = operate [.ref l, .int (j : Nat) u] (getItem (.ref l) (.int (j : Nat) u)) := by with_unfolding_all rfl) :
    wpAny (model PP w) A (subscriptTail value slice (.ref l) (.int (j : Nat) u)) Q E s := by
  have : j = 0 ∨ j = 1 ∨ j = 2 ∨ j = 3 := by omega
  rcases this with rfl | rfl | rfl | rfl
  · exact subL _h0 S hm (v := .int 1 t1) rfl (by omega) (by omega) (h t1) hs
  · exact subL _h0 S hm (v := .int 2 t2) rfl (by omega) (by omega) (h t2) hs
  · exact subL _h0 S hm (v := .int 3 t3) rfl (by omega) (by omega) (h t3) hs
  · exact subL _h0 S hm (v := .int (-1) t4) rfl (by omega) (by omega) (h t4) hs
theorem qv_le (j : Nat) : (qv j).natAbs ≤ 3 := by
  match j with
  | 0 => decide
  | 1 => decide
  | 2 => decide
  | j + 3 => show (-1 : Int).natAbs ≤ 3; decide
/-- four numbers in a list -/
def Four (vs : List Value) (f : Nat → Int) : Prop := vs.length = 4 ∧ ∀ j, j < 4 → ∃ t, vs[j]? = some (.int (f j) t)
theorem Four.set {f : Nat → Int} (h : Four vs f) {j : Nat} (hj : j < 4) (x : Int) (t : Tok) : Four (vs.set j (.int x t)) (fun i => if i = j then x else f i) := by
  refine ⟨by rw [List.length_set]; exact h.1, fun i hi => ?_⟩
  rw [List.getElem?_set]
  by_cases e : j = i
  · rw [if_pos e, if_pos (by rw [h.1]; omega)]
    exact ⟨t, by simp only; rw [if_pos e.symm]⟩
  · rw [if_neg e]
    obtain ⟨t', q⟩ := h.2 i hi
    exact ⟨t', by simp only; rw [if_neg fun z => e z.symm]; exact q⟩
theorem Four.congr {f g : Nat → Int} (h : Four vs f) (e : ∀ j, j < 4 → f j = g j) : Four vs g := ⟨h.1, fun j hj => by rw [← e j hj]; exact h.2 j hj⟩
theorem Four.ints {f : Nat → Int} (h : Four vs f) : IntsAre vs [f 0, f 1, f 2, f 3] := by
  obtain ⟨hl, ha⟩ := h
  match vs, hl with
  | [a, b, c, d], _ =>
    obtain ⟨t0, e0⟩ := ha 0 (by omega)
    obtain ⟨t1, e1⟩ := ha 1 (by omega)
    obtain ⟨t2, e2⟩ := ha 2 (by omega)
    obtain ⟨t3, e3⟩ := ha 3 (by omega)
    obtain rfl := Option.some.inj e0
    obtain rfl := Option.some.inj e1
    obtain rfl := Option.some.inj e2
    obtain rfl := Option.some.inj e3
    exact .cons _ _ (.cons _ _ (.cons _ _ (.cons _ _ .nil)))
theorem perm_num {α : Type} (x y t : α) (gl r : List α) : List.Perm (x :: y :: (gl ++ t :: r)) (gl ++ t :: x :: y :: r) := by
  classical exact List.perm_iff_count.mpr fun q => by simp only [List.count_append, List.count_cons]; omega
theorem pcs_le (n : Nat) (C : Eds) : pcs n C ≤ n := by
  unfold pcs
  have := List.length_filter_le (fun i => @decide (Lw C i) (Classical.propDecidable _)) (List.range n)
  rwa [List.length_range] at this
end
end Mine
end
section
open PySem PySem.W PySem.Calls PyProof.Rows
set_option maxRecDepth 100000
namespace Mine
section
variable {es : List (Nat × Nat)} {n : Nat}
theorem inR_of (hle : ∀ e ∈ es, e.1 ≤ e.2 ∧ e.2 < n) : InR n es := fun p hp => ⟨by have := hle p hp; omega, (hle p hp).2⟩
theorem Sm_q (hle : ∀ e ∈ es, e.1 ≤ e.2 ∧ e.2 < n) {j : Nat} (hj : j < 3) : Sm es n (qv j) (2 ^ es.length) = ((cols es (j + 1) n [] : Nat) : Int) := by
  rw [Sm_all, cols_nc (inR_of hle) fun p hp => (hle p hp).1, ← ss_q (inR_of hle)]
  have : qv j = ((j + 1 : Nat) : Int) := by
    have : j = 0 ∨ j = 1 ∨ j = 2 := by omega
    rcases this with rfl | rfl | rfl <;> rfl
  rw [this]
theorem Sm_bip (hle : ∀ e ∈ es, e.1 ≤ e.2 ∧ e.2 < n) {G : Gr} (hG : GrOf G es) (hn : G.n = n) (hb : Bip G) : Sm es n (qv 1) (2 ^ es.length) = ((2 ^ pcs n es : Nat) : Int) := by
  rw [Sm_q hle (by omega), cols_nc (inR_of hle) fun p hp => (hle p hp).1]
  obtain ⟨f, hf⟩ := (bip_iff hG (by rw [hn]; exact inR_of hle)).mpr hb
  rw [two_col (inR_of hle) hf]
theorem Sm_nobip (hle : ∀ e ∈ es, e.1 ≤ e.2 ∧ e.2 < n) {G : Gr} (hG : GrOf G es) (hn : G.n = n) (hb : ¬ Bip G) : Sm es n (qv 1) (2 ^ es.length) = 0 := by
  rw [Sm_q hle (by omega), cols_nc (inR_of hle) fun p hp => (hle p hp).1]
  rw [no_col (inR_of hle) fun h => hb ((bip_iff hG (by rw [hn]; exact inR_of hle)).mp h)]; rfl
theorem Sm_dirs (hle : ∀ e ∈ es, e.1 ≤ e.2 ∧ e.2 < n) : Sm es n (qv 3) (2 ^ es.length) * (-1) ^ n = ((dirs n es : Nat) : Int) := by
  rw [Sm_all, dirs_acy (inR_of hle)]
  exact ss_dirs (inR_of hle)
theorem neg_pow (n : Nat) : (-1 : Int) ^ n = 1 ∨ (-1 : Int) ^ n = -1 := by
  induction n with
  | zero => exact .inl rfl
  | succ n ih => rw [Int.pow_succ]; rcases ih with e | e <;> rw [e] <;> simp
theorem grof_empty (n : Nat) : GrOf (emptyG n) (sel (ef es) es.length z0) := fun i j => by
  rw [show sel (ef es) es.length z0 = [] from sel_zero _ _]
  constructor
  · intro h; simp [Gr.has, emptyG] at h
  · rintro (h | h) <;> cases h
theorem gok_empty (n : Nat) : GOk (emptyG n) := ⟨fun i _ => by simp [emptyG], fun i _ p hp => by simp [emptyG] at hp⟩
theorem grof_full {G G' : Gr} {b : Nat → Bool} (hG : GrOf G (sel (ef es) es.length b)) (h : ∀ i j, G'.has i j ↔ G.has i j ∨ ∃ e ∈ es, (i = e.1 ∧ j = e.2) ∨ (i = e.2 ∧ j = e.1)) : GrOf G' es := fun i j => by
  rw [h, hG]
  constructor
  · rintro ((a | a) | ⟨e, he, ⟨rfl, rfl⟩ | ⟨rfl, rfl⟩⟩)
    · exact .inl (sel_in a)
    · exact .inr (sel_in a)
    · exact .inl he
    · exact .inr he
  · rintro (a | a)
    · exact .inr ⟨_, a, .inl ⟨rfl, rfl⟩⟩
    · exact .inr ⟨_, a, .inr ⟨rfl, rfl⟩⟩
end
section
variable {w : World} {A : Around} {E : Value → Shared → Prop} {s : Shared} {Q : Value → Shared → Prop} {t u : Tok}
theorem mulR {a b : Int} (hb : b = 1 ∨ b = -1) (h : Q (.int (a * b) s.toks) { s with toks := s.toks + 1 }) : wpAny (model PP w) A (binaryOp .Mult (.int a t) (.int b u)) Q E s := by
  refine mul_int h (IntMulOk.of_right ?_)
  have : Builtin.Int.intBits b ≤ 2 := bits_le3 (by rcases hb with rfl | rfl <;> decide)
  omega
end
theorem perm_bip {α : Type} (x a t : α) (gl r : List α) : List.Perm (x :: (gl ++ a :: t :: r)) (gl ++ t :: x :: a :: r) := by
  classical exact List.perm_iff_count.mpr fun q => by simp only [List.count_append, List.count_cons]; omega
theorem perm_one {α : Type} (x t : α) (gl r : List α) : List.Perm (x :: (gl ++ t :: r)) (gl ++ t :: x :: r) := by
  classical exact List.perm_iff_count.mpr fun q => by simp only [List.count_append, List.count_cons]; omega
theorem perm_end {α : Type} (x a b : α) (gl r : List α) : List.Perm (x :: (gl ++ a :: b :: r)) (a :: b :: x :: (gl ++ r)) := by
  classical exact List.perm_iff_count.mpr fun q => by simp only [List.count_append, List.count_cons]; omega
end Mine
end
section
open PySem PySem.W PySem.Calls PyProof.Rows
set_option maxRecDepth 100000
namespace Mine

local macro_rules | `(tactic| tb_start) => `(tactic| first | with_reducible assumption | with_reducible exact Ne.symm (by assumption) | (refine' fresh_ne ?l ?h0 ?h; (case l => with_reducible assumption); (case h0 => with_reducible assumption); (case h => tb_rel)) | (refine' Ne.symm (fresh_ne ?l ?h0 ?h); (case l => with_reducible assumption); (case h0 => with_reducible assumption); (case h => tb_rel)))
local macro_rules | `(tactic| tb_rel) => `(tactic| first | with_reducible assumption | with_reducible exact List.mem_cons_self | (with_reducible refine List.mem_cons_of_mem _ ?_; tb_rel) | (with_reducible refine mem_put_self (o := ?oo) ?hh; case hh => tb_rel) | (with_reducible refine mem_put_ne ?h1 ?h2; (case h1 => tb_rel); (case h2 => tb_start)) | (with_reducible refine List.mem_append_left _ ?_; tb_rel) | (with_reducible refine List.mem_append_right _ ?_; tb_rel))
local macro_rules | `(tactic| k_mem) => `(tactic| tb_rel)
local macro_rules | `(tactic| walk_at "compareOp In int ref") => `(tactic| (k_here; (with_reducible rename St _ _ _ _ _ => kS); (with_reducible rename Rest _ _ => kR); k_dflt (refine' in_D (knd := intKind PP _) ?h0 kS ?hm ?hd ?hk ?hv ?_; (case h0 => with_reducible assumption); (case hm => tb_rel); (case hd => first | with_reducible assumption | with_reducible exact isDict_nil _); (case hk => exact intKind_is _ _ _ _); (case hv => first | with_reducible assumption | with_reducible exact isSome_node _ (by assumption) | with_reducible exact isSome_node_none _ (by assumption) | with_reducible exact valueAt_adjS _ _)); (intro s' hr' kS'); (have kR' := Rest.comp kR hr'); clear kS kR hr'; (have kF := kS'.F); (have kN := kS'.N); (try k_sweep)))
local macro_rules | `(tactic| walk_at "compareOp NotIn int ref") => `(tactic| (k_here; (with_reducible rename St _ _ _ _ _ => kS); (with_reducible rename Rest _ _ => kR); k_dflt (refine' notin_D (knd := intKind PP _) ?h0 kS ?hm ?hd ?hk ?hv ?_; (case h0 => with_reducible assumption); (case hm => tb_rel); (case hd => first | with_reducible assumption | with_reducible exact isDict_nil _); (case hk => exact intKind_is _ _ _ _); (case hv => first | with_reducible assumption | with_reducible exact isSome_node _ (by assumption) | with_reducible exact isSome_node_none _ (by assumption) | with_reducible exact valueAt_adjS _ _)); (intro s' hr' kS'); (have kR' := Rest.comp kR hr'); clear kS kR hr'; (have kF := kS'.F); (have kN := kS'.N); (try k_sweep)))
local macro_rules | `(tactic| walk_at "subscriptTail Name Name ref int") => `(tactic| (k_here; (with_reducible show wpAny _ _ (subscriptTail _ _ (Value.ref _) (Value.int _ _)) _ _ _); (with_reducible rename St _ _ _ _ _ => kS); (with_reducible rename Rest _ _ => kR); k_dflt (refine' sub_D (knd := intKind PP _) ?h0 kS ?hm ?hd ?hk ?hv ?_; (case h0 => with_reducible assumption); (case hm => tb_rel); (case hd => first | with_reducible assumption | with_reducible exact isDict_nil _); (case hk => exact intKind_is _ _ _ _); (case hv => first | with_reducible assumption | with_reducible exact valueAt_node _ (by assumption) | with_reducible exact valueAt_stored _ _ _)); (intro s' hr' kS'); (have kR' := Rest.comp kR hr'); clear kS kR hr'; (have kF := kS'.F); (have kN := kS'.N); (try k_sweep)))
local macro_rules | `(tactic| walk_at "subscriptTail Attribute Name Name ref int") => `(tactic| (k_here; (with_reducible show wpAny _ _ (subscriptTail _ _ (Value.ref _) (Value.int _ _)) _ _ _); (with_reducible rename St _ _ _ _ _ => kS); (with_reducible rename Rest _ _ => kR); k_dflt (refine' sub_D (knd := intKind PP _) ?h0 kS ?hm ?hd ?hk ?hv ?_; (case h0 => with_reducible assumption); (case hm => tb_rel); (case hd => first | with_reducible assumption | with_reducible exact isDict_nil _); (case hk => exact intKind_is _ _ _ _); (case hv => first | with_reducible assumption | with_reducible exact valueAt_node _ (by assumption) | with_reducible exact valueAt_stored _ _ _)); (intro s' hr' kS'); (have kR' := Rest.comp kR hr'); clear kS kR hr'; (have kF := kS'.F); (have kN := kS'.N); (try k_sweep)))
local macro_rules | `(tactic| walk_at "subscriptTail Subscript Attribute Name Name ref int") => `(tactic| (k_here; (with_reducible show wpAny _ _ (subscriptTail _ _ (Value.ref _) (Value.int _ _)) _ _ _); (with_reducible rename St _ _ _ _ _ => kS); (with_reducible rename Rest _ _ => kR); k_dflt (refine' sub_D (knd := intKind PP _) ?h0 kS ?hm ?hd ?hk ?hv ?_; (case h0 => with_reducible assumption); (case hm => tb_rel); (case hd => first | with_reducible assumption | with_reducible exact isDict_nil _); (case hk => exact intKind_is _ _ _ _); (case hv => first | with_reducible assumption | with_reducible exact valueAt_node _ (by assumption) | with_reducible exact valueAt_stored _ _ _)); (intro s' hr' kS'); (have kR' := Rest.comp kR hr'); clear kS kR hr'; (have kF := kS'.F); (have kN := kS'.N); (try k_sweep)))
local macro_rules | `(tactic| walk_at "subscriptTail Subscript Name ref int") => `(tactic| (k_here; (with_reducible show wpAny _ _ (subscriptTail _ _ (Value.ref _) (Value.int _ _)) _ _ _); (with_reducible rename St _ _ _ _ _ => kS); (with_reducible rename Rest _ _ => kR); k_dflt (refine' sub_D (knd := intKind PP _) ?h0 kS ?hm ?hd ?hk ?hv ?_; (case h0 => with_reducible assumption); (case hm => tb_rel); (case hd => first | with_reducible assumption | with_reducible exact isDict_nil _); (case hk => exact intKind_is _ _ _ _); (case hv => first | with_reducible assumption | with_reducible exact valueAt_node _ (by assumption) | with_reducible exact valueAt_stored _ _ _)); (intro s' hr' kS'); (have kR' := Rest.comp kR hr'); clear kS kR hr'; (have kF := kS'.F); (have kN := kS'.N); (try k_sweep)))
local macro_rules | `(tactic| walk_at "storeName") => `(tactic| (k_here; (with_reducible rename St _ _ _ _ _ => kS); (with_reducible rename Rest _ _ => kR); k_dflt (refine' storeS kS ?_ ?h1 ?h2 ?h3; (case h1 => exact rfl); (case h2 => exact rfl); (case h3 => exact rfl)); (intro s' hr' kS'); (have kR' := Rest.comp kR hr'); clear kS kR hr'; (have kF := kS'.F); (have kN := kS'.N); (try k_sweep)))
local macro_rules | `(tactic| walk_at "eval Dict nil nil") => `(tactic| (k_here; (with_reducible rename St _ _ _ _ _ => kS); (with_reducible rename Rest _ _ => kR); k_dflt (refine' dictS kS ?_); (intro d' s' hr' kS' l1); (have hm' := cons_mem kS'); (have kR' := Rest.comp kR hr'); clear kS kR hr'; (have kF := kS'.F); (have kN := kS'.N); (try k_sweep)))
local macro_rules | `(tactic| walk_at "setItem ref int ref") => `(tactic| (k_here; (with_reducible rename St _ _ _ _ _ => kS); (with_reducible rename Rest _ _ => kR); k_dflt (refine' set_D (knd := intKind PP _) ?h0 kS ?hm ?hd ?hk ?hz ?_; (case h0 => with_reducible assumption); (case hm => tb_rel); (case hd => first | with_reducible assumption | with_reducible exact isDict_nil _); (case hk => exact intKind_is _ _ _ _); (case hz => first | with_reducible assumption | exact Nat.le_of_ble_eq_true rfl)); (intro s' o' hr' kS' hd' hm'); (have kR' := Rest.comp kR hr'); clear kS kR hr'; (have kF := kS'.F); (have kN := kS'.N); (try k_sweep)))
local macro_rules | `(tactic| walk_at "delItem ref") => `(tactic| (k_here; (with_reducible rename St _ _ _ _ _ => kS); (with_reducible rename Rest _ _ => kR); k_dflt (refine' del_D (knd := intKind PP _) ?h0 kS ?hm ?hd ?hk ?hz ?hl ?_; (case h0 => with_reducible assumption); (case hm => tb_rel); (case hd => first | with_reducible assumption | with_reducible exact isDict_nil _); (case hk => exact intKind_is _ _ _ _); (case hz => with_reducible assumption); (case hl => with_reducible assumption)); (intro s' o' hr' kS' hd' hm'); (have kR' := Rest.comp kR hr'); clear kS kR hr'; (have kF := kS'.F); (have kN := kS'.N); (try k_sweep)))
local macro_rules | `(tactic| walk_at "call builtin:dict.update") => `(tactic| (k_here; (with_reducible rename St _ _ _ _ _ => kS); (with_reducible rename Rest _ _ => kR); k_dflt (refine' update_nil (knd := strKind PP _) (knd' := strKind PP _) ?h0 ?h1 kS ?hm ?hd ?hme ?he ?hde ?_; (case h0 => with_reducible assumption); (case h1 => with_reducible assumption); (case hm => tb_rel); (case hd => first | with_reducible assumption | with_reducible exact isDict_nil _); (case hme => tb_rel); (case he => first | with_reducible assumption | with_reducible exact isDict_nil _); (case hde => tb_start)); (intro s' hr' kS'); (have kR' := Rest.comp kR hr'); clear kS kR hr'; (have kF := kS'.F); (have kN := kS'.N); (try k_sweep)))
local macro_rules | `(tactic| walk_at "call builtin:dict.get") => `(tactic| (k_here; (with_reducible show wpAny _ _ (call _ [_, _, _]) _ _ _); (with_reducible rename St _ _ _ _ _ => kS); (with_reducible rename Rest _ _ => kR); k_dflt (refine' get2_D (knd := intKind PP _) ?h0 kS ?hm ?hd ?hk ?hv ?_; (case h0 => with_reducible assumption); (case hm => tb_rel); (case hd => first | with_reducible assumption | with_reducible exact isDict_nil _); (case hk => exact intKind_is _ _ _ _); (case hv => first | exact getD_of_none (by assumption) | exact getD_of_some (by assumption))); (intro s' hr' kS'); (have kR' := Rest.comp kR hr'); clear kS kR hr'; (have kF := kS'.F); (have kN := kS'.N); (try k_sweep)))
local macro_rules | `(tactic| walk_at "getMethod ref") => `(tactic| (k_here; k_dflt (first
  | ((with_reducible show wpAny _ _ (getMethod (Value.ref _) (Str.ofString "update") _) _ _ _); refine' getM_DU (knd := strKind PP _) ?h0 ?S ?hm ?hd ?_; (case h0 => with_reducible assumption); (case S => assumption); (case hm => tb_rel); (case hd => first | with_reducible assumption | with_reducible exact isDict_nil _))
  | ((with_reducible show wpAny _ _ (getMethod (Value.ref _) (Str.ofString "get") _) _ _ _); refine' getM_DG (knd := intKind PP _) ?h0 ?S ?hm ?hd ?_; (case h0 => with_reducible assumption); (case S => assumption); (case hm => tb_rel); (case hd => first | with_reducible assumption | with_reducible exact isDict_nil _)))))
local macro_rules | `(tactic| walk_at "LeaveK") => `(tactic| ((with_reducible rename St _ _ _ _ _ => kS); (refine leaveS (by assumption) kS ?_); (intro kS'); clear kS; (try dsimp only)))
local macro_rules | `(tactic| walk_at "newTuple") => `(tactic| (k_here; (with_reducible rename St _ _ _ _ _ => kS); (with_reducible rename Rest _ _ => kR); k_dflt (refine' tupS kS ?_ ?hz; (case hz => size_fits)); (intro t' s' hr' kS' l1); (have hm' := cons_mem kS'); (have kR' := Rest.comp kR hr'); clear kS kR hr'; (have kF := kS'.F); (have kN := kS'.N); (try k_sweep)))
local macro_rules | `(tactic| walk_at "newList") => `(tactic| (k_here; (with_reducible rename St _ _ _ _ _ => kS); (with_reducible rename Rest _ _ => kR); k_dflt (refine' listS kS ?_ ?hz; (case hz => size_fits)); (intro t' s' hr' kS' l1); (have hm' := cons_mem kS'); (have kR' := Rest.comp kR hr'); clear kS kR hr'; (have kF := kS'.F); (have kN := kS'.N); (try k_sweep)))
local macro_rules | `(tactic| walk_at "unpackItems ref") => `(tactic| (k_here; (with_reducible rename Cx _ _ _ _ _ => kC); (with_reducible rename St _ _ _ _ _ => kS); (with_reducible rename Rest _ _ => kR); k_dflt (refine' unpackS ?h0 kS ?hm (Cx.hh kC) ?hn ?_; (case h0 => with_reducible assumption); (case hm => tb_rel); (case hn => exact rfl)); (intro s' hr' kS'); (have kR' := Rest.comp kR hr'); clear kS kR hr'; (have kF := kS'.F); (have kN := kS'.N); (try k_sweep)))
local macro_rules | `(tactic| walk_at "compareOp NotEq int int") => `(tactic| first | with_reducible refine ne_int_t (by with_reducible assumption) ?_ | with_reducible refine ne_int_f (by with_reducible assumption) ?_)
local macro_rules | `(tactic| walk_at "compareOp Eq int int") => `(tactic| first | with_reducible refine eq_int_t (by with_reducible assumption) ?_ | with_reducible refine eq_int_f (by with_reducible assumption) ?_)
local macro_rules | `(tactic| walk_at "setAttr ref") => `(tactic| (k_here; (with_reducible rename Cx _ _ _ _ _ => kC); (with_reducible rename St _ _ _ _ _ => kS); (with_reducible rename Rest _ _ => kR); k_dflt (refine' setAttrS kC kS ?h1 ?h2 ?k6 ?k7 ?k8 ?k9 ?k10 ?k11 ?k13 ?_; (case h1 => tb_rel); (case h2 => tb_rel); (case k6 => k_is); (case k7 => k_is); (case k8 => k_is); (case k9 => k_is); (case k10 => k_get); (case k11 => k_put); (case k13 => exact Nat.le_of_ble_eq_true rfl)); (intro s' hr' kS' hm'); (have kR' := Rest.comp kR hr'); clear kS kR hr'; (have kF := kS'.F); (have kN := kS'.N); (try k_sweep)))

local macro_rules | `(tactic| walk_at "subscriptTail Name BinOp ref int") => `(tactic| (k_here; (with_reducible rename St _ _ _ _ _ => kS); k_dflt (refine' subL ?h0 kS ?hm ?hx ?hn ?hh ?_; (case h0 => with_reducible assumption); (case hm => tb_rel); (case hx => first | with_reducible assumption | exact rfl); (case hn => first | decide | omega); (case hh => first | decide | omega))))
local macro_rules | `(tactic| walk_at "subscriptTail Name Constant ref int") => `(tactic| (k_here; (with_reducible rename St _ _ _ _ _ => kS); k_dflt (refine' subL ?h0 kS ?hm ?hx ?hn ?hh ?_; (case h0 => with_reducible assumption); (case hm => tb_rel); (case hx => first | with_reducible assumption | exact rfl); (case hn => first | decide | omega); (case hh => first | decide | omega))))
local macro_rules | `(tactic| walk_at "subscriptTail Name Name ref int") => `(tactic| (k_here; (with_reducible rename St _ _ _ _ _ => kS); k_dflt (refine' subL ?h0 kS ?hm ?hx ?hn ?hh ?_; (case h0 => with_reducible assumption); (case hm => tb_rel); (case hx => first | with_reducible assumption | exact rfl); (case hn => first | decide | omega); (case hh => first | decide | omega))))
local macro_rules | `(tactic| walk_at "subscriptTail Subscript Name Constant ref int") => `(tactic| (k_here; (with_reducible rename St _ _ _ _ _ => kS); k_dflt (refine' subL ?h0 kS ?hm ?hx ?hn ?hh ?_; (case h0 => with_reducible assumption); (case hm => tb_rel); (case hx => first | with_reducible assumption | exact rfl); (case hn => first | decide | omega); (case hh => first | decide | omega))))
local macro_rules | `(tactic| walk_at "subscriptTail Subscript Name Constant BinOp ref int") => `(tactic| (k_here; (with_reducible rename St _ _ _ _ _ => kS); k_dflt (refine' subL ?h0 kS ?hm ?hx ?hn ?hh ?_; (case h0 => with_reducible assumption); (case hm => tb_rel); (case hx => first | with_reducible assumption | exact rfl); (case hn => first | decide | omega); (case hh => first | decide | omega))))
local macro_rules | `(tactic| walk_at "subscriptTail Subscript Name Name ref int") => `(tactic| (k_here; (with_reducible rename St _ _ _ _ _ => kS); k_dflt (refine' subL ?h0 kS ?hm ?hx ?hn ?hh ?_; (case h0 => with_reducible assumption); (case hm => tb_rel); (case hx => first | with_reducible assumption | exact rfl); (case hn => first | decide | omega); (case hh => first | decide | omega))))
local macro_rules | `(tactic| walk_at "subscriptTail List Name ref int") => `(tactic| (k_here; (with_reducible rename St _ _ _ _ _ => kS); k_dflt (refine' subL ?h0 kS ?hm ?hx ?hn ?hh ?_; (case h0 => with_reducible assumption); (case hm => tb_rel); (case hx => first | with_reducible assumption | exact rfl); (case hn => first | decide | omega); (case hh => first | decide | omega))))
local macro_rules | `(tactic| walk_at "subscriptTail List cons Name ref int") => `(tactic| (k_here; (with_reducible rename St _ _ _ _ _ => kS); k_dflt (refine' subL ?h0 kS ?hm ?hx ?hn ?hh ?_; (case h0 => with_reducible assumption); (case hm => tb_rel); (case hx => first | with_reducible assumption | exact rfl); (case hn => first | decide | omega); (case hh => first | decide | omega))))
local macro_rules | `(tactic| walk_at "subscriptTail Subscript Name BinOp ref int") => `(tactic| (k_here; (with_reducible rename St _ _ _ _ _ => kS); k_dflt (refine' subL ?h0 kS ?hm ?hx ?hn ?hh ?_; (case h0 => with_reducible assumption); (case hm => tb_rel); (case hx => first | with_reducible assumption | exact rfl); (case hn => first | decide | omega); (case hh => first | decide | omega))))
local macro_rules | `(tactic| walk_at "getItem ref int") => `(tactic| (k_here; (with_reducible rename St _ _ _ _ _ => kS); k_dflt (refine' getL ?h0 kS ?hm ?hx ?hn ?hh ?_; (case h0 => with_reducible assumption); (case hm => tb_rel); (case hx => first | with_reducible assumption | exact rfl); (case hn => first | decide | omega); (case hh => first | decide | omega))))
local macro_rules | `(tactic| walk_at "setItem ref int int") => `(tactic| (k_here; (with_reducible rename St _ _ _ _ _ => kS); (with_reducible rename Rest _ _ => kR); k_dflt (refine' setL ?h0 kS ?hm ?hn ?hh ?hk ?hv ?_; (case h0 => with_reducible assumption); (case hm => tb_rel); (case hn => first | decide | omega); (case hh => first | decide | omega); (case hk => first | decide | (simp; done) | (simp; omega)); (case hv => first | (simp only [Int.toNat_one, Int.toNat_zero, Int.toNat_natCast, List.set_cons_succ, List.set_cons_zero]; exact rfl) | exact rfl)); (intro s' hr' kS' hm'); (have kR' := Rest.comp kR hr'); clear kS kR hr'; (have kF := kS'.F); (have kN := kS'.N); (try k_sweep)))
local macro_rules | `(tactic| walk_at "call builtin:len") => `(tactic| (k_here; (with_reducible rename St _ _ _ _ _ => kS); (with_reducible rename Rest _ _ => kR); k_dflt (refine' lenListS ?h0 kS ?hm ?hz ?_; (case h0 => with_reducible assumption); (case hm => tb_rel); (case hz => first | with_reducible assumption | omega)); (intro s' t' hr' kS'); (have kR' := Rest.comp kR hr'); clear kS kR hr'; (have kF := kS'.F); (have kN := kS'.N); (try k_sweep)))

local macro_rules | `(tactic| walk_at "eval Name") => `(tactic| (k_here; (with_reducible rename Cx _ _ _ _ _ => kC); (with_reducible rename St _ _ _ _ _ => kS); k_dflt (first
  | (refine' nmL kS ?hv ?_ ?hk ?hx ?hL ?hd; (case hx => exact rfl); (case hk => exact rfl); (case hL => exact rfl); (case hd => decide); (case hv => first | with_reducible assumption | exact rfl))
  | (refine' nmC kS ?hc ?hm ?hd ?_ ?hk ?hx ?hb; (case hx => exact rfl); (case hk => exact rfl); (case hb => decide); (case hc => exact rfl); (case hm => tb_rel); (case hd => with_reducible assumption))
  | (refine' nmF kS ?hc ?hm ?hd ?_ ?hk ?hx ?hb ?hn; (case hx => exact rfl); (case hk => exact rfl); (case hb => decide); (case hn => decide); (case hc => exact rfl); (case hm => tb_rel); (case hd => with_reducible assumption))
  | (refine' nmB kC kS ?he ?hv ?hn ?_ ?hg ?hbb ?hx ?hd; (case hx => exact rfl); (case he => exact rfl); (case hg => exact rfl); (case hbb => exact rfl); (case hd => decide); (case hv => first | boot_fast | exact rfl); (case hn => decide))
  | (refine' nmG kC kS ?he ?_ ?hg ?hx ?hd; (case hx => exact rfl); (case he => exact rfl); (case hg => exact rfl); (case hd => decide)))))
local macro_rules | `(tactic| walk_at "binaryOp Add ref ref") => `(tactic| (k_here; (with_reducible rename St _ _ _ _ _ => kS); (with_reducible rename Rest _ _ => kR); k_dflt (refine' addLS ?h0 ?h1 kS ?hm ?hn ?hz ?_; (case h0 => with_reducible assumption); (case h1 => with_reducible assumption); (case hm => tb_rel); (case hn => tb_rel); (case hz => first | with_reducible assumption | (simp only [List.length_cons, List.length_nil]; omega))); (intro t' s' hr' kS' l1); (have hm' := cons_mem kS'); (have kR' := Rest.comp kR hr'); clear kS kR hr'; (have kF := kS'.F); (have kN := kS'.N); (try k_sweep)))
local macro_rules | `(tactic| walk_at "storeName") => `(tactic| (k_here; (with_reducible rename St _ _ _ _ _ => kS); (with_reducible rename Rest _ _ => kR); k_dflt (refine' storeC kS ?hc ?hm ?hd ?_ ?hk ?hx; (case hx => exact rfl); (case hk => exact rfl); (case hc => exact rfl); (case hm => tb_rel); (case hd => with_reducible assumption)); (intro s' o' hr' kS' hd' hm'); (have kR' := Rest.comp kR hr'); clear kS kR hr'; (have kF := kS'.F); (have kN := kS'.N); (try k_sweep)))
local macro_rules | `(tactic| walk_at "call builtin:all") => `(tactic| (k_here; (with_reducible rename Cx _ _ _ _ _ => kC); (with_reducible rename St _ _ _ _ _ => kS); (with_reducible rename Rest _ _ => kR); k_dflt (refine' allBools (Cx.hh kC) ?h0 kS ?hm ?_; (case h0 => with_reducible assumption); (case hm => tb_rel)); (intro s' hr' kS'); (have kR' := Rest.comp kR hr'); clear kS kR hr'; (have kF := kS'.F); (have kN := kS'.N); (try k_sweep)))
local macro_rules | `(tactic| walk_at "call builtin:any") => `(tactic| (k_here; (with_reducible rename Cx _ _ _ _ _ => kC); (with_reducible rename St _ _ _ _ _ => kS); (with_reducible rename Rest _ _ => kR); k_dflt (refine' anyBools (Cx.hh kC) ?h0 kS ?hm ?_; (case h0 => with_reducible assumption); (case hm => tb_rel)); (intro s' hr' kS'); (have kR' := Rest.comp kR hr'); clear kS kR hr'; (have kF := kS'.F); (have kN := kS'.N); (try k_sweep)))
local macro_rules | `(tactic| walk_at "call type:range") => `(tactic| (k_here; (with_reducible rename St _ _ _ _ _ => kS); (with_reducible rename Rest _ _ => kR); k_dflt (first | refine' rangeS1 kS ?_ | refine' rangeS2 kS ?_); (intro r' t1' t2' t3' s' hr' kS' l1); (have hm' := cons_mem kS'); (have kR' := Rest.comp kR hr'); clear kS kR hr'; (have kF := kS'.F); (have kN := kS'.N); (try k_sweep)))
local macro_rules | `(tactic| walk_at "loadName") => `(tactic| (k_here; (with_reducible rename St _ _ _ _ _ => kS); k_dflt (refine' ldL kS ?hv ?_ ?hk ?hx ?hL; (case hx => exact rfl); (case hk => exact rfl); (case hL => exact rfl); (case hv => first | with_reducible assumption | exact rfl))))

local macro_rules | `(tactic| walk_at "assign Tuple cons ref") => `(tactic| (k_here; (with_reducible rename Cx _ _ _ _ _ => kC); (with_reducible rename St _ _ _ _ _ => kS); (with_reducible rename Rest _ _ => kR); k_dflt (refine' assignTupS ?h0 kS ?hm (Cx.hh kC) ?hn ?hs ?_; (case h0 => with_reducible assumption); (case hm => tb_rel); (case hn => exact rfl); (case hs => exact rfl)); (intro s' hr' kS'); (have kR' := Rest.comp kR hr'); clear kS kR hr'; (have kF := kS'.F); (have kN := kS'.N); (try k_sweep)))

local macro_rules | `(tactic| walk_at "compareOp NotIn ref ref") => `(tactic| (k_here; (with_reducible rename St _ _ _ _ _ => kS); (with_reducible rename Rest _ _ => kR); k_dflt (refine' notinTupS kS ?he ?hs ?hx ?hb ?hu ?_; (case he => with_reducible assumption); (case hs => (intro p hp; tb_rel)); (case hx => tb_rel); (case hb => with_reducible assumption); (case hu => with_reducible apply_assumption)); (intro s' hr' kS'); (have kR' := Rest.comp kR hr'); clear kS kR hr'; (have kF := kS'.F); (have kN := kS'.N); (try k_sweep)))
local macro_rules | `(tactic| walk_at "call builtin:min") => `(tactic| (k_here; (with_reducible rename Cx _ _ _ _ _ => kC); (with_reducible rename St _ _ _ _ _ => kS); (with_reducible rename Rest _ _ => kR); k_dflt (refine' minS (Cx.hh kC) kS ?_); (intro s' t' hr' kS'); (have kR' := Rest.comp kR hr'); clear kS kR hr'; (have kF := kS'.F); (have kN := kS'.N); (try k_sweep)))
local macro_rules | `(tactic| walk_at "call builtin:max") => `(tactic| (k_here; (with_reducible rename Cx _ _ _ _ _ => kC); (with_reducible rename St _ _ _ _ _ => kS); (with_reducible rename Rest _ _ => kR); k_dflt (refine' maxS (Cx.hh kC) kS ?_); (intro s' t' hr' kS'); (have kR' := Rest.comp kR hr'); clear kS kR hr'; (have kF := kS'.F); (have kN := kS'.N); (try k_sweep)))

local macro_rules | `(tactic| walk_at "binaryOp Pow int int") => `(tactic| (k_here; first | (with_reducible refine pow2S ?hp ?_; (case hp => with_reducible assumption)) | (with_reducible refine powQ ?hq ?hp ?_; (case hq => first | with_reducible assumption | with_reducible exact qv_le _ | decide); (case hp => with_reducible assumption))))
local macro_rules | `(tactic| walk_at "binaryOp FloorDiv int int") => `(tactic| (k_here; with_reducible refine fdS ?hp ?_; (case hp => with_reducible assumption)))
local macro_rules | `(tactic| walk_at "binaryOp Mod int int") => `(tactic| (k_here; with_reducible refine mdS ?_))
local macro_rules | `(tactic| walk_at "binaryOp Mult int int") => `(tactic| (k_here; with_reducible refine mulSg ?ha ?_; (case ha => with_reducible assumption)))
local macro_rules | `(tactic| walk_at "unaryOp USub int") => `(tactic| (k_here; with_reducible refine neg_int ?_))
local macro_rules | `(tactic| walk_at "subscriptTail List cons Name ref int") => `(tactic| (k_here; (with_reducible rename St _ _ _ _ _ => kS); k_dflt (refine' subLit ?h0 kS ?hm ?hj ?_; (case h0 => with_reducible assumption); (case hm => tb_rel); (case hj => with_reducible assumption)); (intro t')))
local macro_rules | `(tactic| walk_at "binaryOp Mult int int") => `(tactic| (k_here; first | (with_reducible refine mulSg ?ha ?_; (case ha => with_reducible assumption)) | (with_reducible refine mulR ?ha ?_; (case ha => with_reducible exact neg_pow _))))

set_option maxHeartbeats 16000000 in
theorem law_main {w : World} {A : Around} {s : Shared} {E : Value → Shared → Prop} {Q : Flow → Shared → Prop} {h₀ : Heap} {L c1 c2 el : Addr} {o1 o2 : Obj} {n ec : Nat} {tn : Tok} {ets : List Addr} {es : List (Nat × Nat)} {gl K : List (Addr × Obj)} {ga : GA} {m0 : Str → Option Value} {o30 o69 : Obj}
  {name qual : Str} {params : Arguments} {body : List Stmt} {scope : Scope} {dV kV doc pm cdv ct oc : Value} {an od : Option Addr} {osl : Array (Option Value)}
  (ho : (hd.heap_39 w.params).lookup 341 = some ⟨oc, od, .func (fnOf name qual params body scope dV kV doc pm an cdv ct), osl⟩)
  (C : Cx w A (envX qual scope L 341 cdv [(Str.ofString "edges", c2), (Str.ofString "n", c1)]) L h₀) (S : St h₀ L (up (Str.ofString "G") (some (.ref ga.g)) m0) (gl ++ (30, o30) :: (69, o69) :: K) s.heap)
  (hfr : A.frames = some [envX qual scope L 341 cdv [(Str.ofString "edges", c2), (Str.ofString "n", c1)]]) (hroom : A.depth + 90 < recursionLimit) (hu : A.units + 400 < cLine)
  (hc1 : (c1, o1) ∈ K) (ho1 : o1.data = .cell (some (.int (n : Nat) tn))) (hc2 : (c2, o2) ∈ K) (ho2 : o2.data = .cell (some (.ref el))) (he : EdgesIn K el ec ets es) (hle : ∀ e ∈ es, e.1 ≤ e.2 ∧ e.2 < n) (hnd : es.Nodup) (hlen : es.length ≤ 6) (hn1 : 1 ≤ n) (hn5 : n ≤ 5)
  (HG : GraphIn w gl ga (emptyG n)) (h30 : TabOk gxPos o30) (h69 : TabOk gxCol o69) (hbare : AllBare s.gens)
  (h : ∀ s' m' K' o30' o69', s'.os = s.os → AllBare s'.gens → TabOk gxPos o30' → TabOk gxCol o69' → St h₀ L m' ((30, o30') :: (69, o69') :: K') s'.heap → Q (.ret (.bool true)) s') :
  wpAny (model PP w) A (execs (body.drop 6) (envX qual scope L 341 cdv [(Str.ofString "edges", c2), (Str.ofString "n", c1)])) Q E s := by
  have hcc := ho.symm.trans (show (hd.heap_39 w.params).lookup 341 = some ⟨_, _, .func (fnOf _ _ _ _ _ _ _ _ _ _ _ _), _⟩ by k_is)
  have e := Option.some.inj (congrArg fdOf hcc)
  obtain ⟨e1, e⟩ := Prod.mk.inj e
  obtain ⟨e2, e⟩ := Prod.mk.inj e
  obtain ⟨e3, e4⟩ := Prod.mk.inj e
  clear hcc ho e
  subst e1 e2 e3 e4
  simp only [List.drop_succ_cons, List.drop_zero]
  have kR := Rest.refl s
  have X := C.X
  have hh := C.hh
  obtain ⟨mean, mg, mb, T⟩ := C.T
  have F := S.F
  have N := S.N
  iterate 19 (first | walk1 | (dsimp only; walk1))
  rename St _ _ _ _ _ => kS
  rename Cx _ _ _ _ _ => C'
  rename Rest _ _ => kR
  rename (Above _ _) => hDa
  rename_i D _ _ _ _ _ _
  have hz : (ets.map Value.ref).length ≤ 1000000 := by rw [List.length_map, he.2.1]; omega
  have hp64 : (ets.map Value.ref).length ≤ 64 := by rw [List.length_map, he.2.1]; omega
  have hlm : (ets.map Value.ref).length = es.length := by rw [List.length_map, he.2.1]
  have heK := he.1
  have h2m : 2 ^ es.length ≤ 64 := pow_le64 hlen
  have hfour0 : Four [Value.int 0 s.toks, Value.int 0 (s.toks + 1), Value.int 0 (s.toks + 1 + 1), Value.int 0 (s.toks + 1 + 1 + 1)] (fun j => Sm es n (qv j) 0) := by
    refine ⟨rfl, fun j hj => ?_⟩
    simp only [Sm_zero]
    have : j = 0 ∨ j = 1 ∨ j = 2 ∨ j = 3 := by omega
    rcases this with rfl | rfl | rfl | rfl <;> exact ⟨_, rfl⟩
  refine forN (h₀ := h₀) (L := L) C'.hh ?_
  iterate 16 (first | walk1 | (dsimp only; walk1))
  rename St _ _ _ _ _ => kS
  rename Cx _ _ _ _ _ => C'
  rename Rest _ _ => kR
  refine iter_rng kS List.mem_cons_self (N := 2 ^ es.length) (by rw [hlm, Int.zero_add]) (by omega) (by omega) (by omega) fun I o s₁ hr₁ S₁ hP => ?_
  have hr := Rest.comp kR hr₁
  clear kR kS hr₁
  replace S₁ := S₁.sub (.cons_cons _ (.cons _ (List.Sublist.refl _)))
  have S₁ : St h₀ L (up (Str.ofString "sign") (some (.int 1 _)) (fun y => if y = Str.ofString "sums" then some (Value.ref D) else up (Str.ofString "G") (some (.ref ga.g)) m0 y)) ((I, o) :: (D, lst _ 0) :: (gl ++ (30, o30) :: (69, o69) :: K)) s₁.heap := S₁
  refine ⟨I, o, 2 ^ es.length, _, _, _, [Str.ofString "place", Str.ofString "a", Str.ofString "b", Str.ofString "pieces", Str.ofString "k"], _, _, _, fun k base nw g q => ∃ (bs : Nat → Bool) (tg : Tok) (gl' : List (Addr × Obj)) (ga' : GA) (G : Gr) (o30' : Obj) (vs : List Value) (c : Nat),
      base = up (Str.ofString "sign") (some (.int (sg es.length bs) tg)) (fun y => if y = Str.ofString "sums" then some (Value.ref D) else up (Str.ofString "G") (some (.ref ga.g)) m0 y) ∧ nw = (D, lst vs c) :: (gl' ++ (30, o30') :: (69, o69) :: K) ∧ ga'.g = ga.g ∧ GraphIn w gl' ga' G ∧ GOk G ∧ G.n = n ∧
      GrOf G (sel (ef es) es.length bs) ∧ TabOk gxPos o30' ∧ Four vs (fun j => Sm es n (qv j) k) ∧ (k = 0 ∧ bs = z0 ∨ 0 < k ∧ (blk es.length z0)[k - 1]? = some bs) ∧ q = s.os ∧ AllBare g, rfl, Iter.range I 0 (2 ^ es.length), S₁, fun _ _ => rfl, hP, ?start, fun _ _ _ _ _ _ => trivial, ?step, ?done⟩
  case start =>
    refine ⟨z0, _, gl, ga, emptyG n, o30, _, 0, by rw [show sg es.length z0 = 1 from sg_zero _], rfl, rfl, HG, ?_, rfl, ?_, h30, hfour0, .inl ⟨rfl, rfl⟩, hr.2, by rw [hr.1]; exact hbare⟩
    · exact gok_empty n
    · exact grof_empty n
  case step =>
    rintro k _ FF base nw o' s₂ hk ⟨tv, rfl⟩ ⟨bs, tg, gl', ga', G, o30', vs, c, rfl, rfl, hg, HG', hok, hGn, hgr, h30', hfour, hst, hos, hb⟩ hP' S₂
    rw [Int.zero_add] at S₂
    have kR := Rest.refl s₂
    have H1 := HG'.inst
    rw [hg] at H1
    obtain ⟨t1, t2, t3, gr, H2⟩ := HG'.dict
    clear S₁ hr hP HG hfour0 h30 hDa
    have F := S₂.F
    have N := S₂.N
    refine wpAny_execs_cons (wpAny_mono (Q := fun fl s' => fl = .next ∧ Rest s₂ s' ∧ ∃ (m' : Str → Option Value) (bs' : Nat → Bool) (tg' : Tok) (gl2 : List (Addr × Obj)) (ga2 : GA) (G2 : Gr), (blk es.length z0)[k]? = some bs' ∧ ga2.g = ga.g ∧ GraphIn w gl2 ga2 G2 ∧ GOk G2 ∧ G2.n = n ∧
      GrOf G2 (sel (ef es) es.length bs') ∧ St h₀ L (ovr [Str.ofString "turn", Str.ofString "place", Str.ofString "a", Str.ofString "b", Str.ofString "pieces", Str.ofString "k"] m' (up (Str.ofString "sign") (some (.int (sg es.length bs') tg')) (fun y => if y = Str.ofString "sums" then some (Value.ref D) else up (Str.ofString "G") (some (.ref ga.g)) m0 y))) ((I, o') :: (D, lst vs c) :: (gl2 ++ (30, o30') :: (69, o69) :: K)) s'.heap) (E := fun _ _ => False) ?ifp ?rest fun _ _ e => e)
    case rest =>
      rintro fl s₃ ⟨rfl, kR₃, m', bs', tg', gl2, ga2, G2, hbl, hg2, HG2, hok2, hn2, hgr2, S₃⟩
      dsimp only
      have hos3 : s₃.os = s.os := kR₃.2.trans hos
      have hb3 : AllBare s₃.gens := by rw [kR₃.1]; exact hb
      have kR := Rest.refl s₃
      clear kR₃ S₂ hb hos HG' hok hgr hst H1 H2 hg
      have F := S₃.F
      have N := S₃.N
      iterate 8 (first | walk1 | (dsimp only; walk1))
      rename St _ _ _ _ _ => kS
      rename Cx _ _ _ _ _ => C'
      rename Rest _ _ => kR0
      refine ⟨C'.X.keeps kS.F.keep, ?_⟩
      refine wpAny_call (numcc_c C' (kS.perm (perm_num _ _ _ _ _)) h30' HG2 hg2 hok2 (by omega) (grof_sym hgr2) (by omega) fun s₄ o30'' tpc hos4 hb4 h30'' S₄ => ?_)
      replace S₄ := S₄.perm (perm_num (I, o') (D, lst vs c) (30, o30'') gl2 _).symm
      replace hos4 := hos4.trans ((show s₃.os = _ from rfl).trans hos3)
      replace hb4 := hb4 hb3
      rw [show rem G2 0 = pcs n (sel (ef es) es.length bs') from by rw [rem_pcs hgr2, hn2]]
      have hpc : pcs n (sel (ef es) es.length bs') ≤ 64 := by have := pcs_le n (sel (ef es) es.length bs'); omega
      have hsg := sg_one es.length bs'
      have hsm := fun q => Sm_succ (es := es) (n := n) (q := q) hbl
      generalize hpe : pcs n (sel (ef es) es.length bs') = pc at hpc hsm ⊢
      generalize hse : sg es.length bs' = sgn at S₄ hsg hsm ⊢
      have kR := Rest.refl s₄
      clear kS kR0 hos3 hb3
      have F := S₄.F
      have N := S₄.N
      iterate 2 (first | walk1 | (dsimp only; walk1))
      rename St _ _ _ _ _ => kS
      rename Cx _ _ _ _ _ => C'
      rename Rest _ _ => kR0
      have F := kS.F
      have N := kS.N
      refine forC (h₀ := h₀) (L := L) C'.hh ?_
      iterate 7 (first | walk1 | (dsimp only; walk1))
      rename St _ _ _ _ _ => kS
      rename Cx _ _ _ _ _ => C'
      rename Rest _ _ => kR
      refine iter_rng kS List.mem_cons_self (N := 4) (by omega) (by omega) (by omega) (by omega) fun I2 oI2 s₅ hr₅ S₅ hP2 => ?_
      have hr₅' := Rest.comp kR hr₅
      clear kR kS hr₅
      replace S₅ := S₅.sub (.cons_cons _ (.cons _ (List.Sublist.refl _)))
      refine ⟨I2, oI2, 4, _, _, _, [], _, _, fun j nw g q => ∃ (vs' : List Value) (cc : Nat), nw = (I, o') :: (D, lst vs' cc) :: (gl2 ++ (30, o30'') :: (69, o69) :: K) ∧ Four vs' (fun i => if i < j then Sm es n (qv i) (k + 1) else Sm es n (qv i) k) ∧ g = s₄.gens ∧ q = s₄.os,
        rfl, Iter.range I2 0 4, S₅, hP2, ⟨vs, c, rfl, hfour.congr fun i _ => by rw [if_neg (Nat.not_lt_zero i)], hr₅'.1, hr₅'.2⟩, fun _ _ _ _ _ => trivial, ?_, ?_⟩
      · rintro j _ FF2 nw oI2' s₆ hj ⟨tj, rfl⟩ ⟨vs', cc, rfl, hf, hg6, hq6⟩ hP2' S₆
        rw [Int.zero_add] at S₆
        have kR : Rest s₄ s₆ := ⟨hg6, hq6⟩
        obtain ⟨tvj, hvj⟩ := hf.2 j hj
        simp only [Nat.lt_irrefl, if_false] at hvj
        have hx : vs'[((j : Nat) : Int).toNat]? = some (.int (Sm es n (qv j) k) tvj) := by rw [Int.toNat_natCast]; exact hvj
        have hjl : ((j : Nat) : Int) < vs'.length := by rw [hf.1]; omega
        clear S₅ hr₅' hg6 hq6 hP2
        have hDm : (D, lst vs' cc) ∈ (I2, oI2') :: (I, o') :: (D, lst vs' cc) :: (gl2 ++ (30, o30'') :: (69, o69) :: K) := .tail _ (.tail _ (.head _))
        have F := S₆.F
        have N := S₆.N
        iterate 10 (first | walk1 | (dsimp only; walk1))
        iterate 18 (first | walk1 | (dsimp only; walk1))
        rename St _ _ _ _ _ => kS
        rename Rest _ _ => kR
        refine setL hDm kS (by tb_rel) (by omega) (by omega) hjl rfl fun s₇ hr₇ S₇ _ => ?_
        have kR₇ := Rest.comp kR hr₇
        clear kR kS hr₇
        replace S₇ := St.put_at (pre := [(_, _), (_, _), (_, _)]) S₇
        have F := S₇.F
        have N := S₇.N
        iterate 1 (first | walk1 | (dsimp only; walk1))
        rename St _ _ _ _ _ => kS
        rename Rest _ _ => kR
        refine ⟨_, _, kS.tl, by (intro y hy; (simp only [List.mem_cons, List.not_mem_nil, or_false, not_or] at hy); simp only [ovr, hy, if_false, or_self, List.mem_cons, List.not_mem_nil, ite_self]), _, cc, rfl, (hf.set hj _ _).congr fun i _ => ?_, kR.1, kR.2⟩
        by_cases hij : i = j
        · subst hij
          rw [if_pos rfl, if_pos (Nat.lt_succ_self _), hsm]
        · rw [if_neg hij]
          by_cases hlt : i < j
          · rw [if_pos hlt, if_pos (by omega)]
          · rw [if_neg hlt, if_neg (by omega)]
      · rintro FF2 nw s₆ ⟨vs', cc, rfl, hf, hg6, hq6⟩ S₆
        have kR := Rest.refl s₆
        clear S₅ hr₅' hP2
        have F := S₆.F
        have N := S₆.N
        iterate 1 (first | walk1 | (dsimp only; walk1))
        rename St _ _ _ _ _ => kS
        rename Rest _ _ => kR
        refine ⟨_, up (Str.ofString "sign") (some (.int sgn tg')) (fun y => if y = Str.ofString "sums" then some (Value.ref D) else up (Str.ofString "G") (some (.ref ga.g)) m0 y), _, kS, by (intro y hy; (simp only [List.mem_cons, List.not_mem_nil, or_false, not_or] at hy); simp only [ovr, hy, if_false, or_self, List.mem_cons, List.not_mem_nil, ite_self]), bs', tg', gl2, ga2, G2, o30'', vs', cc, by rw [hse], rfl, hg2, HG2, hok2, hn2, hgr2, h30'', hf.congr fun i hi => by rw [if_pos hi], .inr ⟨by omega, hbl⟩, kR.2.trans (hq6.trans hos4), by rw [kR.1, hg6]; exact hb4⟩
    case ifp =>
      by_cases hk0 : k = 0
      · have hgt : ¬ ((k : Nat) : Int) > 0 := by omega
        iterate 9 (first | walk1 | (dsimp only; walk1))
        rename St _ _ _ _ _ => kS
        rename Rest _ _ => kR
        rcases hst with ⟨_, rfl⟩ | ⟨q, _⟩
        · refine ⟨rfl, kR, _, z0, tg, gl', ga', G, by rw [hk0]; exact blk_first _ _, hg, HG', hok, hGn, hgr, kS.agree (by (intro y hy; (simp only [List.mem_cons, List.not_mem_nil, or_false, not_or] at hy); simp only [ovr, hy, if_false, or_self, List.mem_cons, List.not_mem_nil, ite_self]))⟩
        · omega
      · have hgt : ((k : Nat) : Int) > 0 := by omega
        obtain ⟨p0, hp0, hpz, hpn⟩ := place_ex es.length k (by omega) hk
        iterate 13 (first | walk1 | (dsimp only; walk1))
        rename St _ _ _ _ _ => kS
        rename Cx _ _ _ _ _ => C'
        rename Rest _ _ => kR
        refine whileN (fun j s' => ∃ (p : Nat) (tp : Tok), j = p0 - p ∧ p ≤ p0 ∧ Rest s₂ s' ∧ St h₀ L (up (Str.ofString "place") (some (.int (p : Nat) tp)) (fun y => if y = Str.ofString "turn" then some (.int (k : Nat) tv) else ovr [Str.ofString "place", Str.ofString "a", Str.ofString "b", Str.ofString "pieces", Str.ofString "k"] FF (up (Str.ofString "sign") (some (.int (sg es.length bs) tg)) (fun y => if y = Str.ofString "sums" then some (Value.ref D) else up (Str.ofString "G") (some (.ref ga.g)) m0 y)) y)) ((I, o') :: (D, lst vs c) :: (gl' ++ (30, o30') :: (69, o69) :: K)) s'.heap) p0 ⟨0, _, rfl, Nat.zero_le _, kR, kS⟩ ?_
        rintro j s₃ ⟨p, tp, rfl, hp, kR₃, S₃⟩
        clear kS kR
        have F := S₃.F
        have N := S₃.N
        have hp20 : p ≤ 20 := by omega
        have hp64p : p ≤ 64 := by omega
        by_cases hpp : p = p0
        · subst hpp
          have heq : ((k / 2 ^ p % 2 : Nat) : Int) ≠ 0 := by omega
          obtain ⟨et, het⟩ : ∃ et, ets[p]? = some et := ⟨ets[p]'(by rw [he.2.1]; exact hp0), by simp [he.2.1, hp0]⟩
          obtain ⟨u, v, tu, tv2, hee, hem⟩ := he.2.2 p et het
          have hx : (ets.map Value.ref)[((p : Nat) : Int).toNat]? = some (.ref et) := by rw [Int.toNat_natCast, List.getElem?_map, het]; rfl
          have hef := ef_at hee
          have huv := hle _ (List.mem_of_getElem? hee)
          iterate 20 (first | walk1 | (dsimp only; walk1))
          iterate 21 (first | walk1 | (dsimp only; walk1))
          rename St _ _ _ _ _ => kS
          rename Cx _ _ _ _ _ => C'
          rename Rest _ _ => kR
          refine ⟨C'.X.keeps kS.F.keep, ?_⟩
          refine wpAny_call (has_edge_c C' (St.flip (p := [(I, o'), (D, lst vs c)]) kS) HG' hg (by omega) (by omega) fun s₄ hr₄ S₄ => ?_)
          have kR₄ := Rest.comp kR hr₄
          replace S₄ := St.flop S₄
          replace S₄ : St h₀ L _ ((I, o') :: (D, lst vs c) :: (gl' ++ (30, o30') :: (69, o69) :: K)) _ := S₄
          clear kS kR hr₄
          have F := S₄.F
          have N := S₄.N
          have hha := has_at hnd hle hp0 hef hgr
          have hnext : (blk es.length z0)[k]? = some (flp p bs) := by
            rcases hst with ⟨q, _⟩ | ⟨_, hb1⟩
            · exact absurd q hk0
            · have := blk_next es.length z0 (k - 1) p (by omega) (by rw [show k - 1 + 1 = k by omega]; exact hpz) (by rw [show k - 1 + 1 = k by omega]; exact hpn) bs hb1
              rwa [show k - 1 + 1 = k by omega] at this
          by_cases hbp : bs p = true
          · have hhas : v ∈ (G.adj u).map (·.1) := hha.mpr hbp
            have hhas2 : u ∈ (G.adj v).map (·.1) := grof_sym hgr u v hhas
            rw [decide_eq_true hhas]
            iterate 13 (first | walk1 | (dsimp only; walk1))
            rename St _ _ _ _ _ => kS
            rename Cx _ _ _ _ _ => C'
            rename Rest _ _ => kR
            refine ⟨C'.X.keeps kS.F.keep, ?_⟩
            refine wpAny_call (remove_edge_c C' (St.flip (p := [(I, o'), (D, lst vs c)]) kS) HG' hg (by omega) (by omega) hhas hhas2 (fun i hi => by have := hok.len hi; omega) (by omega) fun s₅ gl5 G5 hr₅ HG5 hG5 S₅ => ?_)
            obtain rfl : G5 = G.cut u v := hG5
            have kR₅ := Rest.comp kR hr₅
            replace S₅ := St.flop S₅
            replace S₅ : St h₀ L _ ((I, o') :: (D, lst vs c) :: (gl5 ++ (30, o30') :: (69, o69) :: K)) _ := S₅
            clear kS kR hr₅
            have F := S₅.F
            have N := S₅.N
            iterate 8 (first | walk1 | (dsimp only; walk1))
            rename St _ _ _ _ _ => kS
            rename Rest _ _ => kR
            refine' ⟨rfl, kR, _, flp p bs, ?tg, gl5, ga', G.cut u v, hnext, hg, HG5, cut_ok hok u v (by omega) (by omega), by rw [cut_n]; exact hGn, grof_cut hnd hle hp0 hef hgr hbp, kS.agree (fun y hy => ?ag)⟩
            case ag =>
              simp only [List.mem_cons, List.not_mem_nil, or_false, not_or] at hy
              unfold up
              dsimp only
              by_cases hs : y = Str.ofString "sign"
              · rw [if_pos hs, if_pos hs, sg_flp hp0]
              · rw [if_neg hs, if_neg hs]
                simp only [ovr, hy, hs, if_false, or_self, List.mem_cons, List.not_mem_nil, ite_self]
          · have hhas : ¬ v ∈ (G.adj u).map (·.1) := fun q => hbp (hha.mp q)
            rw [decide_eq_false hhas]
            iterate 13 (first | walk1 | (dsimp only; walk1))
            rename St _ _ _ _ _ => kS
            rename Cx _ _ _ _ _ => C'
            rename Rest _ _ => kR
            refine ⟨C'.X.keeps kS.F.keep, ?_⟩
            refine wpAny_call (add_edge_c C' (St.flip (p := [(I, o'), (D, lst vs c)]) kS) HG' hg hok (by omega) (by omega) (by omega) (by omega) fun s₅ gl5 ga5 x5 hr₅ hg5 HG5 S₅ => ?_)
            have kR₅ := Rest.comp kR hr₅
            replace S₅ := St.flop S₅
            replace S₅ : St h₀ L _ ((I, o') :: (D, lst vs c) :: (gl5 ++ (30, o30') :: (69, o69) :: K)) _ := S₅
            clear kS kR hr₅
            have F := S₅.F
            have N := S₅.N
            iterate 8 (first | walk1 | (dsimp only; walk1))
            rename St _ _ _ _ _ => kS
            rename Rest _ _ => kR
            refine' ⟨rfl, kR, _, flp p bs, ?tg2, gl5, ga5, G.edge u v x5, hnext, hg5.trans hg, HG5, edge_ok hok (by omega) (by omega) x5, hGn, grof_add hnd hp0 hef hgr hbp, kS.agree (fun y hy => ?ag2)⟩
            case ag2 =>
              simp only [List.mem_cons, List.not_mem_nil, or_false, not_or] at hy
              unfold up
              dsimp only
              by_cases hs : y = Str.ofString "sign"
              · rw [if_pos hs, if_pos hs, sg_flp hp0]
              · rw [if_neg hs, if_neg hs]
                simp only [ovr, hy, hs, if_false, or_self, List.mem_cons, List.not_mem_nil, ite_self]
        · have heq : ((k / 2 ^ p % 2 : Nat) : Int) = 0 := by rw [hpz p (by omega)]; rfl
          iterate 23 (first | walk1 | (dsimp only; walk1))
          rename St _ _ _ _ _ => kS
          rename Rest _ _ => kR
          rw [up_up] at kS
          exact ⟨p0 - (p + 1), by omega, p + 1, _, rfl, by omega, kR, kS⟩
  case done =>
    rintro FF base nw s₂ ⟨bs, tg, gl', ga', G, o30', vs, c, rfl, rfl, hg, HG', hok, hGn, hgr, h30', hfour, _, hos, hb⟩ S₂
    have kR := Rest.refl s₂
    have H1 := HG'.inst
    rw [hg] at H1
    obtain ⟨t1, t2, t3, gr, H2⟩ := HG'.dict
    clear S₁ hr hP HG hfour0 h30 hDa
    have hint : IntsAre vs [Sm es n (qv 0) (2 ^ es.length), Sm es n (qv 1) (2 ^ es.length), Sm es n (qv 2) (2 ^ es.length), Sm es n (qv 3) (2 ^ es.length)] := hfour.ints
    have hDm : (D, lst vs c) ∈ (D, lst vs c) :: (gl' ++ (30, o30') :: (69, o69) :: K) := .head _
    have F := S₂.F
    have N := S₂.N
    iterate 10 (first | walk1 | (dsimp only; walk1))
    rename St _ _ _ _ _ => kS
    rename Cx _ _ _ _ _ => C'
    rename Rest _ _ => kR
    refine sliceS (s := ⟨_, _, _, _, _⟩) (k := 3) kS (kS.list hDm) (by rw [hfour.1]; omega) fun D3 s₃ hr₃ S₃ hab3 => ?_
    have hr := Rest.comp kR hr₃
    clear kS kR hr₃
    have F := S₃.F
    have N := S₃.N
    rename St _ _ _ _ _ => kS
    rename Cx _ _ _ _ _ => C'
    rename Rest _ _ => kR
    refine compS (cn := []) (clo := [(Str.ofString "n", c1), (Str.ofString "edges", c2)]) C' kS rfl rfl (by decide) rfl (by decide) ?_
    iterate 9 (first | walk1 | (dsimp only; walk1))
    rename St _ _ _ _ _ => kS
    rename Cx _ _ _ _ _ => C'
    rename Rest _ _ => kR
    refine iter_rng kS List.mem_cons_self (N := 3) (by omega) (by omega) (by omega) (by omega) fun I4 o4 s₄ hr₄ S₄ hP4 => ?_
    have kR₄ := Rest.comp kR hr₄
    clear kR kS hr₄
    replace S₄ := S₄.sub (.cons_cons _ (.cons _ (List.Sublist.refl _)))
    have heB : EdgesIn ((D3, lst (vs.take 3) 0) :: (D, lst vs c) :: (gl' ++ (30, o30') :: (69, o69) :: K)) el ec ets es := he.mono fun p hp => .tail _ (.tail _ (List.mem_append_right _ (.tail _ (.tail _ hp))))
    refine ⟨I4, o4, 3, _, _, _, _, rfl, IterX.range I4 1 3, S₄, hP4, fun g5 CL5 D5 cs5 own5 hcs5 Y5 C₅ hD5 hID5 hown5 => ?_⟩
    obtain rfl : cs5 = [] := List.map_eq_nil_iff.mp hcs5
    cases Y5
    clear hcs5 hown5
    refine ⟨fun j outs l => l = (D3, lst (vs.take 3) 0) :: (D, lst vs c) :: (gl' ++ (30, o30') :: (69, o69) :: K) ∧ j ≤ 3 ∧ IntL outs ((List.range j).map fun i => cols es (i + 1) n []), ⟨rfl, by omega, IntL.nil⟩, ⟨?_, ?_, ?_⟩, ?_⟩
    · intros; trivial
    · rintro j outs l ⟨rfl, hj3, h1⟩
      rw [h1.1, List.length_map, List.length_range]; omega
    · rintro j outs _ v o5 c5 mk5 s₅ hj ⟨tv, rfl⟩ ⟨rfl, _, hout⟩ hP5 hr₅ S₅
      rw [show (1 : Int) + (j : Int) = ((j + 1 : Nat) : Int) by omega]
      refine wpAny_assign_Name (storeS S₅ (fun s₆ hr₆ S₆ => ?_) rfl rfl rfl)
      have hr₇ := hr₅.trans hr₆
      clear S₅ hr₅ hr₆ S₄ kR₄
      have F := S₆.F
      have N := S₆.N
      refine wpAny_tests_nil ?_
      rw [if_pos rfl]
      iterate 14 (first | walk1 | (dsimp only; walk1))
      rename St _ _ _ _ _ => kS
      rename Cx _ _ _ _ _ => C₅
      rename Rest _ _ => kR
      refine ⟨C₅.X.keeps kS.F.keep, ?_⟩
      refine wpAny_call (cols_c es (j + 1) (by omega) n C₅ kS (heB.mono fun p hp => .tail _ (.tail _ (.tail _ hp))) List.mem_cons_self IntL.nil (by simp) hn5 (by omega) (by omega) fun s₇ t₇ hr₇ S₇ => ?_)
      have kR₇ := Rest.comp kR hr₇
      refine ⟨_, _, kR₇, S₇.tl, rfl, by omega, ?_⟩
      rw [List.range_succ, List.map_append]
      exact hout.push _ t₇
    · rintro outs _ c5 s₅ ⟨rfl, _, hout⟩ hr₅ S₅
      have hr := kR₄.trans hr₅
      clear kR₄ hr₅ S₄ C₅
      have F := S₅.F
      have N := S₅.N
      have hcmp : List.take 3 [Sm es n (qv 0) (2 ^ es.length), Sm es n (qv 1) (2 ^ es.length), Sm es n (qv 2) (2 ^ es.length), Sm es n (qv 3) (2 ^ es.length)] = (((List.range 3).map fun i => cols es (i + 1) n []).map fun n : Nat => (n : Int)) := by
        rw [Sm_q hle (j := 0) (by omega), Sm_q hle (j := 1) (by omega), Sm_q hle (j := 2) (by omega)]; rfl
      refine ke_ne_ints (S₅.list (l := D3) (.tail _ (.head _))) (S₅.list (.head _)) (hint.take 3) (intsOf hout) (by omega) ?_
      rw [decide_eq_true hcmp]
      iterate 12 (first | walk1 | (dsimp only; walk1))
      rename St _ _ _ _ _ => kS
      rename Cx _ _ _ _ _ => C'
      rename Rest _ _ => kR
      replace kS := kS.sub (.cons _ (.cons _ (List.Sublist.refl _)))
      refine ⟨C'.X.keeps kS.F.keep, ?_⟩
      refine wpAny_call (add_edges_from_c C' (St.flip (p := [(D, lst vs c)]) kS) HG' hg hok (by omega) (he.mono fun p hp => .tail _ (.tail _ (.tail _ hp))) (fun e hee => by have := hle e hee; omega) (by omega) (by omega) fun s₆ gl6 ga6 G6 hr₆ hg6 HG6 hok6 hn6 hhas6 S₆ => ?_)
      have kR₆ := Rest.comp kR hr₆
      replace S₆ := St.flop S₆
      replace S₆ : St h₀ L _ ((D, lst vs c) :: (gl6 ++ (30, o30') :: (69, o69) :: K)) _ := S₆
      have hgr6 := grof_full hgr hhas6
      replace hg6 := hg6.trans hg
      replace hn6 := hn6.trans hGn
      clear kS kR hr₆ HG' hok hgr H1 H2 heB hcmp hhas6
      have H1 := HG6.inst
      rw [hg6] at H1
      obtain ⟨t1, t2, t3, gr, H2⟩ := HG6.dict
      obtain ⟨tb1, hb1⟩ := hfour.2 1 (by omega)
      have hx1 : vs[(1 : Int).toNat]? = some (.int (Sm es n (qv 1) (2 ^ es.length)) tb1) := hb1
      obtain ⟨tb3, hb3⟩ := hfour.2 3 (by omega)
      have hx3 : vs[(3 : Int).toNat]? = some (.int (Sm es n (qv 3) (2 ^ es.length)) tb3) := hb3
      have hDm : (D, lst vs c) ∈ (D, lst vs c) :: (gl6 ++ (30, o30') :: (69, o69) :: K) := .head _
      have F := S₆.F
      have N := S₆.N
      iterate 6 (first | walk1 | (dsimp only; walk1))
      iterate 1 (first | walk1 | (dsimp only; walk1))
      have hself : Sm es n (qv 1) (2 ^ es.length) = Sm es n (qv 1) (2 ^ es.length) := rfl
      refine wpAny_mono (Q := fun v s' => (∃ t, v = .int (Sm es n (qv 1) (2 ^ es.length)) t) ∧ s'.os = s.os ∧ AllBare s'.gens ∧ ∃ gl7 o30'' o69'', TabOk gxPos o30'' ∧ TabOk gxCol o69'' ∧ St h₀ L (ovr (Str.ofString "turn" :: [Str.ofString "place", Str.ofString "a", Str.ofString "b", Str.ofString "pieces", Str.ofString "k"]) FF (up (Str.ofString "sign") (some (.int (sg es.length bs) tg)) (fun y => if y = Str.ofString "sums" then some (Value.ref D) else up (Str.ofString "G") (some (.ref ga.g)) m0 y))) ((D, lst vs c) :: (gl7 ++ (30, o30'') :: (69, o69'') :: K)) s'.heap) ?ife ?rest2 fun _ _ e => e
      case rest2 =>
        rintro v s₉ ⟨⟨tv9, rfl⟩, hos9, hb9, gl7, o30'', o69'', h30'', h69'', S₉⟩
        have kR9 := Rest.refl s₉
        clear hDm H1 H2
        have hDm : (D, lst vs c) ∈ (D, lst vs c) :: (gl7 ++ (30, o30'') :: (69, o69'') :: K) := .head _
        have hn64 : n ≤ 64 := by omega
        have F := S₉.F
        have N := S₉.N
        have heq := Sm_dirs hle
        have heZ : EdgesIn ((D, lst vs c) :: (gl7 ++ (30, o30'') :: (69, o69'') :: K)) el ec ets es := he.mono fun p hp => .tail _ (List.mem_append_right _ (.tail _ (.tail _ hp)))
        iterate 27 (first | walk1 | (dsimp only; walk1))
        rename St _ _ _ _ _ => kS
        rename Cx _ _ _ _ _ => C'
        rename Rest _ _ => kR
        refine ⟨C'.X.keeps kS.F.keep, ?_⟩
        refine' wpAny_call (dirs_c C' ?hS3 heZ hn5 hlen (inR_of hle) (by omega) (by omega) fun s₁₀ t₁₀ hr₁₀ S₁₀ => ?_)
        case hS3 => exact kS
        have kR10 := Rest.comp kR hr₁₀
        clear kS kR hr₁₀
        have F := S₁₀.F
        have N := S₁₀.N
        iterate 1 (first | walk1 | (dsimp only; walk1))
        rename St _ _ _ _ _ => kS
        rename Rest _ _ => kR
        exact h _ _ (((D, lst vs c)) :: (gl7 ++ K)) o30'' o69'' (kR.2.trans hos9) (by rw [kR.1]; exact hb9) h30'' h69'' (kS.perm (perm_end _ _ _ _ _))
      case ife =>
        have hp64c : pcs n es ≤ 64 := by have := pcs_le n es; omega
        iterate 8 (first | walk1 | (dsimp only; walk1))
        rename St _ _ _ _ _ => kS
        rename Cx _ _ _ _ _ => C'
        rename Rest _ _ => kR
        refine ⟨C'.X.keeps kS.F.keep, ?_⟩
        refine' wpAny_call (bipartite_c C' ?hS h69 HG6 hg6 hok6 (by omega) (grof_sym hgr6) hfr rfl (by omega) fun s₇ o69' bb hos7 hb7 h69' hbip S₇ => ?_)
        case hS => exact kS.perm (perm_bip _ _ _ _ _)
        replace S₇ := S₇.perm (perm_bip (D, lst vs c) (30, o30') (69, o69') gl6 K).symm
        replace hos7 := hos7.trans (kR.2.trans hos)
        replace hb7 := hb7 (by show AllBare s₆.gens; rw [kR.1]; exact hb)
        clear kS kR
        have kR := Rest.refl s₇
        have F := S₇.F
        have N := S₇.N
        cases bb with
        | true =>
          have hS2 := Sm_bip hle hgr6 hn6 (hbip.mp rfl)
          iterate 10 (first | walk1 | (dsimp only; walk1))
          rename St _ _ _ _ _ => kS
          rename Cx _ _ _ _ _ => C'
          rename Rest _ _ => kR
          refine ⟨C'.X.keeps kS.F.keep, ?_⟩
          refine' wpAny_call (numcc_c C' ?hS2 h30' HG6 hg6 hok6 (by omega) (grof_sym hgr6) (by omega) fun s₈ o30'' tpc hos8 hb8 h30'' S₈ => ?_)
          case hS2 => exact kS.perm (perm_one _ _ _ _)
          replace S₈ := S₈.perm (perm_one (D, lst vs c) (30, o30'') gl6 _).symm
          replace hos8 := hos8.trans (kR.2.trans hos7)
          replace hb8 := hb8 (by show AllBare s₇.gens; exact hb7)
          rw [show rem G6 0 = pcs n es from by rw [rem_pcs hgr6, hn6]]
          clear kS kR
          have kR := Rest.refl s₈
          have F := S₈.F
          have N := S₈.N
          iterate 1 (first | walk1 | (dsimp only; walk1))
          rename St _ _ _ _ _ => kS
          rename Rest _ _ => kR
          exact ⟨⟨_, by rw [hS2]⟩, kR.2.trans hos8, by show AllBare s₈.gens; exact hb8, gl6, o30'', o69', h30'', h69', kS⟩
        | false =>
          have hS2 := Sm_nobip hle hgr6 hn6 (fun q => Bool.false_ne_true (hbip.mpr q))
          iterate 3 (first | walk1 | (dsimp only; walk1))
          rename St _ _ _ _ _ => kS
          rename Rest _ _ => kR
          exact ⟨⟨_, by rw [hS2]⟩, kR.2.trans hos7, by show AllBare s₇.gens; exact hb7, gl6, o30', o69', h30', h69', kS⟩

end Mine
end
section
open PySem PySem.W PySem.Calls PyProof.Rows
set_option maxRecDepth 100000
namespace Mine

local macro_rules | `(tactic| tb_start) => `(tactic| first | with_reducible assumption | with_reducible exact Ne.symm (by assumption) | (refine' fresh_ne ?l ?h0 ?h; (case l => with_reducible assumption); (case h0 => with_reducible assumption); (case h => tb_rel)) | (refine' Ne.symm (fresh_ne ?l ?h0 ?h); (case l => with_reducible assumption); (case h0 => with_reducible assumption); (case h => tb_rel)))
local macro_rules | `(tactic| tb_rel) => `(tactic| first | with_reducible assumption | with_reducible exact List.mem_cons_self | (with_reducible refine List.mem_cons_of_mem _ ?_; tb_rel) | (with_reducible refine mem_put_self (o := ?oo) ?hh; case hh => tb_rel) | (with_reducible refine mem_put_ne ?h1 ?h2; (case h1 => tb_rel); (case h2 => tb_start)) | (with_reducible refine List.mem_append_left _ ?_; tb_rel) | (with_reducible refine List.mem_append_right _ ?_; tb_rel))
local macro_rules | `(tactic| k_mem) => `(tactic| tb_rel)
local macro_rules | `(tactic| walk_at "compareOp In int ref") => `(tactic| (k_here; (with_reducible rename St _ _ _ _ _ => kS); (with_reducible rename Rest _ _ => kR); k_dflt (refine' in_D (knd := intKind PP _) ?h0 kS ?hm ?hd ?hk ?hv ?_; (case h0 => with_reducible assumption); (case hm => tb_rel); (case hd => first | with_reducible assumption | with_reducible exact isDict_nil _); (case hk => exact intKind_is _ _ _ _); (case hv => first | with_reducible assumption | with_reducible exact isSome_node _ (by assumption) | with_reducible exact isSome_node_none _ (by assumption) | with_reducible exact valueAt_adjS _ _)); (intro s' hr' kS'); (have kR' := Rest.comp kR hr'); clear kS kR hr'; (have kF := kS'.F); (have kN := kS'.N); (try k_sweep)))
local macro_rules | `(tactic| walk_at "compareOp NotIn int ref") => `(tactic| (k_here; (with_reducible rename St _ _ _ _ _ => kS); (with_reducible rename Rest _ _ => kR); k_dflt (refine' notin_D (knd := intKind PP _) ?h0 kS ?hm ?hd ?hk ?hv ?_; (case h0 => with_reducible assumption); (case hm => tb_rel); (case hd => first | with_reducible assumption | with_reducible exact isDict_nil _); (case hk => exact intKind_is _ _ _ _); (case hv => first | with_reducible assumption | with_reducible exact isSome_node _ (by assumption) | with_reducible exact isSome_node_none _ (by assumption) | with_reducible exact valueAt_adjS _ _)); (intro s' hr' kS'); (have kR' := Rest.comp kR hr'); clear kS kR hr'; (have kF := kS'.F); (have kN := kS'.N); (try k_sweep)))
local macro_rules | `(tactic| walk_at "subscriptTail Name Name ref int") => `(tactic| (k_here; (with_reducible show wpAny _ _ (subscriptTail _ _ (Value.ref _) (Value.int _ _)) _ _ _); (with_reducible rename St _ _ _ _ _ => kS); (with_reducible rename Rest _ _ => kR); k_dflt (refine' sub_D (knd := intKind PP _) ?h0 kS ?hm ?hd ?hk ?hv ?_; (case h0 => with_reducible assumption); (case hm => tb_rel); (case hd => first | with_reducible assumption | with_reducible exact isDict_nil _); (case hk => exact intKind_is _ _ _ _); (case hv => first | with_reducible assumption | with_reducible exact valueAt_node _ (by assumption) | with_reducible exact valueAt_stored _ _ _)); (intro s' hr' kS'); (have kR' := Rest.comp kR hr'); clear kS kR hr'; (have kF := kS'.F); (have kN := kS'.N); (try k_sweep)))
local macro_rules | `(tactic| walk_at "subscriptTail Attribute Name Name ref int") => `(tactic| (k_here; (with_reducible show wpAny _ _ (subscriptTail _ _ (Value.ref _) (Value.int _ _)) _ _ _); (with_reducible rename St _ _ _ _ _ => kS); (with_reducible rename Rest _ _ => kR); k_dflt (refine' sub_D (knd := intKind PP _) ?h0 kS ?hm ?hd ?hk ?hv ?_; (case h0 => with_reducible assumption); (case hm => tb_rel); (case hd => first | with_reducible assumption | with_reducible exact isDict_nil _); (case hk => exact intKind_is _ _ _ _); (case hv => first | with_reducible assumption | with_reducible exact valueAt_node _ (by assumption) | with_reducible exact valueAt_stored _ _ _)); (intro s' hr' kS'); (have kR' := Rest.comp kR hr'); clear kS kR hr'; (have kF := kS'.F); (have kN := kS'.N); (try k_sweep)))
local macro_rules | `(tactic| walk_at "subscriptTail Subscript Attribute Name Name ref int") => `(tactic| (k_here; (with_reducible show wpAny _ _ (subscriptTail _ _ (Value.ref _) (Value.int _ _)) _ _ _); (with_reducible rename St _ _ _ _ _ => kS); (with_reducible rename Rest _ _ => kR); k_dflt (refine' sub_D (knd := intKind PP _) ?h0 kS ?hm ?hd ?hk ?hv ?_; (case h0 => with_reducible assumption); (case hm => tb_rel); (case hd => first | with_reducible assumption | with_reducible exact isDict_nil _); (case hk => exact intKind_is _ _ _ _); (case hv => first | with_reducible assumption | with_reducible exact valueAt_node _ (by assumption) | with_reducible exact valueAt_stored _ _ _)); (intro s' hr' kS'); (have kR' := Rest.comp kR hr'); clear kS kR hr'; (have kF := kS'.F); (have kN := kS'.N); (try k_sweep)))
local macro_rules | `(tactic| walk_at "subscriptTail Subscript Name ref int") => `(tactic| (k_here; (with_reducible show wpAny _ _ (subscriptTail _ _ (Value.ref _) (Value.int _ _)) _ _ _); (with_reducible rename St _ _ _ _ _ => kS); (with_reducible rename Rest _ _ => kR); k_dflt (refine' sub_D (knd := intKind PP _) ?h0 kS ?hm ?hd ?hk ?hv ?_; (case h0 => with_reducible assumption); (case hm => tb_rel); (case hd => first | with_reducible assumption | with_reducible exact isDict_nil _); (case hk => exact intKind_is _ _ _ _); (case hv => first | with_reducible assumption | with_reducible exact valueAt_node _ (by assumption) | with_reducible exact valueAt_stored _ _ _)); (intro s' hr' kS'); (have kR' := Rest.comp kR hr'); clear kS kR hr'; (have kF := kS'.F); (have kN := kS'.N); (try k_sweep)))
local macro_rules | `(tactic| walk_at "storeName") => `(tactic| (k_here; (with_reducible rename St _ _ _ _ _ => kS); (with_reducible rename Rest _ _ => kR); k_dflt (refine' storeS kS ?_ ?h1 ?h2 ?h3; (case h1 => exact rfl); (case h2 => exact rfl); (case h3 => exact rfl)); (intro s' hr' kS'); (have kR' := Rest.comp kR hr'); clear kS kR hr'; (have kF := kS'.F); (have kN := kS'.N); (try k_sweep)))
local macro_rules | `(tactic| walk_at "eval Dict nil nil") => `(tactic| (k_here; (with_reducible rename St _ _ _ _ _ => kS); (with_reducible rename Rest _ _ => kR); k_dflt (refine' dictS kS ?_); (intro d' s' hr' kS' l1); (have hm' := cons_mem kS'); (have kR' := Rest.comp kR hr'); clear kS kR hr'; (have kF := kS'.F); (have kN := kS'.N); (try k_sweep)))
local macro_rules | `(tactic| walk_at "setItem ref int ref") => `(tactic| (k_here; (with_reducible rename St _ _ _ _ _ => kS); (with_reducible rename Rest _ _ => kR); k_dflt (refine' set_D (knd := intKind PP _) ?h0 kS ?hm ?hd ?hk ?hz ?_; (case h0 => with_reducible assumption); (case hm => tb_rel); (case hd => first | with_reducible assumption | with_reducible exact isDict_nil _); (case hk => exact intKind_is _ _ _ _); (case hz => first | with_reducible assumption | exact Nat.le_of_ble_eq_true rfl)); (intro s' o' hr' kS' hd' hm'); (have kR' := Rest.comp kR hr'); clear kS kR hr'; (have kF := kS'.F); (have kN := kS'.N); (try k_sweep)))
local macro_rules | `(tactic| walk_at "delItem ref") => `(tactic| (k_here; (with_reducible rename St _ _ _ _ _ => kS); (with_reducible rename Rest _ _ => kR); k_dflt (refine' del_D (knd := intKind PP _) ?h0 kS ?hm ?hd ?hk ?hz ?hl ?_; (case h0 => with_reducible assumption); (case hm => tb_rel); (case hd => first | with_reducible assumption | with_reducible exact isDict_nil _); (case hk => exact intKind_is _ _ _ _); (case hz => with_reducible assumption); (case hl => with_reducible assumption)); (intro s' o' hr' kS' hd' hm'); (have kR' := Rest.comp kR hr'); clear kS kR hr'; (have kF := kS'.F); (have kN := kS'.N); (try k_sweep)))
local macro_rules | `(tactic| walk_at "call builtin:dict.update") => `(tactic| (k_here; (with_reducible rename St _ _ _ _ _ => kS); (with_reducible rename Rest _ _ => kR); k_dflt (refine' update_nil (knd := strKind PP _) (knd' := strKind PP _) ?h0 ?h1 kS ?hm ?hd ?hme ?he ?hde ?_; (case h0 => with_reducible assumption); (case h1 => with_reducible assumption); (case hm => tb_rel); (case hd => first | with_reducible assumption | with_reducible exact isDict_nil _); (case hme => tb_rel); (case he => first | with_reducible assumption | with_reducible exact isDict_nil _); (case hde => tb_start)); (intro s' hr' kS'); (have kR' := Rest.comp kR hr'); clear kS kR hr'; (have kF := kS'.F); (have kN := kS'.N); (try k_sweep)))
local macro_rules | `(tactic| walk_at "call builtin:dict.get") => `(tactic| (k_here; (with_reducible show wpAny _ _ (call _ [_, _, _]) _ _ _); (with_reducible rename St _ _ _ _ _ => kS); (with_reducible rename Rest _ _ => kR); k_dflt (refine' get2_D (knd := intKind PP _) ?h0 kS ?hm ?hd ?hk ?hv ?_; (case h0 => with_reducible assumption); (case hm => tb_rel); (case hd => first | with_reducible assumption | with_reducible exact isDict_nil _); (case hk => exact intKind_is _ _ _ _); (case hv => first | exact getD_of_none (by assumption) | exact getD_of_some (by assumption))); (intro s' hr' kS'); (have kR' := Rest.comp kR hr'); clear kS kR hr'; (have kF := kS'.F); (have kN := kS'.N); (try k_sweep)))
local macro_rules | `(tactic| walk_at "getMethod ref") => `(tactic| (k_here; k_dflt (first
  | ((with_reducible show wpAny _ _ (getMethod (Value.ref _) (Str.ofString "update") _) _ _ _); refine' getM_DU (knd := strKind PP _) ?h0 ?S ?hm ?hd ?_; (case h0 => with_reducible assumption); (case S => assumption); (case hm => tb_rel); (case hd => first | with_reducible assumption | with_reducible exact isDict_nil _))
  | ((with_reducible show wpAny _ _ (getMethod (Value.ref _) (Str.ofString "get") _) _ _ _); refine' getM_DG (knd := intKind PP _) ?h0 ?S ?hm ?hd ?_; (case h0 => with_reducible assumption); (case S => assumption); (case hm => tb_rel); (case hd => first | with_reducible assumption | with_reducible exact isDict_nil _)))))
local macro_rules | `(tactic| walk_at "LeaveK") => `(tactic| ((with_reducible rename St _ _ _ _ _ => kS); (refine leaveS (by assumption) kS ?_); (intro kS'); clear kS; (try dsimp only)))
local macro_rules | `(tactic| walk_at "newTuple") => `(tactic| (k_here; (with_reducible rename St _ _ _ _ _ => kS); (with_reducible rename Rest _ _ => kR); k_dflt (refine' tupS kS ?_ ?hz; (case hz => size_fits)); (intro t' s' hr' kS' l1); (have hm' := cons_mem kS'); (have kR' := Rest.comp kR hr'); clear kS kR hr'; (have kF := kS'.F); (have kN := kS'.N); (try k_sweep)))
local macro_rules | `(tactic| walk_at "newList") => `(tactic| (k_here; (with_reducible rename St _ _ _ _ _ => kS); (with_reducible rename Rest _ _ => kR); k_dflt (refine' listS kS ?_ ?hz; (case hz => size_fits)); (intro t' s' hr' kS' l1); (have hm' := cons_mem kS'); (have kR' := Rest.comp kR hr'); clear kS kR hr'; (have kF := kS'.F); (have kN := kS'.N); (try k_sweep)))
local macro_rules | `(tactic| walk_at "unpackItems ref") => `(tactic| (k_here; (with_reducible rename Cx _ _ _ _ _ => kC); (with_reducible rename St _ _ _ _ _ => kS); (with_reducible rename Rest _ _ => kR); k_dflt (refine' unpackS ?h0 kS ?hm (Cx.hh kC) ?hn ?_; (case h0 => with_reducible assumption); (case hm => tb_rel); (case hn => exact rfl)); (intro s' hr' kS'); (have kR' := Rest.comp kR hr'); clear kS kR hr'; (have kF := kS'.F); (have kN := kS'.N); (try k_sweep)))
local macro_rules | `(tactic| walk_at "compareOp NotEq int int") => `(tactic| first | with_reducible refine ne_int_t (by with_reducible assumption) ?_ | with_reducible refine ne_int_f (by with_reducible assumption) ?_)
local macro_rules | `(tactic| walk_at "compareOp Eq int int") => `(tactic| first | with_reducible refine eq_int_t (by with_reducible assumption) ?_ | with_reducible refine eq_int_f (by with_reducible assumption) ?_)
local macro_rules | `(tactic| walk_at "setAttr ref") => `(tactic| (k_here; (with_reducible rename Cx _ _ _ _ _ => kC); (with_reducible rename St _ _ _ _ _ => kS); (with_reducible rename Rest _ _ => kR); k_dflt (refine' setAttrS kC kS ?h1 ?h2 ?k6 ?k7 ?k8 ?k9 ?k10 ?k11 ?k13 ?_; (case h1 => tb_rel); (case h2 => tb_rel); (case k6 => k_is); (case k7 => k_is); (case k8 => k_is); (case k9 => k_is); (case k10 => k_get); (case k11 => k_put); (case k13 => exact Nat.le_of_ble_eq_true rfl)); (intro s' hr' kS' hm'); (have kR' := Rest.comp kR hr'); clear kS kR hr'; (have kF := kS'.F); (have kN := kS'.N); (try k_sweep)))

local macro_rules | `(tactic| walk_at "subscriptTail Name BinOp ref int") => `(tactic| (k_here; (with_reducible rename St _ _ _ _ _ => kS); k_dflt (refine' subL ?h0 kS ?hm ?hx ?hn ?hh ?_; (case h0 => with_reducible assumption); (case hm => tb_rel); (case hx => first | with_reducible assumption | exact rfl); (case hn => first | decide | omega); (case hh => first | decide | omega))))
local macro_rules | `(tactic| walk_at "subscriptTail Name Constant ref int") => `(tactic| (k_here; (with_reducible rename St _ _ _ _ _ => kS); k_dflt (refine' subL ?h0 kS ?hm ?hx ?hn ?hh ?_; (case h0 => with_reducible assumption); (case hm => tb_rel); (case hx => first | with_reducible assumption | exact rfl); (case hn => first | decide | omega); (case hh => first | decide | omega))))
local macro_rules | `(tactic| walk_at "subscriptTail Name Name ref int") => `(tactic| (k_here; (with_reducible rename St _ _ _ _ _ => kS); k_dflt (refine' subL ?h0 kS ?hm ?hx ?hn ?hh ?_; (case h0 => with_reducible assumption); (case hm => tb_rel); (case hx => first | with_reducible assumption | exact rfl); (case hn => first | decide | omega); (case hh => first | decide | omega))))
local macro_rules | `(tactic| walk_at "subscriptTail Subscript Name Constant ref int") => `(tactic| (k_here; (with_reducible rename St _ _ _ _ _ => kS); k_dflt (refine' subL ?h0 kS ?hm ?hx ?hn ?hh ?_; (case h0 => with_reducible assumption); (case hm => tb_rel); (case hx => first | with_reducible assumption | exact rfl); (case hn => first | decide | omega); (case hh => first | decide | omega))))
local macro_rules | `(tactic| walk_at "subscriptTail Subscript Name Constant BinOp ref int") => `(tactic| (k_here; (with_reducible rename St _ _ _ _ _ => kS); k_dflt (refine' subL ?h0 kS ?hm ?hx ?hn ?hh ?_; (case h0 => with_reducible assumption); (case hm => tb_rel); (case hx => first | with_reducible assumption | exact rfl); (case hn => first | decide | omega); (case hh => first | decide | omega))))
local macro_rules | `(tactic| walk_at "subscriptTail Subscript Name Name ref int") => `(tactic| (k_here; (with_reducible rename St _ _ _ _ _ => kS); k_dflt (refine' subL ?h0 kS ?hm ?hx ?hn ?hh ?_; (case h0 => with_reducible assumption); (case hm => tb_rel); (case hx => first | with_reducible assumption | exact rfl); (case hn => first | decide | omega); (case hh => first | decide | omega))))
local macro_rules | `(tactic| walk_at "subscriptTail List Name ref int") => `(tactic| (k_here; (with_reducible rename St _ _ _ _ _ => kS); k_dflt (refine' subL ?h0 kS ?hm ?hx ?hn ?hh ?_; (case h0 => with_reducible assumption); (case hm => tb_rel); (case hx => first | with_reducible assumption | exact rfl); (case hn => first | decide | omega); (case hh => first | decide | omega))))
local macro_rules | `(tactic| walk_at "subscriptTail List cons Name ref int") => `(tactic| (k_here; (with_reducible rename St _ _ _ _ _ => kS); k_dflt (refine' subL ?h0 kS ?hm ?hx ?hn ?hh ?_; (case h0 => with_reducible assumption); (case hm => tb_rel); (case hx => first | with_reducible assumption | exact rfl); (case hn => first | decide | omega); (case hh => first | decide | omega))))
local macro_rules | `(tactic| walk_at "subscriptTail Subscript Name BinOp ref int") => `(tactic| (k_here; (with_reducible rename St _ _ _ _ _ => kS); k_dflt (refine' subL ?h0 kS ?hm ?hx ?hn ?hh ?_; (case h0 => with_reducible assumption); (case hm => tb_rel); (case hx => first | with_reducible assumption | exact rfl); (case hn => first | decide | omega); (case hh => first | decide | omega))))
local macro_rules | `(tactic| walk_at "getItem ref int") => `(tactic| (k_here; (with_reducible rename St _ _ _ _ _ => kS); k_dflt (refine' getL ?h0 kS ?hm ?hx ?hn ?hh ?_; (case h0 => with_reducible assumption); (case hm => tb_rel); (case hx => first | with_reducible assumption | exact rfl); (case hn => first | decide | omega); (case hh => first | decide | omega))))
local macro_rules | `(tactic| walk_at "setItem ref int int") => `(tactic| (k_here; (with_reducible rename St _ _ _ _ _ => kS); (with_reducible rename Rest _ _ => kR); k_dflt (refine' setL ?h0 kS ?hm ?hn ?hh ?hk ?hv ?_; (case h0 => with_reducible assumption); (case hm => tb_rel); (case hn => first | decide | omega); (case hh => first | decide | omega); (case hk => first | decide | (simp; done) | (simp; omega)); (case hv => first | (simp only [Int.toNat_one, Int.toNat_zero, Int.toNat_natCast, List.set_cons_succ, List.set_cons_zero]; exact rfl) | exact rfl)); (intro s' hr' kS' hm'); (have kR' := Rest.comp kR hr'); clear kS kR hr'; (have kF := kS'.F); (have kN := kS'.N); (try k_sweep)))
local macro_rules | `(tactic| walk_at "call builtin:len") => `(tactic| (k_here; (with_reducible rename St _ _ _ _ _ => kS); (with_reducible rename Rest _ _ => kR); k_dflt (refine' lenListS ?h0 kS ?hm ?hz ?_; (case h0 => with_reducible assumption); (case hm => tb_rel); (case hz => first | with_reducible assumption | omega)); (intro s' t' hr' kS'); (have kR' := Rest.comp kR hr'); clear kS kR hr'; (have kF := kS'.F); (have kN := kS'.N); (try k_sweep)))

local macro_rules | `(tactic| walk_at "eval Name") => `(tactic| (k_here; (with_reducible rename Cx _ _ _ _ _ => kC); (with_reducible rename St _ _ _ _ _ => kS); k_dflt (first
  | (refine' nmL kS ?hv ?_ ?hk ?hx ?hL ?hd; (case hx => exact rfl); (case hk => exact rfl); (case hL => exact rfl); (case hd => decide); (case hv => first | with_reducible assumption | exact rfl))
  | (refine' nmC kS ?hc ?hm ?hd ?_ ?hk ?hx ?hb; (case hx => exact rfl); (case hk => exact rfl); (case hb => decide); (case hc => exact rfl); (case hm => tb_rel); (case hd => with_reducible assumption))
  | (refine' nmF kS ?hc ?hm ?hd ?_ ?hk ?hx ?hb ?hn; (case hx => exact rfl); (case hk => exact rfl); (case hb => decide); (case hn => decide); (case hc => exact rfl); (case hm => tb_rel); (case hd => with_reducible assumption))
  | (refine' nmB kC kS ?he ?hv ?hn ?_ ?hg ?hbb ?hx ?hd; (case hx => exact rfl); (case he => exact rfl); (case hg => exact rfl); (case hbb => exact rfl); (case hd => decide); (case hv => first | boot_fast | exact rfl); (case hn => decide))
  | (refine' nmG kC kS ?he ?_ ?hg ?hx ?hd; (case hx => exact rfl); (case he => exact rfl); (case hg => exact rfl); (case hd => decide)))))
local macro_rules | `(tactic| walk_at "binaryOp Add ref ref") => `(tactic| (k_here; (with_reducible rename St _ _ _ _ _ => kS); (with_reducible rename Rest _ _ => kR); k_dflt (refine' addLS ?h0 ?h1 kS ?hm ?hn ?hz ?_; (case h0 => with_reducible assumption); (case h1 => with_reducible assumption); (case hm => tb_rel); (case hn => tb_rel); (case hz => first | with_reducible assumption | (simp only [List.length_cons, List.length_nil]; omega))); (intro t' s' hr' kS' l1); (have hm' := cons_mem kS'); (have kR' := Rest.comp kR hr'); clear kS kR hr'; (have kF := kS'.F); (have kN := kS'.N); (try k_sweep)))
local macro_rules | `(tactic| walk_at "storeName") => `(tactic| (k_here; (with_reducible rename St _ _ _ _ _ => kS); (with_reducible rename Rest _ _ => kR); k_dflt (refine' storeC kS ?hc ?hm ?hd ?_ ?hk ?hx; (case hx => exact rfl); (case hk => exact rfl); (case hc => exact rfl); (case hm => tb_rel); (case hd => with_reducible assumption)); (intro s' o' hr' kS' hd' hm'); (have kR' := Rest.comp kR hr'); clear kS kR hr'; (have kF := kS'.F); (have kN := kS'.N); (try k_sweep)))
local macro_rules | `(tactic| walk_at "call builtin:all") => `(tactic| (k_here; (with_reducible rename Cx _ _ _ _ _ => kC); (with_reducible rename St _ _ _ _ _ => kS); (with_reducible rename Rest _ _ => kR); k_dflt (refine' allBools (Cx.hh kC) ?h0 kS ?hm ?_; (case h0 => with_reducible assumption); (case hm => tb_rel)); (intro s' hr' kS'); (have kR' := Rest.comp kR hr'); clear kS kR hr'; (have kF := kS'.F); (have kN := kS'.N); (try k_sweep)))
local macro_rules | `(tactic| walk_at "call builtin:any") => `(tactic| (k_here; (with_reducible rename Cx _ _ _ _ _ => kC); (with_reducible rename St _ _ _ _ _ => kS); (with_reducible rename Rest _ _ => kR); k_dflt (refine' anyBools (Cx.hh kC) ?h0 kS ?hm ?_; (case h0 => with_reducible assumption); (case hm => tb_rel)); (intro s' hr' kS'); (have kR' := Rest.comp kR hr'); clear kS kR hr'; (have kF := kS'.F); (have kN := kS'.N); (try k_sweep)))
local macro_rules | `(tactic| walk_at "call type:range") => `(tactic| (k_here; (with_reducible rename St _ _ _ _ _ => kS); (with_reducible rename Rest _ _ => kR); k_dflt (first | refine' rangeS1 kS ?_ | refine' rangeS2 kS ?_); (intro r' t1' t2' t3' s' hr' kS' l1); (have hm' := cons_mem kS'); (have kR' := Rest.comp kR hr'); clear kS kR hr'; (have kF := kS'.F); (have kN := kS'.N); (try k_sweep)))
local macro_rules | `(tactic| walk_at "loadName") => `(tactic| (k_here; (with_reducible rename St _ _ _ _ _ => kS); k_dflt (refine' ldL kS ?hv ?_ ?hk ?hx ?hL; (case hx => exact rfl); (case hk => exact rfl); (case hL => exact rfl); (case hv => first | with_reducible assumption | exact rfl))))

local macro_rules | `(tactic| walk_at "assign Tuple cons ref") => `(tactic| (k_here; (with_reducible rename Cx _ _ _ _ _ => kC); (with_reducible rename St _ _ _ _ _ => kS); (with_reducible rename Rest _ _ => kR); k_dflt (refine' assignTupS ?h0 kS ?hm (Cx.hh kC) ?hn ?hs ?_; (case h0 => with_reducible assumption); (case hm => tb_rel); (case hn => exact rfl); (case hs => exact rfl)); (intro s' hr' kS'); (have kR' := Rest.comp kR hr'); clear kS kR hr'; (have kF := kS'.F); (have kN := kS'.N); (try k_sweep)))

local macro_rules | `(tactic| walk_at "compareOp NotIn ref ref") => `(tactic| (k_here; (with_reducible rename St _ _ _ _ _ => kS); (with_reducible rename Rest _ _ => kR); k_dflt (refine' notinTupS kS ?he ?hs ?hx ?hb ?hu ?_; (case he => with_reducible assumption); (case hs => (intro p hp; tb_rel)); (case hx => tb_rel); (case hb => with_reducible assumption); (case hu => with_reducible apply_assumption)); (intro s' hr' kS'); (have kR' := Rest.comp kR hr'); clear kS kR hr'; (have kF := kS'.F); (have kN := kS'.N); (try k_sweep)))
local macro_rules | `(tactic| walk_at "call builtin:min") => `(tactic| (k_here; (with_reducible rename Cx _ _ _ _ _ => kC); (with_reducible rename St _ _ _ _ _ => kS); (with_reducible rename Rest _ _ => kR); k_dflt (refine' minS (Cx.hh kC) kS ?_); (intro s' t' hr' kS'); (have kR' := Rest.comp kR hr'); clear kS kR hr'; (have kF := kS'.F); (have kN := kS'.N); (try k_sweep)))
local macro_rules | `(tactic| walk_at "call builtin:max") => `(tactic| (k_here; (with_reducible rename Cx _ _ _ _ _ => kC); (with_reducible rename St _ _ _ _ _ => kS); (with_reducible rename Rest _ _ => kR); k_dflt (refine' maxS (Cx.hh kC) kS ?_); (intro s' t' hr' kS'); (have kR' := Rest.comp kR hr'); clear kS kR hr'; (have kF := kS'.F); (have kN := kS'.N); (try k_sweep)))

set_option maxHeartbeats 16000000 in
theorem law_c {w : World} {A : Around} {s : Shared} {R : Result → Shared → Prop} {mean : ExcName → Option Value} {mg mb : Str → Option Value} {sl : Addr} {vals : List Value} {ns : List Int}
  (TA : TabsAt [(34, 30), (73, 69)] s.heap) (X : (hd.heap_39 w.params).In s.heap) (T : Top thinP thinL mean mg mb s.heap) (hh : A.handled = none) (hfr : A.frames = some []) (hsl : s.heap.IsList sl vals.toArray) (hi : IntsAre vals ns) (hlen : vals.length ≤ 63)
  (hroom : A.depth + 100 < recursionLimit) (hu : A.units + 500 < cLine) (hbare : AllBare s.gens)
  (h : ∀ s', OldK s.heap s'.heap → s'.os = s.os → AllBare s'.gens → R (.ok (.ret (.bool true))) s') : codeAny (model PP w) A (.call (.ref 341) ⟨[.ref sl], []⟩) R s := by
  refine enterTop (binds := [(Str.ofString "script", .ref sl)]) (cn := [Str.ofString "edges", Str.ofString "n"]) TA (by simp) (by simp) X T hh (by k_is) (by k_is) (BindsTo.of_eq rfl) (fun _ => kinds_of (by kinds_ok)) rfl (by decide) (fun L' s₁ cs cells hr C' hcs Y S' hab => ?_) (by omega)
  have hcs2 : ∃ c1 c2, cs = [(Str.ofString "edges", c2), (Str.ofString "n", c1)] := by
    match cs, hcs with
    | [(x, c2), (y, c1)], h => simp at h; exact ⟨c1, c2, by rw [h.1, h.2]⟩
  obtain ⟨c1, c2, rfl⟩ := hcs2
  obtain ⟨o2, o1, rfl, ho2, ho1⟩ := Y.two
  have hunG : ∀ e : Env, (A.deeper e).units + 10 < cLine := fun e => by show A.units + 3 + 10 < cLine; omega
  replace ho2 : o2.data = .cell none := ho2
  replace ho1 : o1.data = .cell none := ho1
  clear Y
  have F := S'.F
  have N := S'.N
  have X := C'.X
  obtain ⟨mean, mg, mb, T⟩ := C'.T
  iterate 11 (first | walk1 | (dsimp only; walk1))
  rename St _ _ _ _ _ => kS
  rename Cx _ _ _ _ _ => C'
  rename Rest _ _ => kR
  refine sliceS (s := ⟨_, _, _, _, _⟩) kS (kS.F.lst (ghost_list TA hsl)) (by omega) fun D1 s₂ hr₂ S₂ hab2 => ?_
  have hr := Rest.comp kR hr₂
  clear kS kR hr₂
  have hvs : ∀ v ∈ vals.take 60, ∃ k t, v = .int k t := fun v hv => by
    obtain ⟨k, hk⟩ := List.getElem?_of_mem (List.mem_of_mem_take hv)
    obtain ⟨t, e⟩ := IntsAre.int_at hi k v hk
    exact ⟨_, t, e⟩
  have F := S₂.F
  have N := S₂.N
  iterate 17 (first | walk1 | (dsimp only; walk1))
  rename St _ _ _ _ _ => kS
  rename Cx _ _ _ _ _ => C'
  rename Rest _ _ => kR
  rename (Above _ _) => hab3
  rename_i sa _ _ _ _ _
  have hvl : (vals.take 60).length ≤ 1000 := by have := List.length_take_le' 60 vals; omega
  refine ⟨C'.X.keeps kS.F.keep, ?_⟩
  refine wpAny_call (next_c (lim := 5) C' kS List.mem_cons_self (.tail _ (.head _)) hvs hvl (by omega) (by omega) (by omega) (by omega) (by show A.depth + 1 < recursionLimit; omega) fun s₃ ti r t hr₃ hr5 S₃ => ?_)
  have hr := Rest.comp kR hr₃
  replace S₃ := St.put_hd S₃
  clear kS kR hr₃
  have F := S₃.F
  have N := S₃.N
  iterate 1 (first | walk1 | (dsimp only; walk1))
  rw [show (1 : Int) + (r : Int) = ((r + 1 : Nat) : Int) by omega]
  generalize hn : r + 1 = n
  iterate 1 (first | walk1 | (dsimp only; walk1))
  rename St _ _ _ _ _ => kS
  rename (Obj.data _ = Data.cell (some (Value.int _ _))) => hc1
  rename Obj => o1'
  replace kS := St.put_at (pre := [(_, _), (_, _), (_, _)]) kS
  replace kS : St _ L' _ ((sa, lst [Value.ref D1, Value.int (0 + 1) ti] 0) :: (D1, lst (vals.take 60) 0) :: (c2, o2) :: (c1, o1') :: tabNews [(34, 30), (73, 69)]) _ := kS
  have F := kS.F
  have N := kS.N
  iterate 7 (first | walk1 | (dsimp only; walk1))
  rename St _ _ _ _ _ => kS
  rename Cx _ _ _ _ _ => C'
  rename Rest _ _ => kR
  rename (Obj.data _ = Data.cell (some (Value.ref _))) => hc2
  rename Obj => o2'
  replace kS := St.put_at (pre := [(_, _), (_, _), (_, _)]) kS
  obtain ⟨el, hel⟩ : ∃ el, o2'.data = .cell (some (.ref el)) := ⟨_, hc2⟩
  have hel2 := hel.symm.trans hc2
  injection hel2 with hel2
  injection hel2 with hel2
  injection hel2 with hel2
  rw [← hel2] at kS
  clear hc2
  replace kS : St _ L' _ ((el, lst [] 0) :: (sa, lst [Value.ref D1, Value.int (0 + 1) ti] 0) :: (D1, lst (vals.take 60) 0) :: (c2, o2') :: (c1, o1') :: tabNews [(34, 30), (73, 69)]) _ := kS
  replace kS := kS.perm (List.Perm.swap _ _ _)
  generalize hbase : (D1, lst (vals.take 60) 0) :: (c2, o2') :: (c1, o1') :: tabNews [(34, 30), (73, 69)] = base at kS
  have hD1b : (D1, lst (vals.take 60) 0) ∈ base := by rw [← hbase]; simp
  have hc2b : (c2, o2') ∈ base := by rw [← hbase]; simp
  have hc1b : (c1, o1') ∈ base := by rw [← hbase]; simp
  clear hab hab2 hab3
  have F := kS.F
  have N := kS.N
  refine forC (h₀ := ghostOf s.heap [(34, 30), (73, 69)]) (L := L') C'.hh ?_
  iterate 12 (first | walk1 | (dsimp only; walk1))
  rename St _ _ _ _ _ => kS
  rename Cx _ _ _ _ _ => C'
  rename Rest _ _ => kR
  refine ⟨C'.X.keeps kS.F.keep, ?_⟩
  refine wpAny_call (next_c (lim := 7) C' kS List.mem_cons_self (.tail _ (.tail _ hD1b)) hvs hvl (by omega) (by omega) (by omega) (by omega) (by show A.depth + 1 < recursionLimit; omega) fun s₄ ti4 r7 t7 hr₄ hr7 S₄ => ?_)
  have hr := Rest.comp kR hr₄
  replace S₄ := St.put_hd S₄
  clear kS kR hr₄
  have F := S₄.F
  have N := S₄.N
  iterate 2 (first | walk1 | (dsimp only; walk1))
  rename St _ _ _ _ _ => kS
  rename Cx _ _ _ _ _ => C'
  rename Rest _ _ => kR
  refine iter_rng kS List.mem_cons_self (N := r7) (by omega) (by omega) (by omega) (by omega) fun I o s₅ hr₅ S₅ hP => ?_
  have hr := Rest.comp kR hr₅
  clear kR kS hr₅
  replace S₅ := S₅.sub (.cons_cons _ (.cons _ (List.Sublist.refl _)))
  refine ⟨I, o, r7, _, _, _, [Str.ofString "a", Str.ofString "b"], _, _, fun k nw g q => ∃ (x : Int) (tx : Tok) (ec : Nat) (ets : List Addr) (es : List (Nat × Nat)) (il : List (Addr × Obj)), nw = (sa, lst [Value.ref D1, Value.int x tx] 0) :: (el, lst (ets.map .ref) ec) :: (il ++ base) ∧ 0 ≤ x ∧ x ≤ 10 + 2 * k ∧
      EdgesIn ((el, lst (ets.map .ref) ec) :: (il ++ base)) el ec ets es ∧ (∀ e ∈ es, e.1 ≤ e.2 ∧ e.2 < n) ∧ es.Nodup ∧ es.length ≤ k ∧ g = s.gens ∧ q = s.os, rfl, Iter.range I 0 r7, S₅, hP,
    ⟨_, _, 0, [], [], [], rfl, by omega, by omega, ⟨.head _, rfl, fun k t ht => by simp at ht⟩, (fun e he => nomatch he), List.nodup_nil, by simp, hr.1, hr.2⟩, fun _ _ _ _ _ => trivial, ?_, ?_⟩
  · rintro k _ FF nw o' s₆ hk ⟨tv, rfl⟩ ⟨x, tx, ec, ets, es, il, rfl, hx0, hx1, he, hle, hnd, hlen6, hg, hq⟩ hP' S₆
    have kR : Rest s s₆ := ⟨hg, hq⟩
    clear hg hq S₅ hr hP
    have F := S₆.F
    have N := S₆.N
    iterate 10 (first | walk1 | (dsimp only; walk1))
    rename St _ _ _ _ _ => kS
    rename Cx _ _ _ _ _ => C'
    rename Rest _ _ => kR
    refine ⟨C'.X.keeps kS.F.keep, ?_⟩
    have hsc1 : (D1, lst (vals.take 60) 0) ∈ (I, o') :: (sa, lst [Value.ref D1, Value.int x tx] 0) :: (el, lst (ets.map .ref) ec) :: (il ++ base) := .tail _ (.tail _ (.tail _ (List.mem_append_right _ hD1b)))
    refine wpAny_call (next_c (lim := n) C' kS (.tail _ (.head _)) hsc1 hvs hvl (by omega) (by omega) (by omega) (by omega) (by show A.depth + 1 < recursionLimit; omega) fun s₇ ta a tka hr₇ han S₇ => ?_)
    have kR₇ := Rest.comp kR hr₇
    replace S₇ := St.put_at (pre := [(I, o')]) S₇
    replace S₇ : St _ L' _ ((I, o') :: (sa, lst [Value.ref D1, Value.int (x + 1) ta] 0) :: (el, lst (ets.map .ref) ec) :: (il ++ base)) _ := S₇
    clear kS kR hr₇ hsc1
    have F := S₇.F
    have N := S₇.N
    iterate 11 (first | walk1 | (dsimp only; walk1))
    rename St _ _ _ _ _ => kS
    rename Cx _ _ _ _ _ => C'
    rename Rest _ _ => kR
    refine ⟨C'.X.keeps kS.F.keep, ?_⟩
    have hsc1 : (D1, lst (vals.take 60) 0) ∈ (I, o') :: (sa, lst [Value.ref D1, Value.int (x + 1) ta] 0) :: (el, lst (ets.map .ref) ec) :: (il ++ base) := .tail _ (.tail _ (.tail _ (List.mem_append_right _ hD1b)))
    refine wpAny_call (next_c (lim := n) C' kS (.tail _ (.head _)) hsc1 hvs hvl (by omega) (by omega) (by omega) (by omega) (by show A.depth + 1 < recursionLimit; omega) fun s₈ tb b tkb hr₈ hbn S₈ => ?_)
    have kR₈ := Rest.comp kR hr₈
    replace S₈ := St.put_at (pre := [(I, o')]) S₈
    replace S₈ : St _ L' _ ((I, o') :: (sa, lst [Value.ref D1, Value.int (x + 1 + 1) tb] 0) :: (el, lst (ets.map .ref) ec) :: (il ++ base)) _ := S₈
    clear kS kR hr₈ hsc1
    have F := S₈.F
    have N := S₈.N
    by_cases hmem : (min a b, max a b) ∈ es
    · have hmb := decide_eq_true hmem
      iterate 33 (first | walk1 | (dsimp only; walk1))
      rename St _ _ _ _ _ => kS
      rename Rest _ _ => kR
      exact ⟨_, _, kS.sub (.cons _ (List.Sublist.refl _)), by (intro y hy; (simp only [List.mem_cons, List.not_mem_nil, or_false, not_or] at hy); simp only [ovr, hy, if_false, or_self, List.mem_cons, List.not_mem_nil, ite_self]), x + 1 + 1, tb, ec, ets, es, il, rfl, by omega, by omega, he, hle, hnd, by omega, kR.1, kR.2⟩
    · have hmb := decide_eq_false hmem
      iterate 62 (first | walk1 | (dsimp only; walk1))
      rename St _ _ _ _ _ => kS
      rename Rest _ _ => kR
      refine appendS he.1 kS (by tb_rel) (by rw [List.length_map, he.2.1]; omega) fun s₉ hr₉ S₉ _ => ?_
      have hr := Rest.comp kR hr₉
      replace S₉ := St.put_at (pre := [(_, _), (_, _), (_, _), (_, _)]) S₉
      clear kS kR hr₉
      have F := S₉.F
      have N := S₉.N
      iterate 2 (first | walk1 | (dsimp only; walk1))
      rename St _ _ _ _ _ => kS
      rename Rest _ _ => kR
      replace kS := kS.sub (.cons_cons _ (.cons _ (List.Sublist.refl _)))
      refine ⟨_, _, kS.perm (List.perm_middle (l₁ := [(_, _), (_, _), (_, _)])).symm, by (intro y hy; (simp only [List.mem_cons, List.not_mem_nil, or_false, not_or] at hy); simp only [ovr, hy, if_false, or_self, List.mem_cons, List.not_mem_nil, ite_self]), x + 1 + 1, tb, ec + 1, ets ++ [_], es ++ [(min a b, max a b)], (_, _) :: il, by rw [List.map_append]; rfl, by omega, by omega, edges_push he, fun e hee => ?_, ?_, by rw [List.length_append, List.length_singleton]; omega, kR.1, kR.2⟩
      · rcases List.mem_append.mp hee with q | q
        · exact hle e q
        · rw [List.mem_singleton.mp q]; show min a b ≤ max a b ∧ max a b < n; omega
      · rw [List.nodup_append]
        exact ⟨hnd, by simp, fun u hu v hv q => by rw [List.mem_singleton] at hv; rw [q, hv] at hu; exact hmem hu⟩
  · rintro FF nw s₆ ⟨x, tx, ec, ets, es, il, rfl, hx0, hx1, he, hle, hnd, hlen6, hg, hq⟩ S₆
    have kR : Rest s s₆ := ⟨hg, hq⟩
    clear hg hq S₅ hr hP
    have F := S₆.F
    have N := S₆.N
    rw [← hbase] at S₆ he
    have hc2K : (c2, o2') ∈ (sa, lst [Value.ref D1, Value.int x tx] 0) :: (el, lst (ets.map .ref) ec) :: (il ++ [(D1, lst (vals.take 60) 0), (c2, o2'), (c1, o1')]) := by simp
    have hc1K : (c1, o1') ∈ (sa, lst [Value.ref D1, Value.int x tx] 0) :: (el, lst (ets.map .ref) ec) :: (il ++ [(D1, lst (vals.take 60) 0), (c2, o2'), (c1, o1')]) := by simp
    have heK : EdgesIn ((sa, lst [Value.ref D1, Value.int x tx] 0) :: (el, lst (ets.map .ref) ec) :: (il ++ [(D1, lst (vals.take 60) 0), (c2, o2'), (c1, o1')])) el ec ets es := by
      refine ⟨.tail _ (.head _), he.2.1, fun k t ht => ?_⟩
      obtain ⟨u, v, tu, tv, q1, q2⟩ := he.2.2 k t ht
      refine ⟨u, v, tu, tv, q1, ?_⟩
      have ht1 : ∀ P : Addr, (t, tupO [.int (u : Nat) tu, .int (v : Nat) tv]) ≠ (P, tabObj #[]) := fun P q => by
        have h3 : (Value.type "tuple" : Value) = .none := congrArg Obj.cls (congrArg Prod.snd q)
        cases h3
      have ht30 := ht1 30
      have ht69 := ht1 69
      simp only [List.mem_cons, List.mem_append, List.map_cons, List.map_nil, ht30, ht69, List.not_mem_nil, or_false] at q2 ⊢
      rcases q2 with q | q | q | q | q
      · exact .inr (.inl q)
      · exact .inr (.inr (.inl q))
      · exact .inr (.inr (.inr (.inl q)))
      · exact .inr (.inr (.inr (.inr (.inl q))))
      · exact .inr (.inr (.inr (.inr (.inr q))))
    replace S₆ : St _ L' _ ((30, tabObj #[]) :: (69, tabObj #[]) :: (sa, lst [Value.ref D1, Value.int x tx] 0) :: (el, lst (ets.map .ref) ec) :: (il ++ [(D1, lst (vals.take 60) 0), (c2, o2'), (c1, o1')])) _ := S₆.perm (perm_tabs _ _ _ _ _ _ _ _)
    generalize (sa, lst [Value.ref D1, Value.int x tx] 0) :: (el, lst (ets.map .ref) ec) :: (il ++ [(D1, lst (vals.take 60) 0), (c2, o2'), (c1, o1')]) = K at S₆ hc2K hc1K heK
    clear he hbase hD1b hc2b hc1b
    have F := S₆.F
    have N := S₆.N
    iterate 5 (first | walk1 | (dsimp only; walk1))
    rename St _ _ _ _ _ => kS
    rename Cx _ _ _ _ _ => C'
    rename Rest _ _ => kR
    refine graph_new C' kS List.mem_cons_self (by show A.depth + 1 + 1 < recursionLimit; omega) fun s₇ gl ga hr₇ HG S₇ => ?_
    have hr := Rest.comp kR hr₇
    clear kR kS hr₇
    have H1 := HG.inst
    obtain ⟨t1, t2, t3, gr, H2⟩ := HG.dict
    have F := S₇.F
    have N := S₇.N
    iterate 16 (first | walk1 | (dsimp only; walk1))
    rename St _ _ _ _ _ => kS
    rename Cx _ _ _ _ _ => C'
    rename Rest _ _ => kR
    refine ⟨C'.X.keeps kS.F.keep, ?_⟩
    refine wpAny_call (add_nodes_from_c (N := n) C' kS.mid HG rfl (List.mem_cons_self) (by omega) (by show A.depth + 1 + 1 < recursionLimit; omega) fun s₈ gl8 ga8 hr₈ hg8 HG8 S₈ => ?_)
    have hr := Rest.comp kR hr₈
    replace S₈ := S₈.unmid
    clear kR kS hr₈ HG H1 H2
    have F := S₈.F
    have N := S₈.N
    have kS := S₈
    have kR := hr
    rw [← hg8] at kS
    dsimp only
    have ho := (show (hd.heap_39 w.params).lookup 341 = some ⟨_, _, .func (fnOf _ _ _ _ _ _ _ _ _ _ _ _), _⟩ by k_is)
    have hS := kS.upN (x := Str.ofString "G") (v := .ref ga8.g) rfl
    refine wpAny_mono (law_main ho C' hS ?hf ?hro ?hun hc1K hc1 hc2K hel heK hle hnd (by omega) (by omega) (by omega) HG8 (TabOk.nil _) (TabOk.nil _) ?hba ?hend) (fun _ _ z => z) fun _ _ z => z
    case hf => show A.frames.map _ = _; rw [hfr]; rfl
    case hro => show A.depth + 1 + 90 < recursionLimit; omega
    case hun => show A.units + 3 + 400 < cLine; omega
    case hba => rw [kR.1]; exact hbare
    case hend =>
      intro s' m' K' o30' o69' hos hb q30 q69 S'
      obtain ⟨ps, rfl, _⟩ := q30
      obtain ⟨ps', rfl, _⟩ := q69
      refine h s' (old_tabs TA S'.F.keep fun q hq => ?_) (hos.trans kR.2) hb
      rcases List.mem_cons.mp hq with rfl | hq
      · exact ⟨ps, S'.get (.head _)⟩
      · rw [List.mem_singleton.mp hq]; exact ⟨ps', S'.get (.tail _ (.head _))⟩

end Mine
end
section
open PySem PySem.W PySem.Calls PyProof.Rows
set_option maxRecDepth 100000
set_option maxHeartbeats 8000000 in
theorem PySem.Challenge.cw_bs0017_01_holds : PySem.Challenge.rw_bs0017_01.Holds := by
  refine Mine.hd ?_
  k_fill
  intro w s₀ s₁ mg mb G Y fa o pm cd doc dV kV ho hdd hcd hD hmg hg args vals as hpre hlay hrd hwl hlo
  have KX := kIn_of Y
  refine Ground.open G ?_
  intro T B D TE TW
  have t1 := tab_of T KX (x := Str.ofString "number_connected_components") rfl (Mine.tab_num w)
  have t2 := tab_of T KX (x := Str.ofString "color") rfl (Mine.tab_col w)
  have TA : TabsAt [(34, 30), (73, 69)] s₁.heap := fun q hq => by
    rcases List.mem_cons.mp hq with rfl | hq
    · exact t1
    · rw [List.mem_singleton.mp hq]; exact t2
  have hfa := hmg.symm.trans (mg_of KX T.g (Mine.law_at w))
  have TT := Mine.thin T
  have hg0 := hg
  wrow_args hpre hlay hrd hwl hlo
  refine enter_call ?_
  obtain rfl : fa = 341 := by injection hfa with e; injection e
  rename (Heap.IsList _ _ _) => hl
  rename (IntsAre _ _) => hi
  rename (¬ _ < _) => hc
  have hlen := hi.length
  refine Mine.law_c TA KX TT rfl rfl hl hi (by omega) (by decide) (by decide) (by rw [hg0]; exact .empty) fun s' hold hos hb => ?_
  exact ⟨.inl ⟨.bool true, .bool true, [], rfl, fun _ => rfl, .bool _, postW_of (by wrow_shape) (by wtm_val) (by first | rfl | decide | (str_meet; first | done | w_fin)), by first | exact unshared_nil | exact fun _ => ⟨List.nodup_nil, fun a ha => nomatch ha⟩⟩, hold, hos, hb⟩
end
