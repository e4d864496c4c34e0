import PyProof.Rows.All
import Wide.All
import OpenK.AllK
import Wide.FinOn
import PySem.Challenge.RW_tr0033_01
set_option Elab.async false
local macro_rules | `(tactic| walk_at $s:str) => `(tactic| k_extra $s)
section
open PySem PySem.W PyProof.Rows
set_option Elab.async false
set_option maxRecDepth 100000
set_option maxHeartbeats 40000000
namespace Mine
open_top hd for PySem.Challenge.rw_tr0033_01
end Mine
end
section
open PySem PySem.W PyProof.Rows PySem.Calls
set_option Elab.async false
set_option maxRecDepth 100000
set_option maxHeartbeats 40000000
namespace Mine

abbrev PG : Program := PySem.Challenge.rw_tr0033_01.row.prog

structure Grow (s s' : Shared) : Prop where
  keep : ∀ b o, s.heap.get? b = some o → s'.heap.get? b = some o
  bare : AllBare s.gens → AllBare s'.gens
  drawn : s'.drawn = s.drawn
  os : s'.os = s.os

theorem Grow.refl (s : Shared) : Grow s s := ⟨fun _ _ e => e, id, rfl, rfl⟩
theorem Grow.trans {s s' s'' : Shared} (x : Grow s s') (y : Grow s' s'') : Grow s s'' :=
  ⟨fun b o e => y.keep b o (x.keep b o e), fun h => y.bare (x.bare h), y.drawn.trans x.drawn, y.os.trans x.os⟩
theorem Grow.of {s : Shared} {h' : Heap} {g' : Array GenState} {tk : Nat} (k : ∀ b o, s.heap.get? b = some o → h'.get? b = some o) (b : AllBare s.gens → AllBare g') :
    Grow s { s with heap := h', gens := g', toks := tk } := ⟨k, b, rfl, rfl⟩
theorem Grow.eq {s s' : Shared} (x : Grow s s') : s' = { s with heap := s'.heap, gens := s'.gens, toks := s'.toks } := by
  obtain ⟨_, _, h3, h4⟩ := x
  cases s; cases s'; simp only at h3 h4; subst h3; subst h4; rfl

def Fn (w : World) (f : Addr) (args : List Value) (dp un : Nat) (Pre : Heap → Prop) (Post : Value → Heap → Prop) : Prop :=
  ∀ (A : Around) (base : Heap) (outer : List Env) (s : Shared) (mean : ExcName → Option Value) (mg mb : Str → Option Value) (E : Value → Shared → Prop),
    Below A base outer s.heap → (hd.heap_39 w.params).In s.heap → Top hd.view_39 (looseW hd.view_39 []) mean mg mb s.heap → A.handled = none →
    A.depth + dp < recursionLimit → A.units + un < cLine → AllBare s.gens → Pre s.heap →
    wpAny (model PG w) A (call (.ref f) args) (fun v s' => Grow s s' ∧ Post v s'.heap) E s

def FnEnd (s : Shared) (Post : Value → Heap → Prop) (fl : Flow) (s' : Shared) : Prop :=
  Grow s s' ∧ Post (match fl with | .ret v => v | _ => .none) s'.heap

theorem FnEnd.intro {s : Shared} {Post : Value → Heap → Prop} {fl : Flow} {s' : Shared} {L : Addr} {m : Str → Option Value} (F : Fr s.heap L s'.heap m)
    (hb : AllBare s.gens → AllBare s'.gens) (hd : s'.drawn = s.drawn) (ho : s'.os = s.os) (hp : Post (match fl with | .ret v => v | _ => .none) s'.heap) : FnEnd s Post fl s' :=
  ⟨⟨F.keep, hb, hd, ho⟩, hp⟩

theorem Fn.enter {w : World} {f : Addr} {args : List Value} {dp un : Nat} {Pre : Heap → Prop} {Post : Value → Heap → Prop}
    {name qual : Str} {params : Arguments} {body : List Stmt} {scope : Scope} {dV kV doc pm cdv ct oc : Value} {an od : Option Addr} {osl : Array (Option Value)} {binds : List (Str × Value)}
    (ho : (hd.heap_39 w.params).lookup f = some ⟨oc, od, .func (fnOf name qual params body scope dV kV doc pm an cdv ct), osl⟩) (hcd : codeIn (hd.heap_39 w.params) cdv qual = true)
    (hbind : ∀ s, BindsTo s (fnOf name qual params body scope dV kV doc pm an cdv ct) ⟨args, []⟩ binds) (hloc : ∀ y ∈ binds, scope.names.lookup y.1 = some .local)
    (hco : scope.isCoroutine = false) (hgen : scope.isGenerator = false) (hk : scope.kind = .function) (hcell : ∀ x ∈ scope.names, x.2 ≠ .cell)
    (h : ∀ (A : Around) (base : Heap) (outer : List Env) (s : Shared) (mean : ExcName → Option Value) (mg mb : Str → Option Value) (L : Addr) (h₁ : Heap) (tk : Nat),
      Below A base outer s.heap → Fr s.heap L h₁ (fun y => binds.reverse.lookup y) → (hd.heap_39 w.params).In s.heap → News s.heap L h₁ [] → Top hd.view_39 (looseW hd.view_39 []) mean mg mb s.heap →
      A.handled = none → A.depth + dp < recursionLimit → A.units + un < cLine → AllBare s.gens → Pre s.heap →
      wpAny (model PG w) (A.deeper (envOf qual scope L f cdv)) (execs body (envOf qual scope L f cdv)) (FnEnd s Post) (fun _ _ => False)
        { s with heap := h₁, toks := tk }) : Fn w f args dp un Pre Post := by
  intro A base outer s mean mg mb E B X T hh hd hu hg hp
  refine wpAny_call ?_
  refine codeAny_call_def (fd := fnOf name qual params body scope dV kV doc pm an cdv ct) (body := body) (binds := binds) (by omega) (X _ _ ho) rfl T.nolimit (codeRec_of X hcd) rfl (hbind s) hcell hloc (fun h₁ hns hk₁ => ?_) hco hgen hk
  refine wpAny_mono (h A base outer s mean mg mb s.heap.objs.size h₁ _ B ⟨hns, hk₁, Nat.le_refl _⟩ X News.nil T hh hd hu hg hp) (fun fl s' hl => hl) fun _ _ y => y.elim

theorem below_in {A₀ A : Around} {base h₀ h : Heap} {outer : List Env} {env : Env} {L : Addr} {m : Str → Option Value} (B : Below A₀ base outer h₀) (F : Fr h₀ L h m) (hA : A.frames = some (env :: outer)) (hf : env.frame = some L) (hke : env.scope.kind = .function) :
    Below A base (env :: outer) h := by
  have hnew : base.get? L = none := by
    cases hq : base.get? L with
    | none => rfl
    | some o => exact absurd (Nat.lt_of_lt_of_le (Heap.lt_size (B.stays L o hq)) F.above) (Nat.lt_irrefl _)
  refine ⟨hA, fun b o e => F.keep b o (B.stays b o e), ?_⟩
  exact .cons (by rw [hke]; decide) hf F.ns hnew (B.frames.of_keeps fun b o e _ => ⟨o, F.keep b o e, rfl⟩)

theorem Fn.use {w : World} {f : Addr} {args : List Value} {dp un : Nat} {Pre : Heap → Prop} {Post : Value → Heap → Prop} (C : Fn w f args dp un Pre Post)
    {A₀ A : Around} {base h₀ : Heap} {outer : List Env} {env : Env} {L : Addr} {m : Str → Option Value} {s : Shared} {news : List (Addr × Obj)} {mean : ExcName → Option Value} {mg mb : Str → Option Value} {Q E : Value → Shared → Prop}
    (B : Below A₀ base outer h₀) (F : Fr h₀ L s.heap m) (X : (hd.heap_39 w.params).In h₀) (N : News h₀ L s.heap news) (T : Top hd.view_39 (looseW hd.view_39 []) mean mg mb h₀)
    (hA : A.frames = some (env :: outer)) (hf : env.frame = some L) (hke : env.scope.kind = .function) (hh : A.handled = none) (hd : A.depth + dp < recursionLimit) (hu : A.units + un < cLine) (hg : AllBare s.gens) (hp : Pre s.heap)
    (h : ∀ v h' g' tk, Fr h₀ L h' m → News h₀ L h' news → (∀ b o, s.heap.get? b = some o → h'.get? b = some o) → AllBare g' → Post v h' → Q v { s with heap := h', gens := g', toks := tk }) :
    wpAny (model PG w) A (call (.ref f) args) Q E s := by
  refine wpAny_mono (C A base (env :: outer) s mean mg mb E (below_in B F hA hf hke) (X.keeps F.keep) (T.keeps F.keep) hh hd hu hg hp) (fun v s' h' => ?_) fun _ _ x => x
  obtain ⟨g, p⟩ := h'
  rw [g.eq]
  exact h v s'.heap s'.gens s'.toks (F.grownK g.keep) (N.grown g.keep) g.keep (g.bare hg) p
end Mine
end
section
open PySem PySem.W PyProof.Rows PySem.Calls
set_option Elab.async false
set_option maxRecDepth 100000
set_option maxHeartbeats 40000000
namespace Mine

/-- a contract that sees the heap of the call -/
def FnP (w : World) (f : Addr) (args : List Value) (dp un : Nat) (Pre : Heap → Prop) (Post : Heap → Value → Heap → Prop) : Prop :=
  ∀ (A : Around) (base : Heap) (outer : List Env) (s : Shared) (mean : ExcName → Option Value) (mg mb : Str → Option Value) (E : Value → Shared → Prop),
    Below A base outer s.heap → (hd.heap_39 w.params).In s.heap → Top hd.view_39 (looseW hd.view_39 []) mean mg mb s.heap → A.handled = none →
    A.depth + dp < recursionLimit → A.units + un < cLine → AllBare s.gens → Pre s.heap →
    wpAny (model PG w) A (call (.ref f) args) (fun v s' => Grow s s' ∧ Post s.heap v s'.heap) E s

theorem FnP.enter {w : World} {f : Addr} {args : List Value} {dp un : Nat} {Pre : Heap → Prop} {Post : Heap → Value → Heap → Prop}
    {name qual : Str} {params : Arguments} {body : List Stmt} {scope : Scope} {dV kV doc pm cdv ct oc : Value} {an od : Option Addr} {osl : Array (Option Value)} {binds : List (Str × Value)}
    (ho : (hd.heap_39 w.params).lookup f = some ⟨oc, od, .func (fnOf name qual params body scope dV kV doc pm an cdv ct), osl⟩) (hcd : codeIn (hd.heap_39 w.params) cdv qual = true)
    (hbind : ∀ s, BindsTo s (fnOf name qual params body scope dV kV doc pm an cdv ct) ⟨args, []⟩ binds) (hloc : ∀ y ∈ binds, scope.names.lookup y.1 = some .local)
    (hco : scope.isCoroutine = false) (hgen : scope.isGenerator = false) (hk : scope.kind = .function) (hcell : ∀ x ∈ scope.names, x.2 ≠ .cell)
    (h : ∀ (A : Around) (base : Heap) (outer : List Env) (s : Shared) (mean : ExcName → Option Value) (mg mb : Str → Option Value) (L : Addr) (h₁ : Heap) (tk : Nat),
      Below A base outer s.heap → Fr s.heap L h₁ (fun y => binds.reverse.lookup y) → (hd.heap_39 w.params).In s.heap → News s.heap L h₁ [] → tk = s.toks + binds.length → Top hd.view_39 (looseW hd.view_39 []) mean mg mb s.heap →
      A.handled = none → A.depth + dp < recursionLimit → A.units + un < cLine → AllBare s.gens → Pre s.heap →
      wpAny (model PG w) (A.deeper (envOf qual scope L f cdv)) (execs body (envOf qual scope L f cdv)) (FnEnd s (Post s.heap)) (fun _ _ => False)
        { s with heap := h₁, toks := tk }) : FnP w f args dp un Pre Post := by
  intro A base outer s mean mg mb E B X T hh hd hu hg hp
  refine wpAny_call ?_
  refine codeAny_call_def (fd := fnOf name qual params body scope dV kV doc pm an cdv ct) (body := body) (binds := binds) (by omega) (X _ _ ho) rfl T.nolimit (codeRec_of X hcd) rfl (hbind s) hcell hloc (fun h₁ hns hk₁ => ?_) hco hgen hk
  refine wpAny_mono (h A base outer s mean mg mb s.heap.objs.size h₁ _ B ⟨hns, hk₁, Nat.le_refl _⟩ X News.nil rfl T hh hd hu hg hp) (fun fl s' hl => hl) fun _ _ y => y.elim

theorem FnP.enterC {w : World} {f : Addr} {args : List Value} {dp un : Nat} {Pre : Heap → Prop} {Post : Heap → Value → Heap → Prop}
    {name qual : Str} {params : Arguments} {body : List Stmt} {scope : Scope} {dV kV doc pm cdv ct oc : Value} {an od : Option Addr} {osl : Array (Option Value)} {binds : List (Str × Value)}
    (ho : (hd.heap_39 w.params).lookup f = some ⟨oc, od, .func (fnOf name qual params body scope dV kV doc pm an cdv ct), osl⟩) (hcd : codeIn (hd.heap_39 w.params) cdv qual = true)
    (hbind : bindArgs (fnOf name qual params body scope dV kV doc pm an cdv ct) ⟨args, []⟩ = pure binds) (hkind : (binds.all fun y => scope.names.lookup y.1 == some .local || scope.names.lookup y.1 == some .cell) = true)
    (hnd : ((cellsFrom 0 scope.names []).map (·.1)).Nodup) (hco : scope.isCoroutine = false) (hgen : scope.isGenerator = false) (hk : scope.kind = .function)
    (h : ∀ (A : Around) (base : Heap) (outer : List Env) (s : Shared) (mean : ExcName → Option Value) (mg mb : Str → Option Value) (L : Addr) (h₁ : Heap) (tk : Nat) (cells : List (Addr × Obj)),
      Below A base outer s.heap → Fr s.heap L h₁ (bindL (envOfC qual scope L f cdv).kindOf binds fun _ => none) → (hd.heap_39 w.params).In s.heap → News s.heap L h₁ cells →
      CellsAre (bindC (envOfC qual scope L f cdv).kindOf binds fun _ => none) (cellsFrom (L + 1) scope.names []) cells → Top hd.view_39 (looseW hd.view_39 []) mean mg mb s.heap →
      A.handled = none → A.depth + dp < recursionLimit → A.units + un < cLine → AllBare s.gens → Pre s.heap →
      wpAny (model PG w) (A.deeper (envOfC qual scope L f cdv)) (execs body (envOfC qual scope L f cdv)) (FnEnd s (Post s.heap)) (fun _ _ => False)
        { s with heap := h₁, toks := tk }) : FnP w f args dp un Pre Post := by
  intro A base outer s mean mg mb E B X T hh hd hu hg hp
  refine wpAny_call ?_
  refine codeAny_call_cells (fd := fnOf name qual params body scope dV kV doc pm an cdv ct) (body := body) (binds := binds) (by omega) (X _ _ ho) rfl T.nolimit (codeRec_of X hcd) rfl hbind rfl (kindsX hkind _) (fun s₁ Y => ?_) hco hgen hk
  obtain ⟨h₁, tk, rfl, _⟩ := Y.done
  obtain ⟨cells, N, C⟩ := Cl.news (h₀ := s.heap) (Nat.le_refl _) fun n c hm => ⟨Y.cell n c (lookup_of_mem_nodup (cellsFrom_names scope.names 0 (s.heap.objs.size + 1) [] [] rfl ▸ hnd) hm), Y.above n c hm⟩
  refine wpAny_mono (h A base outer s mean mg mb s.heap.objs.size h₁ tk cells B ⟨Y.toInCall.ns, Y.toInCall.keep, Y.toInCall.fresh⟩ X N C T hh hd hu hg hp) (fun fl s' hl => hl) fun _ _ y => y.elim

theorem FnP.use {w : World} {f : Addr} {args : List Value} {dp un : Nat} {Pre : Heap → Prop} {Post : Heap → Value → Heap → Prop} (C : FnP w f args dp un Pre Post)
    {A₀ A : Around} {base h₀ : Heap} {outer : List Env} {env : Env} {L : Addr} {m : Str → Option Value} {s : Shared} {news : List (Addr × Obj)} {mean : ExcName → Option Value} {mg mb : Str → Option Value} {Q E : Value → Shared → Prop}
    (B : Below A₀ base outer h₀) (F : Fr h₀ L s.heap m) (X : (hd.heap_39 w.params).In h₀) (N : News h₀ L s.heap news) (T : Top hd.view_39 (looseW hd.view_39 []) mean mg mb h₀)
    (hA : A.frames = some (env :: outer)) (hf : env.frame = some L) (hke : env.scope.kind = .function) (hh : A.handled = none) (hd : A.depth + dp < recursionLimit) (hu : A.units + un < cLine) (hg : AllBare s.gens) (hp : Pre s.heap)
    (h : ∀ v h' g' tk, Fr h₀ L h' m → News h₀ L h' news → (∀ b o, s.heap.get? b = some o → h'.get? b = some o) → AllBare g' → Post s.heap v h' → Q v { s with heap := h', gens := g', toks := tk }) :
    wpAny (model PG w) A (call (.ref f) args) Q E s := by
  refine wpAny_mono (C A base (env :: outer) s mean mg mb E (below_in B F hA hf hke) (X.keeps F.keep) (T.keeps F.keep) hh hd hu hg hp) (fun v s' h' => ?_) fun _ _ x => x
  obtain ⟨g, p⟩ := h'
  rw [g.eq]
  exact h v s'.heap s'.gens s'.toks (F.grownK g.keep) (N.grown g.keep) g.keep (g.bare hg) p

/-- an object that a call has made joins the ledger -/
theorem fresh_news {h₀ h h' : Heap} {L D : Addr} {o : Obj} {m : Str → Option Value} {news : List (Addr × Obj)} (F : Fr h₀ L h m) (N : News h₀ L h' news) (hD : h.get? D = none) (ho : h'.get? D = some o) : News h₀ L h' ((D, o) :: news) := fun p hp => by
  rcases List.mem_cons.mp hp with rfl | hp
  · refine ⟨ho, fun e => ?_, ?_⟩
    · have e' : D = L := e
      obtain ⟨o', _, _, e2, _⟩ := F.ns
      rw [← e', hD] at e2; cases e2
    · cases q : h₀.get? D with
      | none => rfl
      | some o' => have := F.keep _ _ q; rw [hD] at this; cases this
  · exact N p hp
theorem fresh_ne {h₀ h : Heap} {L D : Addr} {news : List (Addr × Obj)} (N : News h₀ L h news) (hD : h.get? D = none) : ∀ p ∈ news, p.1 ≠ D := fun p hp e => by
  have := (N p hp).1; rw [e, hD] at this; cases this
abbrev tup3 (a b c : Value) : Obj := { cls := .type "tuple", data := .seq #[a, b, c] }
end Mine
end
section
open PySem PySem.W PyProof.Rows PySem.Calls
namespace Mine
theorem anew_Flo {w : World} {A : Around} {E : Value → Shared → Prop} {Q : Bool → Shared → Prop} {s : Shared} (h : Q true s) : wpAny (model PG w) A (truthy (.bool true)) Q E s := by
  w_top off
  k_with_none
  first | (walk1; exact h) | exact wpAny_truthy_bool h
end Mine
end
section
open PySem PySem.W PyProof.Rows PySem.Calls PySem.Flt
set_option Elab.async false
set_option maxRecDepth 100000
set_option maxHeartbeats 40000000
namespace Mine

def ltF (x y : UInt64) : Bool := Float64.cmp x y == some .lt
def max3 (a b c : UInt64) : UInt64 := if ltF a b then (if ltF b c then c else b) else (if ltF a c then c else a)
def min3 (a b c : UInt64) : UInt64 := if ltF b a then (if ltF c b then c else b) else (if ltF c a then c else a)

theorem max_three_num {prog : Program} {w : World} {A : Around} {E : Value → Shared → Prop} {s : Shared} {Q : Value → Shared → Prop} {a b c : Value} (hh : A.handled = none) (ha : NumV a) (hb : NumV b) (hc : NumV c)
    (h : ∀ h' tk, (∀ d o, s.heap.get? d = some o → h'.get? d = some o) → Q (if ltV a b then (if ltV b c then c else b) else (if ltV a c then c else a)) { s with heap := h', toks := tk }) :
    wpAny (model prog w) A (call (.builtin "max") [a, b, c]) Q E s := by
  have hT : (s.heap.push { cls := .type "tuple", data := .seq #[a, b, c] }).IsTuple s.heap.objs.size #[a, b, c] := ⟨_, Heap.get?_push_size _ rfl, rfl, 0, rfl⟩
  refine call_max_three (wpAny_pyIter_tuple hT ?_)
  have hsz : (s.heap.push { cls := .type "tuple", data := .seq #[a, b, c] }).objs.size = s.heap.objs.size + 1 := Heap.size_push ..
  refine ⟨_, [_, s.heap.objs.size], [_], _, _, _, _, rfl, Walks.tuple (A := A.in1) hh _ s.heap.objs.size (by rw [hsz]; exact Nat.ne_of_lt (Nat.lt_succ_self _)) #[a, b, c],
    ⟨⟨_, Heap.get?_push_size _ rfl, rfl, rfl⟩, hT.push _⟩, fun d hd => ?_, by simp, cmpOf_gt #[a, b, c] (by simp [ha, hb, hc]), fun v h' tk hP hk => ?_⟩
  · show d < ((s.heap.push _).push _).objs.size
    rw [Heap.size_push, hsz]
    rcases List.mem_cons.mp hd with rfl | hd
    · rw [hsz]; exact Nat.lt_succ_self _
    · rcases List.mem_cons.mp hd with rfl | hd
      · exact Nat.lt_succ_of_lt (Nat.lt_succ_self _)
      · cases hd
  · have hold : ∀ c o, s.heap.get? c = some o → h'.get? c = some o := fun c o e => by
      refine hk c o (fun hm => ?_) (Heap.get?_push_of_some _ (Heap.get?_push_of_some _ e))
      rcases List.mem_cons.mp hm with e1 | hm
      · have := Heap.lt_size e; rw [e1, hsz] at this; exact Nat.lt_irrefl _ (Nat.lt_of_succ_lt this)
      · cases hm
    have := h h' tk hold
    have hv : v = if ltV a b then (if ltV b c then c else b) else (if ltV a c then c else a) := by
      cases h1 : ltV a b <;> cases h2 : ltV b c <;> cases h3 : ltV a c <;> simp [argBest, h1, h2, h3] at hP <;> simp [hP]
    rw [hv]; exact this

theorem min_three_num {prog : Program} {w : World} {A : Around} {E : Value → Shared → Prop} {s : Shared} {Q : Value → Shared → Prop} {a b c : Value} (hh : A.handled = none) (ha : NumV a) (hb : NumV b) (hc : NumV c)
    (h : ∀ h' tk, (∀ d o, s.heap.get? d = some o → h'.get? d = some o) → Q (if ltV b a then (if ltV c b then c else b) else (if ltV c a then c else a)) { s with heap := h', toks := tk }) :
    wpAny (model prog w) A (call (.builtin "min") [a, b, c]) Q E s := by
  have hT : (s.heap.push { cls := .type "tuple", data := .seq #[a, b, c] }).IsTuple s.heap.objs.size #[a, b, c] := ⟨_, Heap.get?_push_size _ rfl, rfl, 0, rfl⟩
  refine call_min_three (wpAny_pyIter_tuple hT ?_)
  have hsz : (s.heap.push { cls := .type "tuple", data := .seq #[a, b, c] }).objs.size = s.heap.objs.size + 1 := Heap.size_push ..
  refine ⟨_, [_, s.heap.objs.size], [_], _, _, _, _, rfl, Walks.tuple (A := A.in1) hh _ s.heap.objs.size (by rw [hsz]; exact Nat.ne_of_lt (Nat.lt_succ_self _)) #[a, b, c],
    ⟨⟨_, Heap.get?_push_size _ rfl, rfl, rfl⟩, hT.push _⟩, fun d hd => ?_, by simp, cmpOf_lt #[a, b, c] (by simp [ha, hb, hc]), fun v h' tk hP hk => ?_⟩
  · show d < ((s.heap.push _).push _).objs.size
    rw [Heap.size_push, hsz]
    rcases List.mem_cons.mp hd with rfl | hd
    · rw [hsz]; exact Nat.lt_succ_self _
    · rcases List.mem_cons.mp hd with rfl | hd
      · exact Nat.lt_succ_of_lt (Nat.lt_succ_self _)
      · cases hd
  · have hold : ∀ c o, s.heap.get? c = some o → h'.get? c = some o := fun c o e => by
      refine hk c o (fun hm => ?_) (Heap.get?_push_of_some _ (Heap.get?_push_of_some _ e))
      rcases List.mem_cons.mp hm with e1 | hm
      · have := Heap.lt_size e; rw [e1, hsz] at this; exact Nat.lt_irrefl _ (Nat.lt_of_succ_lt this)
      · cases hm
    have := h h' tk hold
    have hv : v = if ltV b a then (if ltV c b then c else b) else (if ltV c a then c else a) := by
      cases h1 : ltV b a <;> cases h2 : ltV c b <;> cases h3 : ltV c a <;> simp [argBest, h1, h2, h3] at hP <;> simp [hP]
    rw [hv]; exact this

section
variable {prog : Program} {w : World} {A : Around} {E : Value → Shared → Prop} {s : Shared} {Q : Value → Shared → Prop} {x y z : UInt64} {t u v : Tok} {h₀ : Heap} {L : Addr} {m : Str → Option Value} {news : List (Addr × Obj)}
theorem max3_K (hh : A.handled = none) (F : Fr h₀ L s.heap m) (N : News h₀ L s.heap news)
    (h : ∀ h' tk r, Fr h₀ L h' m → News h₀ L h' news → Q (.float (max3 x y z) r) { s with heap := h', toks := tk }) :
    wpAny (model prog w) A (call (.builtin "max") [.float x t, .float y u, .float z v]) Q E s :=
  max_three_num hh (.float x t) (.float y u) (.float z v) fun h' tk hk => by
    have q := fun r => h h' tk r (F.grownK hk) (N.grown hk)
    have e1 : ltV (.float x t) (.float y u) = ltF x y := rfl
    have e2 : ltV (.float y u) (.float z v) = ltF y z := rfl
    have e3 : ltV (.float x t) (.float z v) = ltF x z := rfl
    rw [e1, e2, e3]
    unfold max3 at q
    cases h1 : ltF x y <;> cases h2 : ltF y z <;> cases h3 : ltF x z <;> simp only [h1, h2, h3, if_true, if_false, Bool.false_eq_true] at q ⊢ <;> exact q _
theorem min3_K (hh : A.handled = none) (F : Fr h₀ L s.heap m) (N : News h₀ L s.heap news)
    (h : ∀ h' tk r, Fr h₀ L h' m → News h₀ L h' news → Q (.float (min3 x y z) r) { s with heap := h', toks := tk }) :
    wpAny (model prog w) A (call (.builtin "min") [.float x t, .float y u, .float z v]) Q E s :=
  min_three_num hh (.float x t) (.float y u) (.float z v) fun h' tk hk => by
    have q := fun r => h h' tk r (F.grownK hk) (N.grown hk)
    have e1 : ltV (.float y u) (.float x t) = ltF y x := rfl
    have e2 : ltV (.float z v) (.float y u) = ltF z y := rfl
    have e3 : ltV (.float z v) (.float x t) = ltF z x := rfl
    rw [e1, e2, e3]
    unfold min3 at q
    cases h1 : ltF y x <;> cases h2 : ltF z y <;> cases h3 : ltF z x <;> simp only [h1, h2, h3, if_true, if_false, Bool.false_eq_true] at q ⊢ <;> exact q _
end


section
variable {prog : Program} {w : World} {A : Around} {E : Value → Shared → Prop} {s : Shared} {Q : Value → Shared → Prop} {x y z M : UInt64} {t u v : Tok} {h₀ : Heap} {L : Addr} {m : Str → Option Value} {news : List (Addr × Obj)}
theorem max3_E (hh : A.handled = none) (e : max3 x y z = M) (F : Fr h₀ L s.heap m) (N : News h₀ L s.heap news)
    (h : ∀ h' tk r, Fr h₀ L h' m → News h₀ L h' news → Q (.float M r) { s with heap := h', toks := tk }) :
    wpAny (model prog w) A (call (.builtin "max") [.float x t, .float y u, .float z v]) Q E s := max3_K hh F N (by rw [e]; exact h)
theorem min3_E (hh : A.handled = none) (e : min3 x y z = M) (F : Fr h₀ L s.heap m) (N : News h₀ L s.heap news)
    (h : ∀ h' tk r, Fr h₀ L h' m → News h₀ L h' news → Q (.float M r) { s with heap := h', toks := tk }) :
    wpAny (model prog w) A (call (.builtin "min") [.float x t, .float y u, .float z v]) Q E s := min3_K hh F N (by rw [e]; exact h)
theorem div_K (hz : Float64.isZero y = false) (h : Q (.float (Float64.div x y) s.toks) { s with toks := s.toks + 1 }) : wpAny (model prog w) A (binaryOp .Div (.float x t) (.float y u)) Q E s :=
  AutoFloatOps.truediv_1 (by rw [hz]; exact Bool.false_ne_true) h
theorem mod_K (hz : Float64.isZero y = false) (h : Q (.float (Float64.divmod x y).2 s.toks) { s with toks := s.toks + 1 }) : wpAny (model prog w) A (binaryOp .Mod (.float x t) (.float y u)) Q E s :=
  AutoFloatOps.mod_1 (by rw [hz]; exact Bool.false_ne_true) h
theorem eq_E {b : Bool} (e : (Float64.cmp x y == some Ordering.eq) = b) (h : Q (.bool b) s) : wpAny (model prog w) A (compareOp .Eq (.float x t) (.float y u)) Q E s := AutoFloatOps.eq_0 (by rw [e]; exact h)
theorem le_E {b : Bool} (e : (Float64.cmp x y == some Ordering.lt || Float64.cmp x y == some Ordering.eq) = b) (h : Q (.bool b) s) : wpAny (model prog w) A (compareOp .LtE (.float x t) (.float y u)) Q E s := AutoFloatOps.le_0 (by rw [e]; exact h)
end



theorem store_pos {M : Model} {A : Around} {E : Value → Shared → Prop} {s : Shared} {h₀ : Heap} {L : Addr} {env : Env} {m : Str → Option Value} {news : List (Addr × Obj)} {x : Str} {v : Value} {Q : Unit → Shared → Prop} (hL : env.locals = L) (hl : env.kindOf x = some .local) (F : Fr h₀ L s.heap m) (N : News h₀ L s.heap news)
    (hp : (env.scope.kind == .class || (env.scope.kind == .module && env.locals != env.globals)) = false)
    (h : ∀ h' tk, 0 < tk → Fr h₀ L h' (fun y => if y = x then some v else m y) → News h₀ L h' news → Q () { s with heap := h', toks := tk }) :
    wpAny M A (storeName env x v) Q E s := by
  subst hL
  exact wpAny_storeName_local hl F.ns (fun h' hn hs => h h' _ (Nat.succ_pos _) (F.set hn hs) (N.set hs)) hp
theorem tup_end3 {h₀ h : Heap} {L D : Addr} {news : List (Addr × Obj)} {e1 e2 e3 f1 f2 f3 : UInt64} {a1 a2 a3 : Tok} (N : News h₀ L h ((D, { cls := .type "tuple", data := .seq [Value.float e1 a1, Value.float e2 a2, Value.float e3 a3].toArray }) :: news))
    (h1 : e1 = f1) (h2 : e2 = f2) (h3 : e3 = f3) : h₀.get? D = none ∧ h.get? D = some (tup3 (.float f1 a1) (.float f2 a2) (.float f3 a3)) := by
  subst h1; subst h2; subst h3
  exact ⟨(N _ (.head _)).2.2, (N _ (.head _)).1⟩

theorem tup_end3n {h₀ h : Heap} {L D : Addr} {news : List (Addr × Obj)} {e1 e2 e3 f1 f2 f3 : UInt64} {a1 a2 a3 : Tok} (N : News h₀ L h ((D, { cls := .type "tuple", data := .seq [Value.float e1 a1, Value.float e2 a2, Value.float e3 a3].toArray }) :: news))
    (h1 : e1 = f1) (h2 : e2 = f2) (h3 : e3 = f3) (n1 : a1 ≠ 0) (n2 : a2 ≠ 0) (n3 : a3 ≠ 0) : h₀.get? D = none ∧ h.get? D = some (tup3 (.float f1 a1) (.float f2 a2) (.float f3 a3)) ∧ a1 ≠ 0 ∧ a2 ≠ 0 ∧ a3 ≠ 0 :=
  ⟨(tup_end3 N h1 h2 h3).1, (tup_end3 N h1 h2 h3).2, n1, n2, n3⟩

abbrev one : UInt64 := 4607182418800017408
def eqF (x y : UInt64) : Bool := Float64.cmp x y == some .eq
/-- the hue of rgb_to_hls and rgb_to_hsv, where the greatest part is M and the span R -/
def hueF (M R r g b : UInt64) : UInt64 :=
  let rc := Float64.div (Float64.sub M r) R
  let gc := Float64.div (Float64.sub M g) R
  let bc := Float64.div (Float64.sub M b) R
  let h0 := if eqF r M then Float64.sub bc gc else if eqF g M then Float64.sub (Float64.add 4611686018427387904 rc) bc else Float64.sub (Float64.add 4616189618054758400 gc) rc
  (Float64.divmod (Float64.div h0 4618441417868443648) 4607182418800017408).2

theorem hls : ∀ (w : World) (r g b : UInt64) (t1 t2 t3 : Tok) (_ : PySem.Challenge.rw_tr0033_01 = PySem.Challenge.rw_tr0033_01 ∧ hd.heap_39 = hd.heap_39) (hM : max3 r g b = 4607182418800017408) (hm : min3 r g b = 0),
    FnP w 21 [.float r t1, .float g t2, .float b t3] 1 8 (fun _ => True)
      (fun h₀ v h => ∃ D a1 a2 a3, v = .ref D ∧ h₀.get? D = none ∧ h.get? D = some (tup3 (.float (hueF 4607182418800017408 (Float64.sub 4607182418800017408 0) r g b) a1) (.float 4602678819172646912 a2) (.float 4607182418800017408 a3)) ∧ a1 ≠ 0 ∧ a2 ≠ 0 ∧ a3 ≠ 0) := by
  k_with_none
  k_with "call builtin:max" => (k_here; (with_reducible show wpAny _ _ (call (Value.builtin _) [Value.float _ _, Value.float _ _, Value.float _ _]) _ _ _); k_dflt (apply max3_E; (case _ => assumption); (case _ => assumption); (case _ => k_asm); (case _ => k_asm)); intro _ _ _ _ _; (try k_sweep))
  k_with "call builtin:min" => (k_here; (with_reducible show wpAny _ _ (call (Value.builtin _) [Value.float _ _, Value.float _ _, Value.float _ _]) _ _ _); k_dflt (apply min3_E; (case _ => assumption); (case _ => assumption); (case _ => k_asm); (case _ => k_asm)); intro _ _ _ _ _; (try k_sweep))
  k_with "binaryOp Div float float" => (k_here; k_dflt (apply div_K; (case _ => first | assumption | decide +kernel)); (try dsimp only))
  k_with "binaryOp Mod float float" => (k_here; k_dflt (apply mod_K; (case _ => first | assumption | decide +kernel)); (try dsimp only))
  k_with "compareOp Eq float float" => (k_here; k_dflt (first | (apply eq_E (b := true); (case _ => first | assumption | decide +kernel)) | (apply eq_E (b := false); (case _ => first | assumption | decide +kernel))))
  k_with "compareOp LtE float float" => (k_here; k_dflt (first | (apply le_E (b := true); (case _ => first | assumption | decide +kernel)) | (apply le_E (b := false); (case _ => first | assumption | decide +kernel))))
  k_with "storeName" => (k_here; k_dflt (apply store_pos; (case _ => exact rfl); (case _ => exact rfl); (case _ => k_asm); (case _ => k_asm); (case _ => exact rfl)); intro _ _ _ _ _)
  k_with "execs cons" => (k_here; with_reducible refine wpAny_execs_cons ?_)
  k_fill
  intro w r g b t1 t2 t3 _ hM hm
  refine' FnP.enter (binds := [(Str.ofString "r", Value.float r t1), (Str.ofString "g", Value.float g t2), (Str.ofString "b", Value.float b t3)]) ?k6 ?k7 ?k9 ?kB ?c2 ?c3 ?c4 ?c5 ?_
  case k6 => k_dflt k_is
  case k7 => k_dflt k_is
  case k9 => exact fun _ => BindsTo.of_eq rfl
  case kB => exact locs rfl
  case c2 => exact rfl
  case c3 => exact rfl
  case c4 => exact rfl
  case c5 => decide
  intro A base outer s mean mg mb L h₁ tk B F X N htk T hh hdp hun hg hp
  try dsimp only
  w_strict (
    k_steps
    all_goals (
      refine FnEnd.intro (by assumption) id rfl rfl ⟨_, _, _, _, rfl, tup_end3n (by assumption) ?_ (by decide +kernel) (by decide +kernel) ?_ ?_ ?_⟩
      rotate_left
      · first | exact Nat.succ_ne_zero _ | exact Nat.ne_of_gt (by assumption) | (dsimp only; exact Nat.ne_of_gt (by assumption))
      · first | exact Nat.succ_ne_zero _ | exact Nat.ne_of_gt (by assumption) | (dsimp only; exact Nat.ne_of_gt (by assumption))
      · first | exact Nat.succ_ne_zero _ | exact Nat.ne_of_gt (by assumption) | (dsimp only; exact Nat.ne_of_gt (by assumption))
      unfold hueF eqF
      dsimp only
      first | rfl | ((repeat' split) <;> first | rfl | contradiction | (simp_all only [Bool.not_eq_true, Bool.true_eq_false, Bool.false_eq_true]; done))))
end Mine
end
section
open PySem PySem.W PyProof.Rows PySem.Calls
namespace Mine
theorem anew_Flo2 {w : World} {A : Around} {E : Value → Shared → Prop} {Q : Bool → Shared → Prop} {s : Shared} (h : Q true s) : wpAny (model PG w) A (truthy (.bool true)) Q E s := by
  w_top off
  k_with_none
  first | (walk1; exact h) | exact wpAny_truthy_bool h
end Mine
end
section
open PySem PySem.W PyProof.Rows PySem.Calls PySem.Flt
set_option Elab.async false
set_option maxRecDepth 100000
set_option maxHeartbeats 40000000
namespace Mine
section
variable {prog : Program} {w : World} {A : Around} {E : Value → Shared → Prop} {s : Shared} {Q : Value → Shared → Prop} {x : UInt64} {n : Int} {t u : Tok}
theorem int_K (hh : A.handled = none) (hf : Float64.isFinite x = true) (e : toInt Float64.truncOf x = n) (h : Q (.int n s.toks) { s with toks := s.toks + 1 }) :
    wpAny (model prog w) A (call (.type "int") [.float x t]) Q E s :=
  call_int_float3 hh (fun hn => by
      exfalso
      rcases three x with ⟨hd, c⟩ | ⟨_, hd, c⟩ | ⟨sg, m, e, hd, c⟩
      · unfold Float64.isFinite at hf; rw [hd] at hf; cases hf
      · unfold Float64.isNaN at hn; rw [hd] at hn; cases hn
      · unfold Float64.isNaN at hn; rw [hd] at hn; cases hn) (fun hn => by
      exfalso
      rcases three x with ⟨hd, c⟩ | ⟨_, hd, c⟩ | ⟨sg, m, e, hd, c⟩
      · unfold Float64.isInf at hn; rw [hd] at hn; cases hn
      · unfold Float64.isFinite at hf; rw [hd] at hf; cases hf
      · unfold Float64.isInf at hn; rw [hd] at hn; cases hn) fun _ => by rw [e]; exact h
end

def rgbF (h : UInt64) (n : Int) : UInt64 × UInt64 × UInt64 :=
  let f := Float64.sub (Float64.mul h 4618441417868443648) (Float64.ofInt n)
  let p := Float64.mul 4607182418800017408 (Float64.sub 4607182418800017408 4607182418800017408)
  let q := Float64.mul 4607182418800017408 (Float64.sub 4607182418800017408 (Float64.mul 4607182418800017408 f))
  let t := Float64.mul 4607182418800017408 (Float64.sub 4607182418800017408 (Float64.mul 4607182418800017408 (Float64.sub 4607182418800017408 f)))
  if n = 0 then (4607182418800017408, t, p) else if n = 1 then (q, 4607182418800017408, p) else if n = 2 then (p, 4607182418800017408, t) else if n = 3 then (p, q, 4607182418800017408) else (t, p, 4607182418800017408)
theorem fmod6 {n : Int} (h0 : 0 ≤ n) (h4 : n ≤ 4) : n.fmod 6 = n := by
  rw [Int.fmod_eq_emod_of_nonneg n (by omega)]; omega
theorem five {n : Int} (h0 : 0 ≤ n) (h4 : n ≤ 4) : n = 0 ∨ n = 1 ∨ n = 2 ∨ n = 3 ∨ n = 4 := by omega
theorem hsv2rgb : ∀ (w : World) (h : UInt64) (n : Int) (t1 t2 t3 : Tok) (_ : PySem.Challenge.rw_tr0033_01 = PySem.Challenge.rw_tr0033_01 ∧ hd.heap_39 = hd.heap_39)
    (hF : Float64.isFinite (Float64.mul h 4618441417868443648) = true) (hn : toInt Float64.truncOf (Float64.mul h 4618441417868443648) = n) (h0 : 0 ≤ n) (h4 : n ≤ 4),
    FnP w 35 [.float h t1, .float 4607182418800017408 t2, .float 4607182418800017408 t3] 1 8 (fun _ => True)
      (fun h₀ v hp => ∃ D a1 a2 a3, v = .ref D ∧ h₀.get? D = none ∧ hp.get? D = some (tup3 (.float (rgbF h n).1 a1) (.float (rgbF h n).2.1 a2) (.float (rgbF h n).2.2 a3))) := by
  k_with_none
  k_with "binaryOp Div float float" => (k_here; k_dflt (apply div_K; (case _ => first | assumption | decide +kernel)); (try dsimp only))
  k_with "binaryOp Mod float float" => (k_here; k_dflt (apply mod_K; (case _ => first | assumption | decide +kernel)); (try dsimp only))
  k_with "compareOp Eq float float" => (k_here; k_dflt (first | (apply eq_E (b := true); (case _ => first | assumption | decide +kernel)) | (apply eq_E (b := false); (case _ => first | assumption | decide +kernel))))
  k_with "call type:int" => (k_here; (with_reducible show wpAny _ _ (call _ [Value.float _ _]) _ _ _); k_dflt (apply int_K; (case _ => assumption); (case _ => assumption); (case _ => assumption)); (try dsimp only))
  k_fill
  intro w h n t1 t2 t3 _ hF hn h0 h4
  refine' FnP.enter (binds := [(Str.ofString "h", Value.float h t1), (Str.ofString "s", Value.float 4607182418800017408 t2), (Str.ofString "v", Value.float 4607182418800017408 t3)]) ?k6 ?k7 ?k9 ?kB ?c2 ?c3 ?c4 ?c5 ?_
  case k6 => k_dflt k_is
  case k7 => k_dflt k_is
  case k9 => exact fun _ => BindsTo.of_eq rfl
  case kB => exact locs rfl
  case c2 => exact rfl
  case c3 => exact rfl
  case c4 => exact rfl
  case c5 => decide
  intro A base outer s mean mg mb L h₁ tk B F X N _ T hh hdp hun hg hp
  try dsimp only
  w_strict (
    k_steps
    all_goals (
      have hfm := fmod6 h0 h4
      have hc := five h0 h4
      clear hF hn hdp hun h0 h4
      rcases hc with hc | hc | hc | hc | hc <;> first
        | (exfalso; omega)
        | (subst hc
           exact FnEnd.intro (by assumption) id rfl rfl ⟨_, _, _, _, rfl, tup_end3 (by assumption) (by unfold rgbF; rfl) (by unfold rgbF; rfl) (by unfold rgbF; rfl)⟩)))
end Mine
end
section
open PySem PySem.W PyProof.Rows PySem.Calls
set_option Elab.async false
set_option maxRecDepth 100000
set_option maxHeartbeats 40000000
namespace Mine

/-- n quotation marks -/
def qs (n : Nat) : Str := ⟨(List.replicate n 34).toArray⟩
/-- a reply 257 with 2h marks and a k -/
def respS (h : Nat) : Str := ⟨([50, 53, 55, 32, 34] ++ (List.replicate (2 * h) 34 ++ [107, 34])).toArray⟩
def outS (h : Nat) : Str := ⟨(List.replicate h 34 ++ [107]).toArray⟩

theorem str_eq {x y : Str} (h : x.cps.toList = y.cps.toList) : x = y := by
  cases x; cases y; simp only at h; rw [Array.ext' h]

theorem item_at {x : Str} {i : Int} {n : Nat} {l : List Nat} (hx : x.cps.toList = l) (h0 : 0 ≤ i) (h : l[i.toNat]? = some n) : Txt.item x i = ⟨#[n]⟩ := by
  unfold Txt.item
  have : Txt.charAt x i = some n := StrLaws.at_nonneg h0 (by rw [← Array.getElem?_toList, hx]; exact h)
  rw [this]; rfl
theorem slice_at {x : Str} {i j : Int} {l : List Nat} (hx : x.cps.toList = l) (h : 0 ≤ i ∧ i ≤ j ∧ j ≤ l.length) : Txt.slice x (some i) (some j) = ⟨((l.drop i.toNat).take (j - i).toNat).toArray⟩ := by
  subst hx; exact StrLaws.sliceText_plain h
theorem slice_to {x : Str} {j : Int} {l : List Nat} (hx : x.cps.toList = l) (h : 0 ≤ j ∧ j ≤ l.length) : Txt.slice x none (some j) = ⟨((l.drop 0).take (j - 0).toNat).toArray⟩ := by
  subst hx; exact StrLaws.sliceText_to h
theorem slice_from {x : Str} {i : Int} {l : List Nat} (hx : x.cps.toList = l) (h : 0 ≤ i ∧ i ≤ l.length) : Txt.slice x (some i) none = ⟨((l.drop i.toNat).take ((l.length : Int) - i).toNat).toArray⟩ := by
  subst hx; exact StrLaws.sliceText_from h

theorem q_eq : (Str.ofString "\"") = ⟨#[34]⟩ := by decide +kernel
theorem k_eq : (Str.ofString "k") = ⟨#[107]⟩ := by decide +kernel
theorem e_eq : (Str.ofString "") = qs 0 := by decide +kernel

theorem qs_len (n : Nat) : (qs n).length = n := by simp [qs, Str.length]
theorem resp_len (h : Nat) : (respS h).length = 2 * h + 7 := by simp [respS, Str.length]
theorem out_len (h : Nat) : (outS h).length = h + 1 := by simp [outS, Str.length]

theorem resp_list (h : Nat) : (respS h).cps.toList = [50, 53, 55, 32, 34] ++ (List.replicate (2 * h) 34 ++ [107, 34]) := by simp [respS]
theorem resp_q {h : Nat} {j : Nat} (hj : j < 2 * h) : Txt.item (respS h) (5 + (j : Int)) = Str.ofString "\"" := by
  rw [q_eq]
  refine item_at (resp_list h) (by omega) ?_
  have e : (5 + (j : Int)).toNat = 5 + j := by omega
  rw [e, List.getElem?_append_right (by simp)]
  simp only [List.length_cons, List.length_nil]
  rw [List.getElem?_append_left (by simp; omega), show 5 + j - (0 + 1 + 1 + 1 + 1 + 1) = j by omega]
  simp [hj]
theorem resp_k (h : Nat) : Txt.item (respS h) (5 + ((2 * h : Nat) : Int)) = Str.ofString "k" := by
  rw [k_eq]
  refine item_at (resp_list h) (by omega) ?_
  have e : (5 + ((2 * h : Nat) : Int)).toNat = 5 + 2 * h := by omega
  rw [e, List.getElem?_append_right (by simp)]
  simp only [List.length_cons, List.length_nil]
  rw [List.getElem?_append_right (by simp)]
  simp
theorem resp_last (h : Nat) : Txt.item (respS h) (5 + ((2 * h + 1 : Nat) : Int)) = Str.ofString "\"" := by
  rw [q_eq]
  refine item_at (resp_list h) (by omega) ?_
  have e : (5 + ((2 * h + 1 : Nat) : Int)).toNat = 5 + (2 * h + 1) := by omega
  rw [e, List.getElem?_append_right (by simp)]
  simp only [List.length_cons, List.length_nil]
  rw [List.getElem?_append_right (by simp)]
  simp only [List.length_replicate]
  rw [show 5 + (2 * h + 1) - (0 + 1 + 1 + 1 + 1 + 1) - 2 * h = 1 by omega]
  rfl
theorem resp_3 (h : Nat) : Txt.slice (respS h) none (some 3) = Str.ofString "257" := by
  rw [slice_to (resp_list h) ⟨by omega, by simp; omega⟩]
  have : (Str.ofString "257") = ⟨#[50, 53, 55]⟩ := by decide +kernel
  rw [this]; rfl
theorem resp_35 (h : Nat) : Txt.slice (respS h) (some 3) (some 5) = Str.ofString " \"" := by
  rw [slice_at (resp_list h) ⟨by omega, by omega, by simp; omega⟩]
  have : (Str.ofString " \"") = ⟨#[32, 34]⟩ := by decide +kernel
  rw [this]; rfl
theorem cat_list (x y : Str) : (x ++ y).cps.toList = x.cps.toList ++ y.cps.toList := by
  show (x.cps ++ y.cps).toList = _
  simp
theorem qs_snoc (j : Nat) : qs j ++ Str.ofString "\"" = qs (j + 1) := by
  rw [q_eq]; apply str_eq; rw [cat_list]; simp [qs, List.replicate_succ']
theorem qs_k (j : Nat) : qs j ++ Str.ofString "k" = outS j := by
  rw [k_eq]; apply str_eq; rw [cat_list]; simp [qs, outS]
theorem mul_q (n : Nat) : Txt.mul (Str.ofString "\"") (n : Int) = qs n := by
  rw [q_eq]
  unfold Txt.mul
  by_cases h1 : (n : Int) < 1
  · rw [if_pos h1]
    have : n = 0 := by omega
    subst this; rfl
  · rw [if_neg h1]
    split
    · rename_i h2
      have h2' : (n : Int) = 1 := by simpa [Str.length] using h2
      have : n = 1 := by omega
      subst this; rfl
    · apply str_eq
      have key : ∀ (k : Nat) (acc : Array Nat), ((List.replicate k (#[34] : Array Nat)).foldl (· ++ ·) acc).toList = acc.toList ++ List.replicate k 34 := by
        intro k
        induction k with
        | zero => intro acc; simp
        | succ k ih => intro acc; rw [List.replicate_succ, List.foldl_cons, ih]; simp [List.replicate_succ]
      show ((List.replicate (n : Int).toNat (#[34] : Array Nat)).foldl (· ++ ·) #[]).toList = _
      rw [key, Int.toNat_natCast]
      simp [qs]
theorem qs_add (a b : Nat) : qs a ++ qs b = qs (a + b) := by
  apply str_eq; rw [cat_list]; simp [qs]
end Mine
end
section
open PySem PySem.W PyProof.Rows PySem.Calls
set_option Elab.async false
set_option maxRecDepth 100000
set_option maxHeartbeats 40000000
namespace Mine

theorem resp_q1 {h : Nat} {j : Nat} (hj : j + 1 < 2 * h) : Txt.item (respS h) (5 + (j : Int) + 1) = Str.ofString "\"" := by
  have := resp_q hj
  rw [show (5 : Int) + ((j + 1 : Nat) : Int) = 5 + (j : Int) + 1 by omega] at this
  exact this
theorem resp_last1 (h : Nat) : Txt.item (respS h) (5 + ((2 * h : Nat) : Int) + 1) = Str.ofString "\"" := by
  have := resp_last h
  rw [show (5 : Int) + ((2 * h + 1 : Nat) : Int) = 5 + ((2 * h : Nat) : Int) + 1 by omega] at this
  exact this

section
variable {prog : Program} {w : World} {A : Around} {E : Value → Shared → Prop} {s : Shared} {value slice : PySem.Expr} {x y z : Str} {t u : Tok} {i : Int} {Q : Value → Shared → Prop}
theorem item_E (h0 : 0 ≤ i) (h1 : i < x.length) (hn : x.length ≤ 1000) (e : Txt.item x i = y) (h : Q (.str y s.toks) { s with toks := s.toks + 1 })
    (hs : subscripted slice false (.str x t) (.int i u) = operate [.str x t, .int i u] (getItem (.str x t) (.int i u)) := by with_unfolding_all rfl)
    (ht : ∀ r, letTemporaryGo value (.str x t) r = pure () := by intro _; with_unfolding_all rfl) :
    wpAny (model prog w) A (subscriptTail value slice (.str x t) (.int i u)) Q E s :=
  item_str (fitsSsize_of (N := 9223372036854775808) (by omega) (by omega) (Int.le_refl _)) (by omega) h1 (fun _ => by rw [e]; exact h) hs ht
theorem sadd_E (e : x ++ y = z) (hz : z.length ≤ 1000) (h : ∀ t' k, Q (.str z t') { s with toks := k }) : wpAny (model prog w) A (binaryOp .Add (.str x t) (.str y u)) Q E s :=
  SBL.add (fun t' k _ => by rw [e]; exact h t' k) (by rw [← Str.length_append, e]; exact Nat.le_trans hz (by decide))
theorem sne_E {b : Bool} (e : (x != y) = b) (h : Q (.bool b) s) : wpAny (model prog w) A (compareOp .NotEq (.str x t) (.str y u)) Q E s := PyProof.Rows.ne_str (by rw [e]; exact h)
theorem seq_E {b : Bool} (e : (x == y) = b) (h : Q (.bool b) s) : wpAny (model prog w) A (compareOp .Eq (.str x t) (.str y u)) Q E s := PyProof.Rows.eq_str (by rw [e]; exact h)
end

theorem _root_.Mine.fr_congr {h₀ h : Heap} {L : Addr} {m m' : Str → Option Value} (F : Fr h₀ L h m) (e : ∀ y, m y = m' y) : Fr h₀ L h m' := by
  have : m = m' := funext e
  subst this; exact F

abbrev m257 (m : Str → Option Value) (k : Int) (d : Str) (ti td : Tok) (vc : Option Value) : Str → Option Value :=
  fun y => if y = Str.ofString "i" then some (.int k ti) else if y = Str.ofString "dirname" then some (.str d td) else if y = Str.ofString "c" then vc else m y

def W257 (h₀ : Heap) (L : Addr) (m : Str → Option Value) (news : List (Addr × Obj)) (k : Int) (d : Str) (s : Shared) (Q : Flow → Shared → Prop) (f : Flow) (s₃ : Shared) : Prop :=
  match f with
  | .next => ∃ h' tk ti td vc, s₃ = { s with heap := h', toks := tk } ∧ Fr h₀ L h' (m257 m k d ti td vc) ∧ News h₀ L h' news
  | .cont => False
  | .brk => Q .next s₃
  | .ret v => Q (.ret v) s₃

theorem m257_eq {m m₁ : Str → Option Value} {k : Int} {d : Str} {ti td : Tok} (e1 : m₁ (Str.ofString "i") = some (.int k ti)) (e2 : m₁ (Str.ofString "dirname") = some (.str d td))
    (e3 : ∀ y, y ≠ Str.ofString "i" → y ≠ Str.ofString "dirname" → y ≠ Str.ofString "c" → m₁ y = m y) : ∀ y, m₁ y = m257 m k d ti td (m₁ (Str.ofString "c")) y := by
  intro y
  show m₁ y = if y = Str.ofString "i" then _ else if y = Str.ofString "dirname" then _ else if y = Str.ofString "c" then _ else _
  by_cases h1 : y = Str.ofString "i"
  · rw [if_pos h1, h1, e1]
  · rw [if_neg h1]
    by_cases h2 : y = Str.ofString "dirname"
    · rw [if_pos h2, h2, e2]
    · rw [if_neg h2]
      by_cases h3 : y = Str.ofString "c"
      · rw [if_pos h3, h3]
      · rw [if_neg h3]; exact e3 y h1 h2 h3

theorem W257.next {h₀ : Heap} {L : Addr} {m m₁ : Str → Option Value} {news : List (Addr × Obj)} {k' : Int} {d' : Str} {s : Shared} {Q : Flow → Shared → Prop} {h' : Heap} {tk : Nat} {k : Int} {d : Str} {ti td : Tok}
    (F : Fr h₀ L h' m₁) (N : News h₀ L h' news) (e1 : m₁ (Str.ofString "i") = some (.int k ti)) (hk : k = k') (e2 : m₁ (Str.ofString "dirname") = some (.str d td)) (hd : d = d')
    (e3 : ∀ y, y ≠ Str.ofString "i" → y ≠ Str.ofString "dirname" → y ≠ Str.ofString "c" → m₁ y = m y) : W257 h₀ L m news k' d' s Q .next { s with heap := h', toks := tk } := by
  subst hk; subst hd
  exact ⟨h', tk, ti, td, m₁ (Str.ofString "c"), rfl, fr_congr F (m257_eq e1 e2 e3), N⟩

def T257 (w : World) (A : Around) (env : Env) (test : PySem.Expr) (body : List Stmt) (h₀ : Heap) (L : Addr) (m : Str → Option Value) (news : List (Addr × Obj)) (s : Shared) (Q : Flow → Shared → Prop) (k : Int) (d : Str) (R : Shared → Flow → Shared → Prop) : Prop :=
  ∀ ti td vc hp tk, Fr h₀ L hp (fun y => if y = Str.ofString "i" then some (.int k ti) else if y = Str.ofString "dirname" then some (.str d td) else if y = Str.ofString "c" then vc else m y) → News h₀ L hp news →
      wpAny (model PG w) A (isTrue test env (eval test env)) (fun b s₂ => if b = true then wpAny (model PG w) A (execs body env) (R { s with heap := hp, toks := tk }) (fun _ _ => False) s₂ else False) (fun _ _ => False) { s with heap := hp, toks := tk }

theorem while257 {w : World} {A : Around} {E : Value → Shared → Prop} {s : Shared} {env : Env} {h₀ : Heap} {L : Addr} {m : Str → Option Value} {news : List (Addr × Obj)} {test : PySem.Expr} {body : List Stmt} {pos : Pos} {Q : Flow → Shared → Prop} {h : Nat} {ti td : Tok} {rt : Tok}
    (F : Fr h₀ L s.heap m) (N : News h₀ L s.heap news) (_hm : m (Str.ofString "resp") = some (.str (respS h) rt)) (h1 : m (Str.ofString "i") = some (.int 5 ti)) (h2 : m (Str.ofString "dirname") = some (.str (Str.ofString "") td))
    (tA : ∀ j, j < h → T257 w A env test body h₀ L m news s Q (5 + ((2 * j : Nat) : Int)) (qs j) (fun s => W257 h₀ L m news (5 + ((2 * (j + 1) : Nat) : Int)) (qs (j + 1)) s Q))
    (tB : T257 w A env test body h₀ L m news s Q (5 + ((2 * h : Nat) : Int)) (qs h) (fun s => W257 h₀ L m news (5 + ((2 * h : Nat) : Int) + 1) (outS h) s Q))
    (tC : T257 w A env test body h₀ L m news s Q (5 + ((2 * h : Nat) : Int) + 1) (outS h) (fun s f s₃ => match f with | .brk => Q .next s₃ | _ => False)) :
    wpAny (model PG w) A (exec (.While test body [] pos) env) Q E s := by
  refine wpAny_While ?_
  refine codeAny_whileLoop (fun n s' => ∃ h' tk ti td vc, s' = { s with heap := h', toks := tk } ∧ News h₀ L h' news ∧
    ((∃ j, n = h - j + 1 ∧ j ≤ h ∧ Fr h₀ L h' (m257 m (5 + ((2 * j : Nat) : Int)) (qs j) ti td vc)) ∨ (n = 0 ∧ Fr h₀ L h' (m257 m (5 + ((2 * h : Nat) : Int) + 1) (outS h) ti td vc)))) ?_ (h + 1)
    ⟨s.heap, s.toks, ti, td, m (Str.ofString "c"), rfl, N, .inl ⟨0, rfl, Nat.zero_le _, fr_congr F (m257_eq h1 (by rw [h2, e_eq]) fun _ _ _ _ => rfl)⟩⟩
  rintro n s' ⟨h', tk, ti, td, vc, rfl, N', ⟨j, rfl, hj, F'⟩ | ⟨rfl, F'⟩⟩
  · rcases Nat.lt_or_ge j h with hlt | hge
    · refine wpAny_mono (tA j hlt ti td vc h' tk F' N') (fun b s₂ hb => ?_) fun _ _ x => x.elim
      cases b with
      | false => simp at hb
      | true =>
        simp only [if_true] at hb ⊢
        refine wpAny_mono hb (fun f s₃ hf => ?_) fun _ _ x => x.elim
        cases f with
        | next =>
          obtain ⟨h'', tk'', ti', td', vc', e, F'', N''⟩ := hf
          exact ⟨h - (j + 1) + 1, by omega, h'', tk'', ti', td', vc', e, N'', .inl ⟨j + 1, rfl, hlt, F''⟩⟩
        | cont => exact hf.elim
        | brk => exact hf
        | ret v => exact hf
    · obtain rfl : j = h := by omega
      refine wpAny_mono (tB ti td vc h' tk F' N') (fun b s₂ hb => ?_) fun _ _ x => x.elim
      cases b with
      | false => simp at hb
      | true =>
        simp only [if_true] at hb ⊢
        refine wpAny_mono hb (fun f s₃ hf => ?_) fun _ _ x => x.elim
        cases f with
        | next =>
          obtain ⟨h'', tk'', ti', td', vc', e, F'', N''⟩ := hf
          exact ⟨0, by omega, h'', tk'', ti', td', vc', e, N'', .inr ⟨rfl, F''⟩⟩
        | cont => exact hf.elim
        | brk => exact hf
        | ret v => exact hf
  · refine wpAny_mono (tC ti td vc h' tk F' N') (fun b s₂ hb => ?_) fun _ _ x => x.elim
    cases b with
    | false => simp at hb
    | true =>
      simp only [if_true] at hb ⊢
      refine wpAny_mono hb (fun f s₃ hf => ?_) fun _ _ x => x.elim
      cases f with
      | brk => exact hf
      | next => exact hf.elim
      | cont => exact hf.elim
      | ret v => exact hf.elim
end Mine
end
section
open PySem PySem.W PyProof.Rows PySem.Calls
namespace Mine
theorem anew_P1 {w : World} {A : Around} {E : Value → Shared → Prop} {Q : Bool → Shared → Prop} {s : Shared} (h : Q true s) : wpAny (model PG w) A (truthy (.bool true)) Q E s := by
  w_top off
  k_with_none
  first | (walk1; exact h) | exact wpAny_truthy_bool h
end Mine
end
section
open PySem PySem.W PyProof.Rows PySem.Calls
set_option Elab.async false
set_option maxRecDepth 100000
set_option maxHeartbeats 40000000
namespace Mine


theorem p257 : ∀ (w : World) (h : Nat) (t1 : Tok) (_ : PySem.Challenge.rw_tr0033_01 = PySem.Challenge.rw_tr0033_01 ∧ hd.heap_39 = hd.heap_39) (hx : h ≤ 50),
    Fn w 88 [.str (respS h) t1] 1 8 (fun _ => True) (fun v _ => ∃ a, v = .str (outS h) a) := by
  k_with_none
  k_with "exec While Compare cons nil" => (k_here; k_dflt (apply while257; (case _ => k_asm); (case _ => k_asm); (case _ => with_unfolding_all rfl); (case _ => with_unfolding_all rfl); (case _ => with_unfolding_all rfl)); (all_goals (unfold T257; intros; try dsimp only)))
  k_with "W257" => first | (refine W257.next (by assumption) (by assumption) (by with_unfolding_all rfl) ?_ (by with_unfolding_all rfl) ?_ ?_ <;> first | rfl | omega | (intro y hy1 hy2 hy3; simp only [hy1, hy2, hy3, if_false]; done)) | (dsimp only [W257])
  k_with "subscriptTail Name Name str int" => (k_here; k_dflt (apply item_E; (case _ => omega); (case _ => (simp only [resp_len]; omega)); (case _ => (simp only [resp_len]; omega)); (case _ => with_reducible first | exact resp_k _ | exact resp_last1 _ | exact resp_q1 (by omega) | exact resp_q (by omega))))
  k_with "compareOp NotEq str str" => (k_here; k_dflt (apply sne_E (b := false); (case _ => first | (rw [resp_3]; exact bne_self_eq_false' ..) | (rw [resp_35]; exact bne_self_eq_false' ..) | exact bne_self_eq_false' ..)))
  k_with "compareOp Eq str str" => (k_here; k_dflt (first | (apply seq_E (b := true); (case _ => exact beq_self_eq_true' ..)) | (apply seq_E (b := false); (case _ => decide +kernel))))
  k_with "binaryOp Add str str" => (k_here; k_dflt (apply sadd_E; (case _ => first | exact qs_snoc _ | exact qs_k _); (case _ => (simp only [qs_len, out_len]; omega))); intro _ _)
  k_fill
  intro w h t1 _ hx
  refine' Fn.enter ?k6 ?k7 ?k9 ?kB ?c2 ?c3 ?c4 ?c5 ?_
  case k6 => k_dflt k_is
  case k7 => k_dflt k_is
  case k9 => exact fun _ => BindsTo.of_eq rfl
  case kB => exact locs rfl
  case c2 => exact rfl
  case c3 => exact rfl
  case c4 => exact rfl
  case c5 => decide
  intro A base outer s mean mg mb L h₁ tk B F X N T hh hdp hun hg hp
  have hlen := resp_len h
  try dsimp only
  w_strict (
    k_steps
    all_goals (
      dsimp only
      exact FnEnd.intro (by assumption) id rfl rfl ⟨_, rfl⟩))
end Mine
end
section
open PySem PySem.W PyProof.Rows PySem.Calls
set_option Elab.async false
set_option maxRecDepth 100000
set_option maxHeartbeats 40000000
namespace Mine

section
variable {M : Model} {A : Around} {R : GenEnd} {Y : Protocol} {n : Nat} {s₀ : Shared} {c : Code} {fs : List Frame} {s : Shared} {env : Env}
  {K : Flow → Sem Fin} {H : Value → Sem Fin} {gd : Bool → Bool} {lv : List Value → List Value}

theorem seg_congr {α : Type} {m : Sem α} {K K' : α → Sem Fin} {H H' : Value → Sem Fin} (hK : ∀ f, K f = K' f) (hH : ∀ e, H e = H' e) (h : Seg M A R Y n s₀ c (m.wrap K' H' gd lv) fs s) : Seg M A R Y n s₀ c (m.wrap K H gd lv) fs s := by
  rw [Sem.wrap_congr m gd lv hK hH]; exact h

theorem seg_stmt {st : Stmt} (h : wpAny M (A.over c fs) (exec st env) (fun f s' => Seg M A R Y n s₀ c (K f) fs s') (fun x s' => Seg M A R Y n s₀ c (H x) fs s') s) :
    Seg M A R Y n s₀ c ((exec st env).wrap K H gd lv) fs s := seg_wrap h

theorem seg_If {test : PySem.Expr} {body orelse : List Stmt} {pos : Pos}
    (h : wpAny M (A.over c fs) (isTrue test env (eval test env)) (fun b s' => Seg M A R Y n s₀ c ((if b = true then execs body env else execs orelse env).wrap K H gd lv) fs s') (fun x s' => Seg M A R Y n s₀ c (H x) fs s') s) :
    Seg M A R Y n s₀ c ((exec (.If test body orelse pos) env).wrap K H gd lv) fs s := by
  show Seg M A R Y n s₀ c (.at pos fun _ => (isTrue test env (eval test env) >>= fun b => if b = true then execs body env else execs orelse env).wrap K H gd lv) fs s
  exact seg_at (seg_bind_wrap h)

/-- what a loop of a generator's own hands back to its block -/
def kLoop (env : Env) (K : Flow → Sem Fin) (H : Value → Sem Fin) (gd : Bool → Bool) (lv : List Value → List Value) (r : Result) : Sem Fin :=
  ((match r with | .ok f => (.pure f : Sem Flow) | .error e => .raise e).onRaise fun (x : Value) => do
        if (← field x 1) == Value.none then unsupported "frame.own-activation:exception-without-traceback"
        setFlight x env.frame).wrap K H gd lv
theorem kLoop_ok (f : Flow) : kLoop env K H gd lv (.ok f) = K f := rfl

theorem seg_For {target iter : PySem.Expr} {body orelse : List Stmt} {pos : Pos}
    (h : wpAny M (A.over c fs) (eval iter env) (fun x s₁ => wpAny M (A.over c fs) (pyIter x) (fun it s₂ => ∀ p, Seg M A R Y n s₀ (.forLoop target it body orelse env) (M.den (.forLoop target it body orelse env))
      (.ret (kLoop env K H gd lv) none (gd false) (lv []) c p [] :: fs) s₂) (fun e s' => Seg M A R Y n s₀ c (H e) fs s') s₁) (fun e s' => Seg M A R Y n s₀ c (H e) fs s') s)
    (hs : ∀ x, foldedSetIterable iter env x = pure x := by intro _; rfl) :
    Seg M A R Y n s₀ c ((exec (.For target iter body orelse pos) env).wrap K H gd lv) fs s := by
  rw [exec_For]
  refine seg_bind_wrap (wpAny_standAt (seg_bind_wrap (wpAny_mono h (fun x s₁ h₁ => ?_) fun _ _ e => e)))
  refine seg_bind_wrap (wpAny_of_eq (hs x) (seg_bind_wrap (wpAny_standAt ?_)))
  refine seg_bind_wrap (wpAny_holding (wpAny_mono h₁ (fun it s₂ h₂ => ?_) fun _ _ e => e))
  show Seg M A R Y n s₀ c (.call (.forLoop target it body orelse env) none (gd false) (lv []) (kLoop env K H gd lv)) fs s₂
  exact seg_call h₂
end

section
variable {w : World} {A : Around} {R : GenEnd} {Y : Protocol} {n : Nat} {s₀ : Shared} {fs : List Frame} {s : Shared} {env : Env}

/-- how a loop's turn goes on behind its block -/
def kTurn (target : PySem.Expr) (it : Value) (body : List Stmt) (env : Env) (f : Flow) : Sem Fin :=
  match f with
  | .next | .cont => .pure (.again (.forLoop target it body [] env))
  | .brk => .pure (.done .next)
  | .ret v => .pure (.done (.ret v))

def hTurn (env : Env) (e : Value) : Sem Fin := (do noteFrame e env; theTreesLotGoes e : Sem Unit).bind fun _ => .raise e

theorem seg_forTurn {target : PySem.Expr} {it : Value} {body : List Stmt} {k g l c₁ p₁ kp}
    (h : wpAny (model PG w) (A.over (.forLoop target it body [] env) (.ret k none g l c₁ p₁ kp :: fs)) (pyNext it) (fun r s₁ => match r with
      | none => Seg (model PG w) A R Y n s₀ c₁ (k (.ok .next)) fs s₁
      | some v => wpAny (model PG w) (A.over (.forLoop target it body [] env) (.ret k none g l c₁ p₁ kp :: fs)) (letOwnedTupleGo target it v) (fun _ s₂ =>
          wpAny (model PG w) (A.over (.forLoop target it body [] env) (.ret k none g l c₁ p₁ kp :: fs)) (assign target env v) (fun _ s₃ =>
            Seg (model PG w) A R Y n s₀ (.forLoop target it body [] env) ((execs body env).wrap (kTurn target it body env) (hTurn env) id id) (.ret k none g l c₁ p₁ kp :: fs) s₃) (fun _ _ => False) s₂) (fun _ _ => False) s₁) (fun _ _ => False) s) :
    Seg (model PG w) A R Y n s₀ (.forLoop target it body [] env) ((model PG w).den (.forLoop target it body [] env)) (.ret k none g l c₁ p₁ kp :: fs) s := by
  show Seg _ A R Y n s₀ _ ((forTurn target it body [] env).onRaise (fun x => do noteFrame x env; theTreesLotGoes x)) _ s
  rw [Sem.onRaise_eq_wrap]
  unfold forTurn
  refine seg_bind_wrap (wpAny_standAt ?_)
  refine seg_bind_wrap (wpAny_onRaise (wpAny_mono h (fun r s₁ h₁ => ?_) fun _ _ e => e.elim))
  cases r with
  | none =>
    show Seg _ A R Y n s₀ _ (.pure (.again (.block [] env))) _ s₁
    refine seg_again rfl ?_
    show Seg _ A R Y n s₀ _ (leafOf (.ok .next)) _ s₁
    exact seg_leaf (.ok .next) h₁
  | some v =>
    refine seg_bind_wrap (wpAny_mono h₁ (fun _ s₂ h₂ => ?_) fun _ _ e => e.elim)
    refine seg_bind_wrap (wpAny_mono h₂ (fun _ s₃ h₃ => ?_) fun _ _ e => e.elim)
    rw [Sem.bind_eq_wrap', Sem.wrap_wrap]
    refine seg_congr (K' := kTurn target it body env) (H' := hTurn env) (fun f => ?_) (fun e => ?_) h₃
    · cases f <;> rfl
    · rfl
end
end Mine
end
section
open PySem PySem.W PyProof.Rows PySem.Calls
set_option Elab.async false
set_option maxRecDepth 100000
set_option maxHeartbeats 40000000
namespace Mine

def Kept (H₀ : Heap) (fp : List Addr) (h h' : Heap) : Prop := (∀ b ∈ fp, ∀ o, h.get? b = some o → h'.get? b = some o) ∧ ∀ b o, H₀.get? b = some o → h'.get? b = some o
def SinceG (n₀ : Nat) (a : Addr) (s₀ s : Shared) : Prop := ∃ h' tk, s = { s₀ with heap := h', toks := tk } ∧ ∀ b o, (b < n₀ ∨ b = a) → s₀.heap.get? b = some o → h'.get? b = some o
theorem SinceG.refl (n₀ : Nat) (a : Addr) (s : Shared) : SinceG n₀ a s s := ⟨s.heap, s.toks, rfl, fun _ _ _ e => e⟩
theorem SinceG.step {n₀ : Nat} {a : Addr} {s₀ s : Shared} (x : SinceG n₀ a s₀ s) {h' : Heap} {tk : Nat} (hk : ∀ b o, (b < n₀ ∨ b = a) → s.heap.get? b = some o → h'.get? b = some o) : SinceG n₀ a s₀ { s with heap := h', toks := tk } := by
  obtain ⟨h₁, tk₁, rfl, hk₁⟩ := x
  exact ⟨h', tk, rfl, fun b o hb e => hk b o hb (hk₁ b o hb e)⟩

abbrev RG (n₀ : Nat) (a : Addr) : GenEnd := fun n s₀ r s₁ => r = .ok (.ret .none) ∧ (n = 0 ∧ SinceG n₀ a s₀ s₁)
def YG (H₀ : Heap) (n₀ : Nat) (a : Addr) (x : Str) : Protocol := fun m s₀ v s kap =>
  ∃ D t c u, v = .ref D ∧ IsTup s.heap D #[.int ((x.cps.size - 1 - m : Nat) : Int) t, .str ⟨#[c]⟩ u] ∧ x.cps[x.cps.size - 1 - m]? = some c ∧ n₀ ≤ D ∧ SinceG n₀ a s₀ s ∧
    ∃ fp, (∀ b ∈ fp, n₀ ≤ b ∧ ∃ o, s.heap.get? b = some o) ∧ ∀ s'', Kept H₀ fp s.heap s''.heap → kap (.send .none) s''

structure GEnv (env : Env) : Prop where
  kind : env.scope.kind = .function
  glob : env.globals = mainGlobals
  bi : env.builtins = builtinsNs
  co : env.scope.isCoroutine = false
  kPos : env.kindOf (Str.ofString "pos") = some .local
  kCh : env.kindOf (Str.ofString "ch") = some .local
  kEsc : env.kindOf (Str.ofString "escape") = some .local
  kAddr : env.kindOf (Str.ofString "addr") = some .local
  kEnum : env.kindOf (Str.ofString "enumerate") = some .globalImplicit
  inter : interactive env = false

section
variable {M : Model} {A : Around} {E : Value → Shared → Prop} {s : Shared} {env : Env}
theorem ldG (G : GEnv env) {x : Str} {pos : Pos} {m : Str → Option Value} {v : Value} {Q : Value → Shared → Prop} (hl : env.kindOf x = some .local) (hn : s.heap.Ns env.locals m) (hv : m x = some v) (h : Q v s) (hd : (x == ("__debug__" : Str)) = false := by decide) :
    wpAny M A (eval (.Name x pos) env) Q E s := wpAny_Name (wpAny_loadName_local G.kind hl hn hv h) hd
theorem stG (G : GEnv env) {x : Str} {m : Str → Option Value} {v : Value} {Q : Unit → Shared → Prop} (hl : env.kindOf x = some .local) (hn : s.heap.Ns env.locals m)
    (h : ∀ h', h'.Ns env.locals (fun y => if y = x then some v else m y) → Heap.SameBut env.locals s.heap h' → Q () { s with heap := h', toks := s.toks + 1 }) :
    wpAny M A (storeName env x v) Q E s := wpAny_storeName_local hl hn h (by rw [G.kind]; rfl)
end

/-- the state at the head of the generator's loop -/
structure LoopG (H₀ : Heap) (n₀ : Nat) (a C e it : Addr) (St : Nat → Heap → Prop) (i : Nat) (s₀ s : Shared) : Prop where
  since : SinceG n₀ a s₀ s
  ns : ∃ m, s.heap.Ns C m ∧ m (Str.ofString "escape") = some (.bool false)
  enum : ∃ old, IsEnum s.heap e it i old
  st : St i s.heap
  base : ∀ b o, H₀.get? b = some o → s.heap.get? b = some o

abbrev gTgt (p7 p8 p9 : Pos) (k3 : Nat) : PySem.Expr := .Tuple [.Name (Str.ofString "pos") p7, .Name (Str.ofString "ch") p8] k3 p9
abbrev gBody (p13 p14 p15 p16 p17 p18 p19 p20 p21 p22 p23 : Pos) (k4 k5 : Nat) (B1 B2 : List Stmt) : List Stmt :=
  [.If (.Name (Str.ofString "escape") p13) B1 [.If (.Compare (.Name (Str.ofString "ch") p14) [.Eq] [.Constant (.str (Str.ofString "\\")) k4 p15] p16) B2 [.Expr (.Yield (some (.Tuple [.Name (Str.ofString "pos") p17, .Name (Str.ofString "ch") p18] k5 p19)) p20) p21] p22] p23]

theorem bs_eq : (Str.ofString "\\") = ⟨#[92]⟩ := by decide +kernel
theorem d_esc_ch : Str.ofString "escape" ≠ Str.ofString "ch" := by decide +kernel
theorem d_esc_pos : Str.ofString "escape" ≠ Str.ofString "pos" := by decide +kernel
theorem d_pos_ch : Str.ofString "pos" ≠ Str.ofString "ch" := by decide +kernel
theorem ne_bs {c : Nat} (h : c ≠ 92) : ((⟨#[c]⟩ : Str) == Str.ofString "\\") = false := by
  rw [bs_eq]
  apply beq_eq_false_iff_ne.mpr
  intro e
  injection e with e
  have := congrArg (fun a => a[0]?) e
  simp at this
  exact h this

theorem over_handled {A : Around} (hh : A.handled = none) (c : Code) {k : Result → Sem PySem.Fin} {g : Bool} {l : List Value} {c₁ : Code} {p₁ : Pos} {kp : List Value} : (A.over c (.ret k none g l c₁ p₁ kp :: [])).handled = none := by
  simp [Around.over, marksOver, Frame.marks, hh, markOver]

theorem gen_loop {w : World} {A : Around} {env : Env} (G : GEnv env) {H₀ : Heap} {n₀ : Nat} {a e it : Addr} {x : Str} {St : Nat → Heap → Prop} (hb : ∀ c ∈ x.cps.toList, c ≠ 92) (hh : A.handled = none)
    (D : ∀ A' : Around, A'.handled = none → Draws PG w A' it [it] x.cps.size (fun i v => ∃ c u, x.cps[i]? = some c ∧ v = .str ⟨#[c]⟩ u) St)
    (hC : n₀ ≤ env.locals) (he : n₀ ≤ e) (hi : n₀ ≤ it) (hCe : e ≠ env.locals) (hCi : it ≠ env.locals) (hei : e ≠ it) (haC : a ≠ env.locals) (hae : a ≠ e) (hai : a ≠ it) (hH : H₀.objs.size ≤ n₀)
    {p7 p8 p9 p13 p14 p15 p16 p17 p18 p19 p20 p21 p22 p23 p₁ : Pos} {k3 k4 k5 : Nat} {B1 B2 : List Stmt} {cG : Code} {kF : Result → Sem PySem.Fin} {l kp : List Value}
    (after : ∀ s₀ s, SinceG n₀ a s₀ s → (∃ m, s.heap.Ns env.locals m ∧ m (Str.ofString "escape") = some (.bool false)) → Seg (model PG w) A (RG n₀ a) (YG H₀ n₀ a x) 0 s₀ cG (kF (.ok .next)) [] s) :
    ∀ (k i : Nat) (s₀ s : Shared), x.cps.size - i = k → i ≤ x.cps.size → LoopG H₀ n₀ a env.locals e it St i s₀ s →
      Seg (model PG w) A (RG n₀ a) (YG H₀ n₀ a x) k s₀
        (.forLoop (gTgt p7 p8 p9 k3) (.ref e) (gBody p13 p14 p15 p16 p17 p18 p19 p20 p21 p22 p23 k4 k5 B1 B2) [] env)
        ((model PG w).den (.forLoop (gTgt p7 p8 p9 k3) (.ref e) (gBody p13 p14 p15 p16 p17 p18 p19 p20 p21 p22 p23 k4 k5 B1 B2) [] env))
        (.ret kF none false l cG p₁ kp :: []) s := by
  have hh' := over_handled hh (.forLoop (gTgt p7 p8 p9 k3) (.ref e) (gBody p13 p14 p15 p16 p17 p18 p19 p20 p21 p22 p23 k4 k5 B1 B2) [] env) (k := kF) (g := false) (l := l) (c₁ := cG) (p₁ := p₁) (kp := kp)
  have W := WalksT.enumerateD (D (Around.in1 (A.over (.forLoop (gTgt p7 p8 p9 k3) (.ref e) (gBody p13 p14 p15 p16 p17 p18 p19 p20 p21 p22 p23 k4 k5 B1 B2) [] env) (.ret kF none false l cG p₁ kp :: []))) hh') e hei (by simp [hei]) (by simp)
  have offW : ∀ b, b < n₀ ∨ b = a → b ∉ [e, it] := fun b hb hm => by
    rcases List.mem_cons.mp hm with rfl | hm
    · rcases hb with h | h
      · exact absurd he (Nat.not_le_of_lt h)
      · exact hae h.symm
    · have := List.mem_singleton.mp hm
      subst this
      rcases hb with h | h
      · exact absurd hi (Nat.not_le_of_lt h)
      · exact hai h.symm
  have offC : ∀ b, b < n₀ ∨ b = a → b ≠ env.locals := fun b hb hm => by
    subst hm
    rcases hb with h | h
    · exact absurd hC (Nat.not_le_of_lt h)
    · exact haC h.symm
  have CnW : env.locals ∉ [e, it] := fun hm => by
    rcases List.mem_cons.mp hm with h | hm
    · exact hCe h.symm
    · exact hCi (List.mem_singleton.mp hm).symm
  intro k
  induction k with
  | zero =>
    intro i s₀ s hk hin I
    obtain rfl : i = x.cps.size := by omega
    refine seg_forTurn ?_
    refine W.done s _ _ ⟨I.enum, I.st⟩ fun h' tk hk' => ?_
    obtain ⟨m, hm, hesc⟩ := I.ns
    exact after _ _ (I.since.step fun b o hb' e' => hk' b o (offW b hb') e') ⟨m, hm.at' fun o e' => hk' _ o CnW e', hesc⟩
  | succ k ih =>
    intro i s₀ s hk hin I
    have hlt : i < x.cps.size := by omega
    refine seg_forTurn ?_
    refine W.item i s _ _ hlt ⟨I.enum, I.st⟩ fun T vals h₁ tk₁ hP hT0 hTup hMid hk₁ => ?_
    obtain ⟨t, v, ⟨c, u, hc, rfl⟩, rfl⟩ := hP
    have hTw := W.apart _ _ _ hMid
    refine W.go _ _ _ i T _ _ _ hMid fun h₂ hst₂ hk₂ => ?_
    dsimp only at hk₂ ⊢
    have hTup₂ : h₂.IsTuple T #[.int i t, .str ⟨#[c]⟩ u] := let ⟨o, ho, r⟩ := hTup; ⟨o, hk₂ _ _ hTw ho, r⟩
    refine wpAny_assign_Tuple hh' hTup₂ rfl rfl fun h₃ hx₃ => ?_
    dsimp only at hx₃
    obtain ⟨m, hm, hesc⟩ := I.ns
    have hm₂ : h₂.Ns env.locals m := (hm.at' fun o e' => hk₁ _ o CnW e').at' fun o e' => hk₂ _ o CnW e'
    have hm₃ : h₃.Ns env.locals m := hm₂.at' fun o e' => hx₃ _ o (Nat.ne_of_lt (Heap.lt_size e')) e'
    show wpAny _ _ (do holding [_] (assign (.Name (Str.ofString "pos") p7) env (.int i t)); do holding [] (assign (.Name (Str.ofString "ch") p8) env (.str ⟨#[c]⟩ u)); pure ()) _ _ _
    refine wpAny_bind (wpAny_holding (wpAny_assign_Name (stG G G.kPos hm₃ fun h₄ hm₄ hs₄ => ?_)))
    refine wpAny_bind (wpAny_holding (wpAny_assign_Name (stG G G.kCh hm₄ fun h₅ hm₅ hs₅ => wpAny_pure ?_)))
    have up : ∀ b o, b ≠ env.locals → b ∉ [e, it] → s.heap.get? b = some o → h₅.get? b = some o := fun b o hbC hbw e' =>
      hs₅.extBut b o hbC (hs₄.extBut b o hbC (hx₃ b o (Nat.ne_of_lt (Heap.lt_size (hk₂ b o hbw (hk₁ b o hbw e')))) (hk₂ b o hbw (hk₁ b o hbw e'))))
    have up₂ : ∀ b o, b ≠ env.locals → h₂.get? b = some o → h₅.get? b = some o := fun b o hbC e' =>
      hs₅.extBut b o hbC (hs₄.extBut b o hbC (hx₃ b o (Nat.ne_of_lt (Heap.lt_size e')) e'))
    refine seg_execs_cons (seg_If (isTrue_plain (ldG G G.kEsc hm₅ (by rw [if_neg d_esc_ch, if_neg d_esc_pos]; exact hesc) (wpAny_truthy_bool ?_))))
    show Seg _ A _ _ _ s₀ _ ((execs _ env).wrap _ _ _ _) _ _
    refine seg_execs_cons (seg_If (wpAny_isTrue_Compare1 (ldG G G.kCh hm₅ (v := .str ⟨#[c]⟩ u) (by simp) (Calls.Constant_str (PyProof.Rows.eq_str (wpAny_truthy_bool ?_))))))
    rw [ne_bs (hb c (List.mem_of_getElem? (by rw [Array.getElem?_toList]; exact hc)))]
    show Seg _ A _ _ _ s₀ _ ((execs _ env).wrap _ _ _ _) _ _
    refine seg_execs_cons (seg_Expr_Yield rfl rfl rfl ?_ G.co G.inter)
    refine Tuple_ (spliced_more (ldG G G.kPos hm₅ (v := .int i t) (by rw [if_neg d_pos_ch, if_pos rfl]) (spliced_more (ldG G G.kCh hm₅ (v := .str ⟨#[c]⟩ u) (by simp) (spliced_none ?_)))))
    refine wpAny_newTuple ?_
    intro kap hkap
    have hidx : x.cps.size - 1 - k = i := by omega
    show YG H₀ n₀ a x k s₀ _ _ kap
    have old : ∀ b o, h₅.get? b = some o → (h₅.push { cls := .type "tuple", data := .seq [Value.int i t, Value.str ⟨#[c]⟩ u].toArray }).get? b = some o := fun b o e' => Heap.get?_push_of_some _ e'
    refine ⟨_, t, c, u, rfl, ⟨_, Heap.get?_push_size _ rfl, rfl, 0, ?_⟩, by rw [hidx]; exact hc, ?_, ?_, [env.locals, e, it], ?_, fun s'' hK => ?_⟩
    · rw [hidx]
    · have := hm₅.lt
      show n₀ ≤ h₅.objs.size
      exact Nat.le_of_lt (Nat.lt_of_le_of_lt hC this)
    · exact I.since.step fun b o hb' e' => old b o (up b o (offC b hb') (offW b hb') e')
    · intro b hb'
      rcases List.mem_cons.mp hb' with rfl | hb'
      · obtain ⟨o, _, _, ho, _⟩ := hm₅
        exact ⟨hC, o, old _ _ ho⟩
      rcases List.mem_cons.mp hb' with rfl | hb'
      · obtain ⟨⟨_, q⟩, _⟩ := hst₂
        exact ⟨he, _, old _ _ (up₂ _ _ hCe q)⟩
      · rw [List.mem_singleton.mp hb']
        obtain ⟨o, q⟩ := (D _ hh').live _ _ hst₂.2
        exact ⟨hi, o, old _ _ (up₂ _ _ hCi q)⟩
    · refine hkap .none s'' ?_
      show Seg _ A _ _ k s'' _ (.pure (.again _)) _ s''
      refine seg_again rfl (ih (i + 1) s'' s'' (by omega) hlt ⟨.refl .., ⟨_, hm₅.at' fun o e' => hK.1 _ (by simp) o (old _ _ e'), by rw [if_neg d_esc_ch, if_neg d_esc_pos]; exact hesc⟩, ?_, ?_, hK.2⟩)
      · obtain ⟨⟨old', q⟩, _⟩ := hst₂
        exact ⟨old', hK.1 e (by simp) _ (old _ _ (up₂ _ _ hCe q))⟩
      · exact (D _ hh').frame _ _ _ hst₂.2 fun b hb' o e' => by
          rw [List.mem_singleton.mp hb'] at e' ⊢
          exact hK.1 it (by simp) _ (old _ _ (up₂ _ _ hCi e'))
end Mine
end
section
open PySem PySem.W PyProof.Rows PySem.Calls
set_option Elab.async false
set_option maxRecDepth 100000
set_option maxHeartbeats 40000000
namespace Mine

theorem gen_start {w : World} {A : Around} {env : Env} (G : GEnv env) {H₀ : Heap} {n₀ : Nat} {a : Addr} {x : Str} {t : Tok} {mg mb : Str → Option Value} (hb : ∀ c ∈ x.cps.toList, c ≠ 92) (hasc : x.cps.all (· < 128) = true) (hh : A.handled = none)
    (hC : n₀ ≤ env.locals) (haC : a ≠ env.locals) (hH : H₀.objs.size ≤ n₀) (hg : H₀.Ns mainGlobals mg) (hmg : mg (Str.ofString "enumerate") = none) (hbi : H₀.Ns builtinsNs mb) (hmb : mb (Str.ofString "enumerate") = some (.type "enumerate"))
    {p1 p2 p3 p4 p5 p6 p7 p8 p9 p10 p11 p12 p13 p14 p15 p16 p17 p18 p19 p20 p21 p22 p23 p24 p25 p26 : Pos} {k1 k2 k3 k4 k5 : Nat} {B1 B2 B3 : List Stmt} {s₀ s : Shared} {m : Str → Option Value}
    (hn : s.heap.Ns env.locals m) (hm : m (Str.ofString "addr") = some (.str x t)) (ha : ∃ o, s.heap.get? a = some o) (hs : SinceG n₀ a s₀ s) (hbase : ∀ b o, H₀.get? b = some o → s.heap.get? b = some o) :
    Seg (model PG w) A (RG n₀ a) (YG H₀ n₀ a x) x.cps.size s₀
      (.func [.Assign [.Name (Str.ofString "pos") p1] (.Constant (.int 0) k1 p2) p3, .Assign [.Name (Str.ofString "escape") p4] (.Constant (.bool false) k2 p5) p6,
        .For (gTgt p7 p8 p9 k3) (.Call (.Name (Str.ofString "enumerate") p10) [.Name (Str.ofString "addr") p11] [] p12) (gBody p13 p14 p15 p16 p17 p18 p19 p20 p21 p22 p23 k4 k5 B1 B2) [] p24, .If (.Name (Str.ofString "escape") p25) B3 [] p26] env)
      ((model PG w).den (.func [.Assign [.Name (Str.ofString "pos") p1] (.Constant (.int 0) k1 p2) p3, .Assign [.Name (Str.ofString "escape") p4] (.Constant (.bool false) k2 p5) p6,
        .For (gTgt p7 p8 p9 k3) (.Call (.Name (Str.ofString "enumerate") p10) [.Name (Str.ofString "addr") p11] [] p12) (gBody p13 p14 p15 p16 p17 p18 p19 p20 p21 p22 p23 k4 k5 B1 B2) [] p24, .If (.Name (Str.ofString "escape") p25) B3 [] p26] env)) [] s := by
  refine seg_func ?_
  refine seg_execs_cons (seg_stmt (wpAny_Assign_Name (wpAny_Constant_int (stG G G.kPos hn fun h₁ hn₁ hs₁ => ?_))))
  dsimp only at hs₁ ⊢
  refine seg_execs_cons (seg_stmt (wpAny_Assign_Name ?_))
  show wpAny _ _ (pure (Value.bool false)) _ _ _
  refine wpAny_pure (stG G G.kEsc hn₁ fun h₂ hn₂ hs₂ => ?_)
  dsimp only at hs₂ ⊢
  have up : ∀ b o, b ≠ env.locals → s.heap.get? b = some o → h₂.get? b = some o := fun b o hbC e => hs₂.extBut b o hbC (hs₁.extBut b o hbC e)
  have baseC : ∀ b o, H₀.get? b = some o → b ≠ env.locals := fun b o e q => by
    subst q
    exact absurd (Nat.lt_of_lt_of_le (Heap.lt_size e) (Nat.le_trans hH hC)) (Nat.lt_irrefl _)
  have base₂ : ∀ b o, H₀.get? b = some o → h₂.get? b = some o := fun b o e => up b o (baseC b o e) (hbase b o e)
  have d1 : Str.ofString "addr" ≠ Str.ofString "escape" := by decide +kernel
  have d2 : Str.ofString "addr" ≠ Str.ofString "pos" := by decide +kernel
  have hN : (A.over (.func [.Assign [.Name (Str.ofString "pos") p1] (.Constant (.int 0) k1 p2) p3, .Assign [.Name (Str.ofString "escape") p4] (.Constant (.bool false) k2 p5) p6,
        .For (gTgt p7 p8 p9 k3) (.Call (.Name (Str.ofString "enumerate") p10) [.Name (Str.ofString "addr") p11] [] p12) (gBody p13 p14 p15 p16 p17 p18 p19 p20 p21 p22 p23 k4 k5 B1 B2) [] p24, .If (.Name (Str.ofString "escape") p25) B3 [] p26] env) []).handled = none := hh
  refine seg_execs_cons (seg_For ?_)
  refine Call_ (Name_function_global G.kind G.kEnum (loadGlobal_builtin (by rw [G.glob]; exact hg.keeps base₂) hmg (by rw [G.bi]; exact hbi.keeps base₂) hmb ?_) (by decide))
  refine callWith_type1 (spliced_more (ldG G G.kAddr hn₂ (v := .str x t) (by rw [if_neg d1, if_neg d2]; exact hm) (spliced_none ?_)))
  refine call_enumerate_str fun h₃ he₃ hit₃ hz₃ hk₃ => ?_
  dsimp only at he₃ hit₃ hz₃ hk₃ ⊢
  refine wpAny_pyIter_enum he₃ fun p => ?_
  have hClt : env.locals < h₂.objs.size := hn₂.lt
  have halt : a < h₂.objs.size := let ⟨o, e⟩ := ha; Heap.lt_size (up a o haC e)
  have hty : strIterType x = "str_ascii_iterator" := by unfold strIterType; rw [hasc]; rfl
  rw [hty] at hit₃
  refine gen_loop G (H₀ := H₀) (n₀ := n₀) (a := a) (it := h₂.objs.size) (St := fun i h => h.IsStrIter h₂.objs.size "str_ascii_iterator" x t i) hb hh
    (fun A' hA => Draws.strAscii hA _ x t) hC (Nat.le_trans hC (Nat.le_of_lt (Nat.lt_succ_of_lt hClt))) (Nat.le_trans hC (Nat.le_of_lt hClt)) (Nat.ne_of_gt (Nat.lt_succ_of_lt hClt)) (Nat.ne_of_gt hClt) (Nat.succ_ne_self _) haC (Nat.ne_of_lt (Nat.lt_succ_of_lt halt)) (Nat.ne_of_lt halt) hH ?_ x.cps.size 0 s₀ _ (Nat.sub_zero _) (Nat.zero_le _) ?_
  · intro s₁ s' hsi hns
    obtain ⟨m', hm', hesc⟩ := hns
    rw [kLoop_ok]
    show Seg _ A _ _ 0 s₁ _ ((execs _ env).wrap _ _ _ _) [] s'
    refine seg_execs_cons (seg_If (isTrue_plain (ldG G G.kEsc hm' hesc (wpAny_truthy_bool ?_))))
    show Seg _ A _ _ 0 s₁ _ (leafOf (.ok (.ret .none))) [] s'
    exact seg_end (.ok (.ret .none)) ⟨rfl, rfl, hsi⟩
  · refine ⟨?_, ⟨_, hn₂.keeps hk₃, by rw [if_pos rfl]⟩, ⟨.none, by simpa using he₃⟩, hit₃, fun b o e => hk₃ b o (base₂ b o e)⟩
    exact hs.step fun b o hb' e => hk₃ b o (up b o (fun q => by
      subst q
      rcases hb' with h | h
      · exact absurd hC (Nat.not_le_of_lt h)
      · exact haC h.symm) e)
end Mine
end
section
open PySem PySem.W PyProof.Rows PySem.Calls
set_option Elab.async false
set_option maxRecDepth 100000
set_option maxHeartbeats 40000000
namespace Mine

/-- the generator object a, number g, of _iter_escaped_chars(x), about to hand out its i-th pair -/
structure GenIt (w : World) (A : Around) (H₀ : Heap) (n₀ : Nat) (a : Addr) (g : Nat) (x : Str) (i : Nat) (s : Shared) : Prop where
  isGen : s.heap.IsGen a g
  low : n₀ ≤ a
  goes : ∃ gs fp, s.gens[g]? = some gs ∧ (∀ b ∈ fp, n₀ ≤ b ∧ ∃ o, s.heap.get? b = some o) ∧ ∀ s'' : Shared, Kept H₀ fp s.heap s''.heap →
    gs.Goes (model PG w) A.in1 (RG n₀ a) (YG H₀ n₀ a x) (x.cps.size - i) (.send .none) s''

section
variable {w : World} {A : Around} {E : Value → Shared → Prop} {s : Shared} {H₀ : Heap} {n₀ : Nat} {a : Addr} {g i : Nat} {x : Str}

theorem next_gen {n : Nat} {gs : GenState} {P : Nat → Shared → Shared → Prop} {Y : Protocol} {Q : Option Value → Shared → Prop} (hh : A.handled = none)
    (hl : s.heap.NoLimit) (hroom : A.depth < recursionLimit) (hg : s.heap.IsGen a g) (hgs : s.gens[g]? = some gs)
    (hgo : gs.Goes (model PG w) A.in1 (fun n s₀ r s₁ => r = .ok (.ret .none) ∧ P n s₀ s₁) Y n (.send .none) (s.setGen g .running))
    (hY : ∀ v s₁ gs', gs'.bare = true → Y (n - 1) (s.setGen g .running) v s₁ (fun r' s'' => match n with
        | 0 => False
        | m + 1 => gs'.Goes (model PG w) A.in1 (fun n s₀ r s₁ => r = .ok (.ret .none) ∧ P n s₀ s₁) Y m r' s'') → Q (some v) (s₁.setGen g gs'))
    (hP : ∀ s₁, P n (s.setGen g .running) s₁ → ∀ h', (∀ b o, s₁.heap.get? b = some o → h'.get? b = some o) → Q none { s₁.setGen g .finished with heap := h' }) :
    wpAny (model PG w) A (pyNext (.ref a)) Q E s := by
  unfold pyNext
  refine wpAny_bind (wpAny_attempt (wpAny_callSpecial?_slot (name := Str.ofString "__next__") hg.typeIs slot_gen_next
    (wpAny_call_entry slot_gen_next hg.typeIs entry_gen_next ?_ (args_gen_next _))))
  show wpAny _ A.in1 (Builtin.Generator.genWake (.ref a) (.send .none)) _ _ s
  unfold Builtin.Generator.genWake
  refine wpAny_bind (wpAny_holding (wpAny_genNumber hg (wpAny_bind (wpAny_genState hgs ?_))))
  have main : ∀ {α : Type} (k : GenResult → Sem α) (Q' : α → Shared → Prop) (E' : Value → Shared → Prop),
      (∀ s₁, P n (s.setGen g .running) s₁ → wpAny (model PG w) A.in1 (k (.returned .none)) Q' E' (s₁.setGen g .finished)) →
      (∀ v s₁ gs', gs'.bare = true → Y (n - 1) (s.setGen g .running) v s₁ (fun r' s'' => match n with
        | 0 => False
        | m + 1 => gs'.Goes (model PG w) A.in1 (fun n s₀ r s₁ => r = .ok (.ret .none) ∧ P n s₀ s₁) Y m r' s'') → wpAny (model PG w) A.in1 (k (.yielded v)) Q' E' (s₁.setGen g gs')) →
      wpAny (model PG w) A.in1 (.resume g (.send .none) [] k) Q' E' s := fun k Q' E' h1 h2 =>
    wpAny_resumeQ hgs hgo (fun r s₁ hr => by obtain ⟨rfl, hp⟩ := hr; exact h1 s₁ hp) h2
  cases gs with
  | running => exact hgo.elim
  | finished => exact hgo.elim
  | _ =>
    refine wpAny_bind (wpAny_roomToWake hl hroom ?_)
    refine main _ _ _ (fun s₁ hp => ?_) (fun v s₁ gs' hb hv => wpAny_pure ⟨v, rfl, wpAny_pure (hY v s₁ gs' hb hv)⟩)
    show wpAny _ A.in1 (newExc (.type "StopIteration") [] >>= _) _ _ _
    refine wpAny_bind ?_
    simp only [newExc, newTuple]
    refine wpAny_bind (wpAny_newObj_type ?_ (by size_fits))
    refine wpAny_bind (m := firstArgMember _ _) (wpAny_of_eq (a := Value.none) (by first | rfl | (simp only [firstArgMember]; rfl)) ?_)
    refine wpAny_newObj_type ?_ (by size_fits)
    simp only [raiseNew]
    refine wpAny_bind (wpAny_bind (wpAny_handled ?_))
    first | rw [show A.in1.handled = none from hh] | rw [hh]
    refine wpAny_throw ?_
    refine wpAny_bind (wpAny_isInstance (T := "StopIteration") (b := true) ⟨_, Heap.get?_push_size _ rfl, rfl⟩ isSubtype_stop ?_)
    exact wpAny_pure (hP s₁ hp _ fun b o hb => Heap.get?_push_of_some _ (Heap.get?_push_of_some _ hb))

theorem bare_set {gens : Array GenState} {g : Nat} {x : GenState} (h : AllBare gens) (hx : x.bare = true) : AllBare (gens.setIfInBounds g x) := by
  intro y hy
  rcases Array.mem_or_eq_of_mem_setIfInBounds hy with h' | h'
  · exact h y h'
  · rw [h']; exact hx

theorem GenIt.item {Q : Option Value → Shared → Prop} (hh : A.handled = none) (hl : s.heap.NoLimit) (hroom : A.depth < recursionLimit) (st : GenIt w A H₀ n₀ a g x i s) (hi : i < x.cps.size) (hH : H₀.objs.size ≤ n₀) (hbase : ∀ b o, H₀.get? b = some o → s.heap.get? b = some o) (hb : AllBare s.gens)
    (hQ : ∀ D t c u h' g' tk, IsTup h' D #[.int (i : Int) t, .str ⟨#[c]⟩ u] → x.cps[i]? = some c → n₀ ≤ D → (∀ b o, b < n₀ → s.heap.get? b = some o → h'.get? b = some o) →
      GenIt w A H₀ n₀ a g x (i + 1) { s with heap := h', gens := g', toks := tk } → AllBare g' → Q (some (.ref D)) { s with heap := h', gens := g', toks := tk }) :
    wpAny (model PG w) A (pyNext (.ref a)) Q E s := by
  obtain ⟨hg, hlow, gs, fp, hgs, hfp, hgo⟩ := st
  obtain ⟨m, hm⟩ : ∃ m, x.cps.size - i = m + 1 := ⟨x.cps.size - i - 1, by omega⟩
  rw [hm] at hgo
  refine next_gen (P := fun n s₀ s₁ => n = 0 ∧ SinceG n₀ a s₀ s₁) hh hl hroom hg hgs (hgo _ ⟨fun _ _ _ e => e, hbase⟩) (fun v s₁ gs' hbr hv => ?_) (fun s₁ hp h' hk => absurd hp.1 (Nat.succ_ne_zero m))
  obtain ⟨D, t, c, u, rfl, hD, hc, hDn, ⟨h₁, tk₁, rfl, hk₁⟩, fp', hfp', hkap⟩ := hv
  have hidx : x.cps.size - 1 - (m + 1 - 1) = i := by omega
  rw [hidx] at hD hc
  dsimp only at hD hfp' hkap hk₁
  have e : (({ s.setGen g .running with heap := h₁, toks := tk₁ } : Shared).setGen g gs') = { s with heap := h₁, gens := (s.gens.setIfInBounds g .running).setIfInBounds g gs', toks := tk₁ } := rfl
  rw [e]
  refine hQ D t c u h₁ _ tk₁ hD hc hDn (fun b o hb' e' => hk₁ b o (.inl hb') e') ⟨let ⟨o, nm, qn, ho, r⟩ := hg; ⟨o, nm, qn, hk₁ a o (.inr rfl) ho, r⟩, hlow, gs', fp', ?_, hfp', fun s'' hK => ?_⟩ (bare_set (bare_set hb rfl) hbr)
  · have := setGen_self (s := s.setGen g .running) (x := gs') (setGen_self (x := .running) hgs)
    exact this
  · have e2 : x.cps.size - (i + 1) = m := by omega
    rw [e2]
    exact hkap s'' hK

theorem GenIt.done {Q : Option Value → Shared → Prop} (hh : A.handled = none) (hl : s.heap.NoLimit) (hroom : A.depth < recursionLimit) (st : GenIt w A H₀ n₀ a g x x.cps.size s) (hH : H₀.objs.size ≤ n₀) (hbase : ∀ b o, H₀.get? b = some o → s.heap.get? b = some o) (hb : AllBare s.gens)
    (hQ : ∀ h' g' tk, (∀ b o, b < n₀ → s.heap.get? b = some o → h'.get? b = some o) → AllBare g' → Q none { s with heap := h', gens := g', toks := tk }) :
    wpAny (model PG w) A (pyNext (.ref a)) Q E s := by
  obtain ⟨hg, hlow, gs, fp, hgs, hfp, hgo⟩ := st
  rw [Nat.sub_self] at hgo
  refine next_gen (P := fun n s₀ s₁ => n = 0 ∧ SinceG n₀ a s₀ s₁) hh hl hroom hg hgs (hgo _ ⟨fun _ _ _ e => e, hbase⟩) (fun v s₁ gs' hbr hv => ?_) (fun s₁ hp h' hk => ?_)
  · obtain ⟨D, t, c, u, _, _, _, _, ⟨h₁, tk₁, rfl, hk₁⟩, fp', _, hkap⟩ := hv
    exact (hkap _ ⟨fun _ _ _ e => e, fun b o e => hk₁ b o (.inl (Nat.lt_of_lt_of_le (Heap.lt_size e) hH)) (hbase b o e)⟩).elim
  · obtain ⟨_, h₁, tk₁, rfl, hk₁⟩ := hp
    exact hQ h' _ _ (fun b o hb' e => hk b o (hk₁ b o (.inl hb') e)) (bare_set (bare_set hb rfl) rfl)
end
end Mine
end
section
open PySem PySem.W PyProof.Rows PySem.Calls
set_option Elab.async false
set_option maxRecDepth 100000
set_option maxHeartbeats 40000000
namespace Mine

theorem enum_free {mean : ExcName → Option Value} {mg mb : Str → Option Value} {h : Heap} (T : Top hd.view_39 (looseW hd.view_39 []) mean mg mb h) : mg (Str.ofString "enumerate") = none :=
  T.free _ (by decide +kernel) (by decide +kernel) (by decide +kernel) (by decide +kernel) (by decide +kernel)

theorem gen_enter {w : World} {A : Around} {s : Shared} {R : Result → Shared → Prop} {f : Addr} {args : List Value} {h₀ : Heap}
    {name qual : Str} {params : Arguments} {body : List Stmt} {scope : Scope} {dV kV doc pm cdv ct oc : Value} {an od : Option Addr} {osl : Array (Option Value)} {binds : List (Str × Value)}
    (X : (hd.heap_39 w.params).In s.heap)
    (ho : (hd.heap_39 w.params).lookup f = some ⟨oc, od, .func (fnOf name qual params body scope dV kV doc pm an cdv ct), osl⟩) (hcd : codeIn (hd.heap_39 w.params) cdv qual = true)
    (hd : A.depth < recursionLimit) (hl : h₀.NoLimit) (hbase : ∀ b o, h₀.get? b = some o → s.heap.get? b = some o)
    (hbind : bindArgs (fnOf name qual params body scope dV kV doc pm an cdv ct) ⟨args, []⟩ = pure binds) (hloc : ∀ y ∈ binds, scope.names.lookup y.1 = some .local)
    (hco : scope.isCoroutine = false) (hgen : scope.isGenerator = true) (hk : scope.kind = .function) (hcell : ∀ x ∈ scope.names, x.2 ≠ .cell)
    (h : ∀ h' : Heap, h'.Ns s.heap.objs.size (fun y => binds.reverse.lookup y) → (∀ b o, s.heap.get? b = some o → h'.get? b = some o) → h'.objs.size = s.heap.objs.size + 1 →
      R (.ok (.ret (.ref h'.objs.size))) { s with gens := s.gens.push (.fresh (.func body (envOf qual scope s.heap.objs.size f cdv))), toks := s.toks + binds.length + 1 + 1, heap := h'.push { cls := .type "generator", data := .fields #[.int s.gens.size 0, .str name (s.toks + binds.length), .str qual (s.toks + binds.length + 1)] } }) :
    codeAny (model PG w) A (.call (.ref f) ⟨args, []⟩) R s := by
  refine codeAny_call_generator (fd := fnOf name qual params body scope dV kV doc pm an cdv ct) hd (X _ _ ho) rfl hco hgen rfl (codeRec_of X hcd) ?_
  refine wpAny_of_eq hbind ?_
  refine wpAny_newFunctionEnv hcell hloc (fun h' hns hsb => ?_) hk
  have keep : ∀ b o, s.heap.get? b = some o → h'.get? b = some o := fun b o e => hsb.extBut b o (Nat.ne_of_lt (Heap.lt_size e)) (Heap.get?_push_of_some _ e)
  exact ⟨hl.keeps fun b o e => keep b o (hbase b o e), h h' hns keep (by rw [hsb.1, Heap.size_push])⟩

theorem isGen_push (h : Heap) (g : Nat) (nm qn : Value) : (h.push { cls := .type "generator", data := .fields #[.int g 0, nm, qn] }).IsGen h.objs.size g := ⟨_, nm, qn, Heap.get?_push_size _ rfl, rfl, rfl, rfl⟩

theorem gen_call : ∀ (w : World) (x : Str) (t1 : Tok) (_ : PySem.Challenge.rw_tr0033_01 = PySem.Challenge.rw_tr0033_01 ∧ hd.heap_39 = hd.heap_39) (_ : ∀ c ∈ x.cps.toList, c ≠ 92) (_ : x.cps.all (· < 128) = true)
    (A A' : Around) (H₀ : Heap) (s : Shared) (mean : ExcName → Option Value) (mg mb : Str → Option Value) (Q E : Value → Shared → Prop),
    (hd.heap_39 w.params).In s.heap → Top hd.view_39 (looseW hd.view_39 []) mean mg mb H₀ → (∀ b o, H₀.get? b = some o → s.heap.get? b = some o) → A'.handled = none → A.depth < recursionLimit → AllBare s.gens → H₀.objs.size ≤ s.heap.objs.size →
    (∀ a g h' g' tk, (∀ b o, s.heap.get? b = some o → h'.get? b = some o) → GenIt w A' H₀ s.heap.objs.size a g x 0 { s with heap := h', gens := g', toks := tk } → AllBare g' → Q (.ref a) { s with heap := h', gens := g', toks := tk }) →
    wpAny (model PG w) A (call (.ref 42) [.str x t1]) Q E s := by
  k_fill
  intro w x t1 _ hb hasc A A' H₀ s mean mg mb Q E X T hbase hh' hd hbare hH h
  refine wpAny_call ?_
  refine' gen_enter (binds := [(Str.ofString "addr", .str x t1)]) X ?k6 ?k7 hd T.nolimit hbase ?kb ?kl ?c2 ?c3 ?c4 ?c5 (fun h' hns keep hsz => ?_)
  case k6 => k_dflt k_is
  case k7 => k_dflt k_is
  case kb => exact rfl
  case kl => exact locs rfl
  case c2 => exact rfl
  case c3 => exact rfl
  case c4 => exact rfl
  case c5 => decide
  dsimp only
  refine h _ s.gens.size _ _ _ (fun b o e => Heap.get?_push_of_some _ (keep b o e)) ⟨isGen_push _ _ _ _, ?_, _, [s.heap.objs.size, h'.objs.size], Array.getElem?_push_size .., ?_, fun s'' hK => ⟨rfl, ?_⟩⟩ ?_
  · rw [hsz]; exact Nat.le_succ _
  · intro b hb'
    rcases List.mem_cons.mp hb' with rfl | hb'
    · obtain ⟨o, _, _, ho, _⟩ := hns
      exact ⟨Nat.le_refl _, o, Heap.get?_push_of_some _ ho⟩
    · rw [List.mem_singleton.mp hb']
      exact ⟨by rw [hsz]; exact Nat.le_succ _, _, Heap.get?_push_size _ rfl⟩
  · refine gen_start (A := A'.in1) (n₀ := s.heap.objs.size) (t := t1) (m := fun y => ([(Str.ofString "addr", Value.str x t1)] : List (Str × Value)).reverse.lookup y) ?_ hb hasc hh' ?_ ?_ hH T.g (enum_free T) T.b ?_ ?_ ?_ ?_ (SinceG.refl ..) hK.2
    · exact ⟨rfl, rfl, rfl, rfl, rfl, rfl, rfl, rfl, rfl, rfl⟩
    · exact Nat.le_refl _
    · show h'.objs.size ≠ s.heap.objs.size
      rw [hsz]; exact Nat.succ_ne_self _
    · rw [T.builtins _ (by decide +kernel)]; exact boot_enumerate
    · exact hns.at' fun o e => hK.1 s.heap.objs.size (by simp) o (Heap.get?_push_of_some _ e)
    · rfl
    · exact ⟨_, hK.1 h'.objs.size (by simp) _ (Heap.get?_push_size _ rfl)⟩
  · intro y hy
    rcases Array.mem_push.mp hy with hy | rfl
    · exact hbare y hy
    · rfl
end Mine
end
section
open PySem PySem.W PyProof.Rows PySem.Calls
set_option Elab.async false
set_option maxRecDepth 100000
set_option maxHeartbeats 40000000
namespace Mine

theorem own_of {h : Heap} {n₀ : Nat} : ∀ {fp : List Addr}, (∀ b ∈ fp, n₀ ≤ b ∧ ∃ o, h.get? b = some o) → ∃ own : List (Addr × Obj), (∀ p ∈ own, n₀ ≤ p.1 ∧ h.get? p.1 = some p.2) ∧ ∀ b ∈ fp, ∃ o, (b, o) ∈ own
  | [], _ => ⟨[], fun _ hp => (nomatch hp), fun _ hb => (nomatch hb)⟩
  | b :: r, H => by
    obtain ⟨own, h1, h2⟩ := own_of (fun c hc => H c (.tail _ hc))
    obtain ⟨hn, o, ho⟩ := H b (.head _)
    refine ⟨(b, o) :: own, fun p hp => ?_, fun c hc => ?_⟩
    · rcases List.mem_cons.mp hp with rfl | hp
      · exact ⟨hn, ho⟩
      · exact h1 p hp
    · rcases List.mem_cons.mp hc with rfl | hc
      · exact ⟨o, .head _⟩
      · obtain ⟨o', hm⟩ := h2 c hc
        exact ⟨o', .tail _ hm⟩

theorem GenIt.own {w : World} {A : Around} {H₀ : Heap} {n₀ : Nat} {a : Addr} {g : Nat} {x : Str} {i : Nat} {s : Shared} (st : GenIt w A H₀ n₀ a g x i s) :
    ∃ own : List (Addr × Obj), (∀ p ∈ own, n₀ ≤ p.1 ∧ s.heap.get? p.1 = some p.2) ∧ ∀ h' tk, (∀ p ∈ own, h'.get? p.1 = some p.2) → GenIt w A H₀ n₀ a g x i { s with heap := h', toks := tk } := by
  obtain ⟨hg, hlow, gs, fp, hgs, hfp, hgo⟩ := st
  obtain ⟨oa, nm, qn, hoa, r⟩ := hg
  obtain ⟨own, h1, h2⟩ := own_of (fp := a :: fp) (n₀ := n₀) (h := s.heap) (fun b hb => by
    rcases List.mem_cons.mp hb with rfl | hb
    · exact ⟨hlow, oa, hoa⟩
    · exact hfp b hb)
  have up : ∀ {h' : Heap}, (∀ p ∈ own, h'.get? p.1 = some p.2) → ∀ b ∈ a :: fp, ∀ o, s.heap.get? b = some o → h'.get? b = some o := fun hk b hb o e => by
    obtain ⟨o', hm⟩ := h2 b hb
    have := (h1 _ hm).2
    rw [e] at this
    cases this
    exact hk _ hm
  refine ⟨own, h1, fun h' tk hk => ⟨⟨oa, nm, qn, up hk a (.head _) _ hoa, r⟩, hlow, gs, fp, hgs, fun b hb => ?_, fun s'' hK => hgo s'' ⟨fun b hb o e => hK.1 b hb o (up hk b (.tail _ hb) o e), hK.2⟩⟩⟩
  obtain ⟨hn, o, e⟩ := hfp b hb
  exact ⟨hn, o, up hk b (.tail _ hb) o e⟩

theorem owned_gen {w : World} {A : Around} {E : Value → Shared → Prop} {s : Shared} {a D : Addr} {g : Nat} {elts : List PySem.Expr} {k : Nat} {pos : Pos} {Q : Unit → Shared → Prop} (hg : s.heap.IsGen a g) (h : Q () s) :
    wpAny (model PG w) A (letOwnedTupleGo (.Tuple elts k pos) (.ref a) (.ref D)) Q E s := by
  obtain ⟨⟨c, d, dt, sl⟩, nm, qn, ho, hc, hd, _⟩ := hg
  dsimp only at hc hd
  subst hc; subst hd
  unfold letOwnedTupleGo
  refine wpAny_bind (wpAny_load ho ?_)
  show wpAny _ A (if (["enumerate", "zip", "dict_itemiterator", "dict_reverseitemiterator", "odict_iterator", "itertools.zip_longest", "itertools.pairwise"].contains "generator" &&
      (#[Value.int g 0, nm, qn] : Array Value)[0]? == some (rawInt D)) = true then _ else _) Q E s
  rw [if_neg (by simp)]
  exact wpAny_pure h

/-- the end of a turn of a loop over the generator -/
def GTurn (h₀ : Heap) (L : Addr) (J : (Str → Option Value) → List (Addr × Obj) → Prop) (own : List (Addr × Obj)) (adr : List Addr) (s₁ : Shared) (Q : Flow → Shared → Prop) (f : Flow) (s₂ : Shared) : Prop :=
  match f with
  | .ret v => Q (.ret v) s₂
  | .brk => Q .next s₂
  | _ => InvEndN h₀ L J own adr s₁ s₂

theorem for_gen {w : World} {A A₀ : Around} {E : Value → Shared → Prop} {s : Shared} {env : Env} {h₀ base : Heap} {outer : List Env} {m : Str → Option Value} {news : List (Addr × Obj)} {mean : ExcName → Option Value} {mg mb : Str → Option Value} {Q : Flow → Shared → Prop} {x : Str} {t : Tok}
    {p1 p2 p3 p4 p5 p6 p7 : Pos} {k3 : Nat} {body : List Stmt}
    (_B : Below A₀ base outer h₀) (F : Fr h₀ env.locals s.heap m) (X : (hd.heap_39 w.params).In h₀) (N : News h₀ env.locals s.heap news) (T : Top hd.view_39 (looseW hd.view_39 []) mean mg mb h₀)
    (hh : A.handled = none) (hroom : A.depth < recursionLimit) (hb : AllBare s.gens) (hk : env.scope.kind = .function) (hglob : env.globals = mainGlobals)
    (n1 : env.kindOf (Str.ofString "_iter_escaped_chars") = some .globalImplicit) (n2 : env.kindOf (Str.ofString "addr") = some .local) (n3 : env.kindOf (Str.ofString "pos") = some .local) (n4 : env.kindOf (Str.ofString "ch") = some .local)
    (hg : nsIn (hd.heap_39 w.params) mainGlobals (Str.ofString "_iter_escaped_chars") = some (some (.ref 42))) {fo : Obj} {fd : FuncData} (hfo : (hd.heap_39 w.params).lookup 42 = some fo) (hfd : fo.data = .func fd)
    (hm : m (Str.ofString "addr") = some (.str x t)) (hnb : ∀ c ∈ x.cps.toList, c ≠ 92) (hasc : x.cps.all (· < 128) = true)
    (J : Nat → (Str → Option Value) → List (Addr × Obj) → Prop) (hJ : J 0 m news)
    (turn : ∀ i c m₁ news₁ ti u own h g tk, x.cps[i]? = some c → J i m₁ news₁ → news₁.map (·.1) = news.map (·.1) → OwnOff own (news.map (·.1)) → AllBare g →
      Fr h₀ env.locals h (fun y => if y = Str.ofString "ch" then some (.str ⟨#[c]⟩ u) else if y = Str.ofString "pos" then some (.int (i : Int) ti) else m₁ y) → News h₀ env.locals h (news₁ ++ own) →
      wpAny (model PG w) A (execs body env) (GTurn h₀ env.locals (J (i + 1)) own (news.map (·.1)) { s with heap := h, gens := g, toks := tk } Q) (fun _ _ => False) { s with heap := h, gens := g, toks := tk })
    (done : ∀ m₁ news₁ h g tk, J x.cps.size m₁ news₁ → news₁.map (·.1) = news.map (·.1) → AllBare g → Fr h₀ env.locals h m₁ → News h₀ env.locals h news₁ → Q .next { s with heap := h, gens := g, toks := tk }) :
    wpAny (model PG w) A (exec (.For (.Tuple [.Name (Str.ofString "pos") p1, .Name (Str.ofString "ch") p2] k3 p3) (.Call (.Name (Str.ofString "_iter_escaped_chars") p4) [.Name (Str.ofString "addr") p5] [] p6) body [] p7) env) Q E s := by
  have hp : (env.scope.kind == .class || (env.scope.kind == .module && env.locals != env.globals)) = false := by rw [hk]; rfl
  refine wpAny_For (Call_ (Name_function_global hk n1 (loadGlobal_global (by rw [hglob]; exact T.g.keeps F.keep) (mg_of X T.g hg) ?_)))
  refine callWith_def hfd (spliced_more (wpAny_Name (wpAny_loadName_local hk n2 F.ns hm (spliced_none ⟨F.keep _ _ (X _ _ hfo), ?_⟩)) (by decide)))
  have hHs : h₀.objs.size ≤ s.heap.objs.size := Nat.le_trans F.above (Nat.le_of_lt F.ns.lt)
  refine gen_call w x t ⟨rfl, rfl⟩ hnb hasc A A h₀ s mean mg mb _ _ (X.keeps F.keep) T F.keep hh hroom hb hHs fun a g₀ h' g' tk hk' st hb' => ?_
  refine wpAny_pyIter_gen st.isGen ?_
  have hL : env.locals < s.heap.objs.size := F.ns.lt
  have hnl : ∀ p ∈ news, p.1 < s.heap.objs.size := fun p hp => Heap.lt_size (N p hp).1
  refine codeAny_forLoop_any (fun k s' => ∃ i m₁ news₁ h g tk, s' = { s with heap := h, gens := g, toks := tk } ∧ k = x.cps.size + 1 - i ∧ i ≤ x.cps.size ∧ J i m₁ news₁ ∧ news₁.map (·.1) = news.map (·.1) ∧ Fr h₀ env.locals h m₁ ∧ News h₀ env.locals h news₁ ∧
    GenIt w A h₀ s.heap.objs.size a g₀ x i s' ∧ AllBare g) ?_ (x.cps.size + 1) ⟨0, m, news, h', g', tk, rfl, rfl, Nat.zero_le _, hJ, rfl, F.grownK hk', N.grown hk', st, hb'⟩
  rintro k s' ⟨i, m₁, news₁, h, g, tk, rfl, rfl, hi, hJi, hmap, F₁, N₁, st₁, hb₁⟩
  have hl : h.NoLimit := T.nolimit.keeps F₁.keep
  have hnl₁ : ∀ p ∈ news₁, p.1 < s.heap.objs.size := fun p hp => by
    have : p.1 ∈ news₁.map (·.1) := List.mem_map_of_mem hp
    rw [hmap] at this
    obtain ⟨q, hq, e⟩ := List.mem_map.mp this
    rw [← e]; exact hnl q hq
  rcases Nat.lt_or_ge i x.cps.size with hlt | hge
  · refine GenIt.item hh hl hroom st₁ hlt hHs F₁.keep hb₁ fun D t' c u h₂ g₂ tk₂ hD hc hDn hk₂ st₂ hb₂ => ?_
    dsimp only at hk₂ hD st₂ ⊢
    have F₂ : Fr h₀ env.locals h₂ m₁ := ⟨F₁.ns.at' fun o e => hk₂ _ o hL e, fun b o e => hk₂ b o (Nat.lt_of_lt_of_le (Heap.lt_size e) hHs) (F₁.keep b o e), F₁.above⟩
    have N₂ : News h₀ env.locals h₂ news₁ := fun p hp => ⟨hk₂ _ _ (hnl₁ p hp) (N₁ p hp).1, (N₁ p hp).2⟩
    refine owned_gen st₂.isGen ?_
    have hDt : h₂.IsTuple D #[.int (i : Int) t', .str ⟨#[c]⟩ u] := hD
    refine wpAny_assign_Tuple hh hDt rfl rfl fun h₃ hx₃ => ?_
    dsimp only at hx₃
    have up₃ : ∀ b o, h₂.get? b = some o → h₃.get? b = some o := fun b o e => hx₃ b o (Nat.ne_of_lt (Heap.lt_size e)) e
    have F₃ := F₂.grownK up₃
    show wpAny _ _ (do holding [_] (assign (.Name (Str.ofString "pos") p1) env (.int i t')); do holding [] (assign (.Name (Str.ofString "ch") p2) env (.str ⟨#[c]⟩ u)); pure ()) _ _ _
    refine wpAny_bind (wpAny_holding (wpAny_assign_Name (wpAny_storeName_local n3 F₃.ns (fun h₄ hm₄ hs₄ => ?_) hp)))
    refine wpAny_bind (wpAny_holding (wpAny_assign_Name (wpAny_storeName_local n4 hm₄ (fun h₅ hm₅ hs₅ => wpAny_pure ?_) hp)))
    have F₅ : Fr h₀ env.locals h₅ (fun y => if y = Str.ofString "ch" then some (.str ⟨#[c]⟩ u) else if y = Str.ofString "pos" then some (.int (i : Int) t') else m₁ y) := (F₃.set hm₄ hs₄).set hm₅ hs₅
    have up₅ : ∀ b o, b ≠ env.locals → h₂.get? b = some o → h₅.get? b = some o := fun b o hbL e => hs₅.extBut b o hbL (hs₄.extBut b o hbL (up₃ b o e))
    obtain ⟨own, ho1, ho2⟩ := st₂.own
    dsimp only at ho1 ho2
    have hoL : ∀ p ∈ own, p.1 ≠ env.locals := fun p hp e => absurd (e ▸ (ho1 p hp).1) (Nat.not_le_of_lt hL)
    have N₅ : News h₀ env.locals h₅ (news₁ ++ own) := by
      intro p hp
      rcases List.mem_append.mp hp with hp | hp
      · exact ⟨up₅ _ _ (N₂ p hp).2.1 (N₂ p hp).1, (N₂ p hp).2⟩
      · exact ⟨up₅ _ _ (hoL p hp) (ho1 p hp).2, hoL p hp, Heap.get?_none_of_le (Nat.le_trans hHs (ho1 p hp).1)⟩
    have hoff : OwnOff own (news.map (·.1)) := by
      intro p hp b hb2 e
      obtain ⟨q, hq, rfl⟩ := List.mem_map.mp hb2
      exact absurd (e ▸ (ho1 p hp).1) (Nat.not_le_of_lt (hnl q hq))
    refine wpAny_mono (turn i c m₁ news₁ t' u own h₅ g₂ _ hc hJi hmap hoff hb₂ F₅ N₅) (fun f s₂ hf => ?_) fun _ _ e => e.elim
    have fin : InvEndN h₀ env.locals (J (i + 1)) own (news.map (·.1)) { s with heap := h₅, gens := g₂, toks := tk₂ + 1 + 1 } s₂ → ∃ k', k' < x.cps.size + 1 - i ∧ ∃ i' m₁ news₁ h g tk, s₂ = { s with heap := h, gens := g, toks := tk } ∧ k' = x.cps.size + 1 - i' ∧ i' ≤ x.cps.size ∧ J i' m₁ news₁ ∧ news₁.map (·.1) = news.map (·.1) ∧ Fr h₀ env.locals h m₁ ∧ News h₀ env.locals h news₁ ∧
        GenIt w A h₀ s.heap.objs.size a g₀ x i' s₂ ∧ AllBare g := by
      rintro ⟨h₆, tk₆, m₆, news₆, nx, rfl, F₆, N₆, hnx, hown, hmap₆, hJ₆⟩
      exact ⟨x.cps.size + 1 - (i + 1), by omega, i + 1, m₆, nx, h₆, g₂, tk₆, rfl, rfl, hlt, hJ₆, hmap₆, F₆, fun p hp => N₆ p (hnx p hp), ho2 h₆ tk₆ fun p hp => (N₆ p (hown p hp)).1, hb₂⟩
    cases f with
    | next => exact fin hf
    | cont => exact fin hf
    | brk => exact hf
    | ret v => exact hf
  · obtain rfl : i = x.cps.size := by omega
    refine GenIt.done hh hl hroom st₁ hHs F₁.keep hb₁ fun h₂ g₂ tk₂ hk₂ hb₂ => wpAny_execs_nil ?_
    dsimp only at hk₂ ⊢
    exact done m₁ news₁ h₂ g₂ tk₂ hJi hmap hb₂ ⟨F₁.ns.at' fun o e => hk₂ _ o hL e, fun b o e => hk₂ b o (Nat.lt_of_lt_of_le (Heap.lt_size e) hHs) (F₁.keep b o e), F₁.above⟩ fun p hp => ⟨hk₂ _ _ (hnl₁ p hp) (N₁ p hp).1, (N₁ p hp).2⟩
end Mine
end
section
open PySem PySem.W PyProof.Rows PySem.Calls
set_option Elab.async false
set_option maxRecDepth 100000
set_option maxHeartbeats 40000000
namespace Mine

abbrev StS := Int × Option Int × List Str
def stepS (x : Str) (i : Nat) (c : Nat) (q : StS) : StS :=
  if ((⟨#[c]⟩ : Str) == Str.ofString "\"") = true then
    match q.2.1 with
    | none => (q.1, some (i : Int), q.2.2)
    | some o => ((i : Int) + 1, none, if q.1 = o then q.2.2 else q.2.2 ++ [Txt.slice x (some q.1) (some o)])
  else q
def foldS (x : Str) : Nat → StS
  | 0 => (0, none, [])
  | i + 1 => stepS x i (x.cps[i]?.getD 0) (foldS x i)

theorem strsAre_len : ∀ {vs : List Value} {ys : List Str}, StrsAre vs ys → vs.length = ys.length
  | _, _, .nil => rfl
  | _, _, .cons _ _ h => congrArg (· + 1) (strsAre_len h)
theorem strsAre_snoc {vs : List Value} {ys : List Str} (h : StrsAre vs ys) (y : Str) (t : Tok) : StrsAre (vs ++ [.str y t]) (ys ++ [y]) := by
  induction h with
  | nil => exact .cons y t .nil
  | cons z u _ ih => exact .cons z u ih
theorem strsAre_push {vs : Array Value} {ys : List Str} (h : StrsAre vs.toList ys) (y : Str) (t : Tok) : StrsAre (vs.push (.str y t)).toList (ys ++ [y]) := by
  rw [Array.toList_push]; exact strsAre_snoc h y t
theorem foldS_len (x : Str) : ∀ i, (foldS x i).2.2.length ≤ i
  | 0 => Nat.le_refl _
  | i + 1 => by
    have ih := foldS_len x i
    show (stepS x i (x.cps[i]?.getD 0) (foldS x i)).2.2.length ≤ i + 1
    unfold stepS
    split
    · split
      · exact Nat.le_succ_of_le ih
      · dsimp only
        split
        · exact Nat.le_succ_of_le ih
        · rw [List.length_append]; simp only [List.length_cons, List.length_nil]; omega
    · exact Nat.le_succ_of_le ih

inductive OpIs : Value → Option Int → Prop
  | none : OpIs .none none
  | int (o : Int) (t : Tok) : OpIs (.int o t) (some o)

def JS (x : Str) (m : Str → Option Value) (D : Addr) (i : Nat) (m₁ : Str → Option Value) (news₁ : List (Addr × Obj)) : Prop :=
  ∃ ts ov vs nn, m₁ (Str.ofString "start") = some (.int (foldS x i).1 ts) ∧ m₁ (Str.ofString "open_pos") = some ov ∧ OpIs ov (foldS x i).2.1 ∧
    (∀ y, y ≠ Str.ofString "start" → y ≠ Str.ofString "open_pos" → y ≠ Str.ofString "pos" → y ≠ Str.ofString "ch" → m₁ y = m y) ∧ news₁ = [(D, W.listOf vs nn)] ∧ StrsAre vs.toList (foldS x i).2.2

def STurn (x : Str) (h₀ : Heap) (L : Addr) (m : Str → Option Value) (D : Addr) (own : List (Addr × Obj)) (q : StS) (s₁ : Shared) (Q : Flow → Shared → Prop) (f : Flow) (s₂ : Shared) : Prop :=
  match f with
  | .ret v => Q (.ret v) s₂
  | .brk => Q .next s₂
  | _ => InvEndN h₀ L (fun m₁ news₁ => ∃ ts ov vs nn, m₁ (Str.ofString "start") = some (.int q.1 ts) ∧ m₁ (Str.ofString "open_pos") = some ov ∧ OpIs ov q.2.1 ∧
    (∀ y, y ≠ Str.ofString "start" → y ≠ Str.ofString "open_pos" → y ≠ Str.ofString "pos" → y ≠ Str.ofString "ch" → m₁ y = m y) ∧ news₁ = [(D, W.listOf vs nn)] ∧ StrsAre vs.toList q.2.2) own [D] s₁ s₂

theorem STurn.next {x : Str} {h₀ : Heap} {L D : Addr} {m m₁ : Str → Option Value} {own newsAll : List (Addr × Obj)} {q : StS} {s₁ : Shared} {Q : Flow → Shared → Prop} {h' : Heap} {tk : Nat} {st : Int} {ts : Tok} {ov : Value} {vs : Array Value} {nn : Nat} {op : Option Int} {res : List Str}
    (F : Fr h₀ L h' m₁) (N : News h₀ L h' newsAll) (hD : (D, W.listOf vs nn) ∈ newsAll) (hown : ∀ p ∈ own, p ∈ newsAll) (e1 : m₁ (Str.ofString "start") = some (.int st ts)) (e2 : m₁ (Str.ofString "open_pos") = some ov) (hop : OpIs ov op)
    (e3 : ∀ y, y ≠ Str.ofString "start" → y ≠ Str.ofString "open_pos" → y ≠ Str.ofString "pos" → y ≠ Str.ofString "ch" → m₁ y = m y) (hv : StrsAre vs.toList res) (hq : q = (st, op, res)) :
    STurn x h₀ L m D own q s₁ Q .next { s₁ with heap := h', toks := tk } := by
  subst hq
  exact InvEndN.intro F N ⟨ts, ov, vs, nn, e1, e2, hop, e3, rfl, hv⟩ rfl (fun p hp => by rw [List.mem_singleton.mp hp]; exact hD) hown

theorem strip_for {w : World} {A A₀ : Around} {E : Value → Shared → Prop} {s : Shared} {env : Env} {h₀ base : Heap} {outer : List Env} {m : Str → Option Value} {mean : ExcName → Option Value} {mg mb : Str → Option Value} {Q : Flow → Shared → Prop} {x : Str} {t : Tok} {D : Addr} {t0 : Tok} {n0 : Nat}
    {p1 p2 p3 p4 p5 p6 p7 : Pos} {k3 : Nat} {body : List Stmt}
    (B : Below A₀ base outer h₀) (F : Fr h₀ env.locals s.heap m) (X : (hd.heap_39 w.params).In h₀) (N : News h₀ env.locals s.heap [(D, W.listOf #[] n0)]) (T : Top hd.view_39 (looseW hd.view_39 []) mean mg mb h₀)
    (hh : A.handled = none) (hroom : A.depth < recursionLimit) (hb : AllBare s.gens) (hk : env.scope.kind = .function) (hglob : env.globals = mainGlobals)
    (n1 : env.kindOf (Str.ofString "_iter_escaped_chars") = some .globalImplicit) (n2 : env.kindOf (Str.ofString "addr") = some .local) (n3 : env.kindOf (Str.ofString "pos") = some .local) (n4 : env.kindOf (Str.ofString "ch") = some .local)
    (hg : nsIn (hd.heap_39 w.params) mainGlobals (Str.ofString "_iter_escaped_chars") = some (some (.ref 42))) {fo : Obj} {fd : FuncData} (hfo : (hd.heap_39 w.params).lookup 42 = some fo) (hfd : fo.data = .func fd)
    (hm : m (Str.ofString "addr") = some (.str x t)) (hnb : ∀ c ∈ x.cps.toList, c ≠ 92) (hasc : x.cps.all (· < 128) = true) (hxs : x.cps.size ≤ 1000)
    (m1 : m (Str.ofString "start") = some (.int 0 t0)) (m2 : m (Str.ofString "open_pos") = some .none)
    (turnN : ∀ (i c : Nat) st res vs nn ts ti u own h g tk, x.cps[i]? = some c → vs.size ≤ 1000 → StrsAre vs.toList res → OwnOff own [D] → AllBare g →
      Fr h₀ env.locals h (fun y => if y = Str.ofString "ch" then some (.str ⟨#[c]⟩ u) else if y = Str.ofString "pos" then some (.int (i : Int) ti) else if y = Str.ofString "start" then some (.int st ts) else if y = Str.ofString "open_pos" then some .none else m y) →
      News h₀ env.locals h ((D, W.listOf vs nn) :: own) →
      wpAny (model PG w) A (execs body env) (STurn x h₀ env.locals m D own (stepS x i c (st, none, res)) { s with heap := h, gens := g, toks := tk } Q) (fun _ _ => False) { s with heap := h, gens := g, toks := tk })
    (turnS : ∀ (i c : Nat) st o res vs nn ts to ti u own h g tk, x.cps[i]? = some c → vs.size ≤ 1000 → StrsAre vs.toList res → OwnOff own [D] → AllBare g →
      Fr h₀ env.locals h (fun y => if y = Str.ofString "ch" then some (.str ⟨#[c]⟩ u) else if y = Str.ofString "pos" then some (.int (i : Int) ti) else if y = Str.ofString "start" then some (.int st ts) else if y = Str.ofString "open_pos" then some (.int o to) else m y) →
      News h₀ env.locals h ((D, W.listOf vs nn) :: own) →
      wpAny (model PG w) A (execs body env) (STurn x h₀ env.locals m D own (stepS x i c (st, some o, res)) { s with heap := h, gens := g, toks := tk } Q) (fun _ _ => False) { s with heap := h, gens := g, toks := tk })
    (done : ∀ ts ov vs nn (vp vc : Option Value) h g tk, vs.size ≤ 1000 → OpIs ov (foldS x x.cps.size).2.1 → StrsAre vs.toList (foldS x x.cps.size).2.2 → AllBare g →
      Fr h₀ env.locals h (fun y => if y = Str.ofString "start" then some (.int (foldS x x.cps.size).1 ts) else if y = Str.ofString "open_pos" then some ov else if y = Str.ofString "pos" then vp else if y = Str.ofString "ch" then vc else m y) →
      News h₀ env.locals h [(D, W.listOf vs nn)] → Q .next { s with heap := h, gens := g, toks := tk }) :
    wpAny (model PG w) A (exec (.For (.Tuple [.Name (Str.ofString "pos") p1, .Name (Str.ofString "ch") p2] k3 p3) (.Call (.Name (Str.ofString "_iter_escaped_chars") p4) [.Name (Str.ofString "addr") p5] [] p6) body [] p7) env) Q E s := by
  have d1 : Str.ofString "start" ≠ Str.ofString "ch" := by decide +kernel
  have d2 : Str.ofString "start" ≠ Str.ofString "pos" := by decide +kernel
  have d3 : Str.ofString "open_pos" ≠ Str.ofString "ch" := by decide +kernel
  have d4 : Str.ofString "open_pos" ≠ Str.ofString "pos" := by decide +kernel
  have d5 : Str.ofString "open_pos" ≠ Str.ofString "start" := by decide +kernel
  refine for_gen B F X N T hh hroom hb hk hglob n1 n2 n3 n4 hg hfo hfd hm hnb hasc (JS x m D) ⟨t0, .none, #[], n0, m1, m2, .none, fun _ _ _ _ _ => rfl, rfl, .nil⟩ ?_ ?_
  · rintro i c m₁ news₁ ti u own h g tk hc ⟨ts, ov, vs, nn, e1, e2, hop, e3, rfl, hv⟩ _ hoff hbg F₁ N₁
    have hf : foldS x (i + 1) = stepS x i c (foldS x i) := by
      show stepS x i (x.cps[i]?.getD 0) (foldS x i) = _
      rw [hc]; rfl
    have em : (fun y => if y = Str.ofString "ch" then some (Value.str ⟨#[c]⟩ u) else if y = Str.ofString "pos" then some (Value.int (i : Int) ti) else m₁ y) =
        fun y => if y = Str.ofString "ch" then some (Value.str ⟨#[c]⟩ u) else if y = Str.ofString "pos" then some (Value.int (i : Int) ti) else if y = Str.ofString "start" then some (.int (foldS x i).1 ts) else if y = Str.ofString "open_pos" then some ov else m y := by
      funext y
      by_cases h1 : y = Str.ofString "ch"
      · rw [if_pos h1, if_pos h1]
      rw [if_neg h1, if_neg h1]
      by_cases h2 : y = Str.ofString "pos"
      · rw [if_pos h2, if_pos h2]
      rw [if_neg h2, if_neg h2]
      by_cases h3 : y = Str.ofString "start"
      · rw [if_pos h3, h3, e1]
      rw [if_neg h3]
      by_cases h4 : y = Str.ofString "open_pos"
      · rw [if_pos h4, h4, e2]
      rw [if_neg h4]
      exact e3 y h3 h4 h2 h1
    rw [em] at F₁
    have key : wpAny (model PG w) A (execs body env) (STurn x h₀ env.locals m D own (foldS x (i + 1)) { s with heap := h, gens := g, toks := tk } Q) (fun _ _ => False) { s with heap := h, gens := g, toks := tk } := by
      rw [hf]
      have hsz : vs.size ≤ 1000 := by
        have e1 := strsAre_len hv
        have e2 := foldS_len x i
        have e3 : i < x.cps.size := (Array.getElem?_eq_some_iff.mp hc).1
        have e4 : vs.toList.length = vs.size := by simp
        omega
      have e : foldS x i = ((foldS x i).1, (foldS x i).2.1, (foldS x i).2.2) := rfl
      rw [e]
      generalize (foldS x i).1 = st at *
      generalize (foldS x i).2.2 = res at *
      generalize (foldS x i).2.1 = op at *
      cases hop with
      | none => exact turnN i c st res vs nn ts ti u own h g tk hc hsz hv hoff hbg F₁ N₁
      | int o to => exact turnS i c st o res vs nn ts to ti u own h g tk hc hsz hv hoff hbg F₁ N₁
    refine wpAny_mono key (fun f s₂ hf => ?_) fun _ _ e => e
    cases f <;> exact hf
  · rintro m₁ news₁ h g tk ⟨ts, ov, vs, nn, e1, e2, hop, e3, rfl, hv⟩ _ hbg F₁ N₁
    have hsz : vs.size ≤ 1000 := by
      have e1 := strsAre_len hv
      have e2 := foldS_len x x.cps.size
      have e4 : vs.toList.length = vs.size := by simp
      omega
    refine done ts ov vs nn (m₁ (Str.ofString "pos")) (m₁ (Str.ofString "ch")) h g tk hsz hop hv hbg ?_ N₁
    have em : m₁ = fun y => if y = Str.ofString "start" then some (.int (foldS x x.cps.size).1 ts) else if y = Str.ofString "open_pos" then some ov else if y = Str.ofString "pos" then m₁ (Str.ofString "pos") else if y = Str.ofString "ch" then m₁ (Str.ofString "ch") else m y := by
      funext y
      by_cases h3 : y = Str.ofString "start"
      · rw [if_pos h3, h3, e1]
      rw [if_neg h3]
      by_cases h4 : y = Str.ofString "open_pos"
      · rw [if_pos h4, h4, e2]
      rw [if_neg h4]
      by_cases h2 : y = Str.ofString "pos"
      · rw [if_pos h2, h2]
      rw [if_neg h2]
      by_cases h1 : y = Str.ofString "ch"
      · rw [if_pos h1, h1]
      rw [if_neg h1]
      exact e3 y h3 h4 h2 h1
    rw [em] at F₁
    exact F₁
end Mine
end
section
open PySem PySem.W PyProof.Rows PySem.Calls
namespace Mine
theorem anew_S2 {w : World} {A : Around} {E : Value → Shared → Prop} {Q : Bool → Shared → Prop} {s : Shared} (h : Q true s) : wpAny (model PG w) A (truthy (.bool true)) Q E s := by
  w_top off
  k_with_none
  first | (walk1; exact h) | exact wpAny_truthy_bool h
end Mine
end
section
open PySem PySem.W PyProof.Rows PySem.Calls
set_option Elab.async false
set_option maxRecDepth 100000
set_option maxHeartbeats 40000000
namespace Mine
theorem notin_E {prog : Program} {w : World} {A : Around} {E : Value → Shared → Prop} {s : Shared} {x y : Str} {t u : Tok} {b : Bool} {Q : Value → Shared → Prop} (e : (Builtin.Str.occurrences x y 0 x.length 1).isEmpty = b) (h : Q (.bool b) s) : wpAny (model prog w) A (compareOp .NotIn (.str y u) (.str x t)) Q E s :=
  P.notIn_str (by rw [e]; simpa using h)


local macro_rules | `(tactic| walk_at "STurn") => `(tactic| (refine' STurn.next (by with_unfolding_all assumption) (by with_unfolding_all assumption) (List.Mem.head _) (fun _ hp => List.Mem.tail _ hp) (by with_unfolding_all rfl) (by with_unfolding_all rfl) ?k1 ?k2 ?k3 ?k4; (case k1 => first | exact OpIs.none | exact OpIs.int _ _); (case k3 => first | exact strsAre_push (by assumption) _ _ | assumption); (case k2 => (intro y hy1 hy2 hy3 hy4; simp only [hy1, hy2, hy3, hy4, if_false])); (case k4 => (unfold stepS; (try dsimp only); (repeat' split) <;> first | rfl | contradiction | (exfalso; simp_all; done)))))

def stripL (x : Str) : List Str := if (foldS x x.cps.size).1 < (x.length : Int) then (foldS x x.cps.size).2.2 ++ [Txt.slice x (some (foldS x x.cps.size).1) none] else (foldS x x.cps.size).2.2
def stripF (x : Str) : Str := Txt.join (Str.ofString "") (stripL x)
theorem join_E {w : World} {A : Around} {E : Value → Shared → Prop} {s : Shared} {h₀ : Heap} {L : Addr} {news : List (Addr × Obj)} {x : Str} {t : Tok} {Q : Value → Shared → Prop} {D : Addr} {items : Array Value} {nn : Nat} {ys : List Str} (N : News h₀ L s.heap news) (hm : (D, W.listOf items nn) ∈ news) (hi : StrsAre items.toList ys) (e : stripL x = ys) (hS : ((stripL x).map (·.length)).sum ≤ 100000)
    (h : ∀ t' k, Q (.str (stripF x) t') { s with toks := k }) : wpAny (model PG w) A (call (.builtin "str.join") [.str (Str.ofString "") t, .ref D]) Q E s := by
  have hl : s.heap.IsList D items := ⟨_, (N _ hm).1, rfl, _, rfl⟩
  have e0 : (Str.ofString "").length = 0 := by decide +kernel
  refine join_list hl hi (by rw [e0, ← e]; omega) fun t' k => ?_
  have := h t' k
  unfold stripF at this
  rw [e] at this
  exact this

theorem strip : ∀ (w : World) (x : Str) (t1 : Tok) (_ : PySem.Challenge.rw_tr0033_01 = PySem.Challenge.rw_tr0033_01 ∧ hd.heap_39 = hd.heap_39) (hx : x.cps.size ≤ 1000) (hlen : x.length ≤ 1000) (hnb : ∀ c ∈ x.cps.toList, c ≠ 92) (hasc : x.cps.all (· < 128) = true) (hin : (Builtin.Str.occurrences x (Str.ofString "\"") 0 x.length 1).isEmpty = false) (hS : ((stripL x).map (·.length)).sum ≤ 100000),
    Fn w 49 [.str x t1] 4 30 (fun _ => True) (fun v h => ∃ a, v = .str (stripF x) a) := by
  k_with_none
  k_with "exec For Tuple Call cons nil" => (k_here; k_dflt (apply strip_for; (case _ => k_asm); (case _ => k_asm); (case _ => k_asm); (case _ => k_asm); (case _ => k_asm); (case _ => assumption); (case _ => ktr_room); (case _ => assumption); (case _ => exact rfl); (case _ => exact rfl); (case _ => exact rfl); (case _ => exact rfl); (case _ => exact rfl); (case _ => exact rfl); (case _ => k_is); (case _ => k_is); (case _ => exact rfl); (case _ => with_unfolding_all rfl); (case _ => assumption); (case _ => assumption); (case _ => assumption); (case _ => with_unfolding_all rfl); (case _ => with_unfolding_all rfl)); (all_goals (intros; try dsimp only)))
  k_with "compareOp NotIn str str" => (k_here; k_dflt (apply notin_E (b := false); (case _ => assumption)))
  k_with "call builtin:str.join" => (k_here; k_dflt (apply join_E; (case _ => k_asm); (case _ => exact List.Mem.head _); (case _ => first | exact strsAre_push (by assumption) _ _ | assumption); (case _ => (unfold stripL; split <;> first | rfl | contradiction)); (case _ => assumption)); intro _ _)
  k_fill
  intro w x t1 _ hx hlen hnb hasc hin hS
  refine' Fn.enter ?k6 ?k7 ?k9 ?kB ?c2 ?c3 ?c4 ?c5 ?_
  case k6 => k_dflt k_is
  case k7 => k_dflt k_is
  case k9 => exact fun _ => BindsTo.of_eq rfl
  case kB => exact locs rfl
  case c2 => exact rfl
  case c3 => exact rfl
  case c4 => exact rfl
  case c5 => decide
  intro A base outer s mean mg mb L h₁ tk B F X N T hh hdp hun hg hp
  try dsimp only
  w_strict (
    k_steps
    all_goals (try dsimp only)
    all_goals first
      | (refine FnEnd.intro (by with_unfolding_all assumption) (fun _ => by assumption) rfl rfl ?_
         exact ⟨_, rfl⟩)
      | walk_at "STurn")
end Mine
end
section
open PySem PySem.W PyProof.Rows PySem.Calls
namespace Mine
theorem anew_C1 {w : World} {A : Around} {E : Value → Shared → Prop} {Q : Bool → Shared → Prop} {s : Shared} (h : Q true s) : wpAny (model PG w) A (truthy (.bool true)) Q E s := by
  w_top off
  k_with_none
  first | (walk1; exact h) | exact wpAny_truthy_bool h
end Mine
end
section
open PySem PySem.W PyProof.Rows PySem.Calls
set_option Elab.async false
set_option maxRecDepth 100000
set_option maxHeartbeats 40000000
namespace Mine

def stepO (c : Nat) (n : Int) : Int := if ((⟨#[c]⟩ : Str) == Str.ofString "(") = true then n + 1 else if ((⟨#[c]⟩ : Str) == Str.ofString ")") = true then n - 1 else n
def opensF (y : Str) : Nat → Int
  | 0 => 0
  | i + 1 => stepO (y.cps[i]?.getD 0) (opensF y i)

def CTurn (h₀ : Heap) (L : Addr) (m : Str → Option Value) (news own : List (Addr × Obj)) (n' : Int) (s₁ : Shared) (Q : Flow → Shared → Prop) (f : Flow) (s₂ : Shared) : Prop :=
  match f with
  | .ret v => Q (.ret v) s₂
  | .brk => Q .next s₂
  | _ => InvEndN h₀ L (fun m₁ news₁ => ∃ to, m₁ (Str.ofString "opens") = some (.int n' to) ∧ (∀ y, y ≠ Str.ofString "opens" → y ≠ Str.ofString "pos" → y ≠ Str.ofString "ch" → m₁ y = m y) ∧ news₁ = news) own (news.map (·.1)) s₁ s₂

theorem CTurn.next {h₀ : Heap} {L : Addr} {m m₁ : Str → Option Value} {news own : List (Addr × Obj)} {n n' : Int} {s₁ : Shared} {Q : Flow → Shared → Prop} {h' : Heap} {tk : Nat} {to : Tok}
    (F : Fr h₀ L h' m₁) (N : News h₀ L h' (news ++ own)) (e1 : m₁ (Str.ofString "opens") = some (.int n to)) (hn : n' = n)
    (e3 : ∀ y, y ≠ Str.ofString "opens" → y ≠ Str.ofString "pos" → y ≠ Str.ofString "ch" → m₁ y = m y) :
    CTurn h₀ L m news own n' s₁ Q .next { s₁ with heap := h', toks := tk } := by
  subst hn
  exact InvEndN.intro F N ⟨to, e1, e3, rfl⟩ rfl (fun p hp => List.mem_append_left _ hp) fun p hp => List.mem_append_right _ hp

theorem check_for {w : World} {A A₀ : Around} {E : Value → Shared → Prop} {s : Shared} {env : Env} {h₀ base : Heap} {outer : List Env} {m : Str → Option Value} {news : List (Addr × Obj)} {mean : ExcName → Option Value} {mg mb : Str → Option Value} {Q : Flow → Shared → Prop} {x : Str} {t : Tok} {t0 : Tok}
    {p1 p2 p3 p4 p5 p6 p7 : Pos} {k3 : Nat} {body : List Stmt}
    (B : Below A₀ base outer h₀) (F : Fr h₀ env.locals s.heap m) (X : (hd.heap_39 w.params).In h₀) (N : News h₀ env.locals s.heap news) (T : Top hd.view_39 (looseW hd.view_39 []) mean mg mb h₀)
    (hh : A.handled = none) (hroom : A.depth < recursionLimit) (hb : AllBare s.gens) (hk : env.scope.kind = .function) (hglob : env.globals = mainGlobals)
    (n1 : env.kindOf (Str.ofString "_iter_escaped_chars") = some .globalImplicit) (n2 : env.kindOf (Str.ofString "addr") = some .local) (n3 : env.kindOf (Str.ofString "pos") = some .local) (n4 : env.kindOf (Str.ofString "ch") = some .local)
    (hg : nsIn (hd.heap_39 w.params) mainGlobals (Str.ofString "_iter_escaped_chars") = some (some (.ref 42))) {fo : Obj} {fd : FuncData} (hfo : (hd.heap_39 w.params).lookup 42 = some fo) (hfd : fo.data = .func fd)
    (hm : m (Str.ofString "addr") = some (.str x t)) (hnb : ∀ c ∈ x.cps.toList, c ≠ 92) (hasc : x.cps.all (· < 128) = true) (hpre : ∀ i, 0 ≤ opensF x i)
    (m1 : m (Str.ofString "opens") = some (.int 0 t0))
    (turn : ∀ (i c : Nat) (n : Int) to ti u own h g tk, x.cps[i]? = some c → 0 ≤ n → 0 ≤ stepO c n → OwnOff own (news.map (·.1)) → AllBare g →
      Fr h₀ env.locals h (fun y => if y = Str.ofString "ch" then some (.str ⟨#[c]⟩ u) else if y = Str.ofString "pos" then some (.int (i : Int) ti) else if y = Str.ofString "opens" then some (.int n to) else m y) →
      News h₀ env.locals h (news ++ own) →
      wpAny (model PG w) A (execs body env) (CTurn h₀ env.locals m news own (stepO c n) { s with heap := h, gens := g, toks := tk } Q) (fun _ _ => False) { s with heap := h, gens := g, toks := tk })
    (done : ∀ to (vp vc : Option Value) h g tk, AllBare g →
      Fr h₀ env.locals h (fun y => if y = Str.ofString "opens" then some (.int (opensF x x.cps.size) to) else if y = Str.ofString "pos" then vp else if y = Str.ofString "ch" then vc else m y) →
      News h₀ env.locals h news → Q .next { s with heap := h, gens := g, toks := tk }) :
    wpAny (model PG w) A (exec (.For (.Tuple [.Name (Str.ofString "pos") p1, .Name (Str.ofString "ch") p2] k3 p3) (.Call (.Name (Str.ofString "_iter_escaped_chars") p4) [.Name (Str.ofString "addr") p5] [] p6) body [] p7) env) Q E s := by
  have d1 : Str.ofString "opens" ≠ Str.ofString "ch" := by decide +kernel
  have d2 : Str.ofString "opens" ≠ Str.ofString "pos" := by decide +kernel
  refine for_gen B F X N T hh hroom hb hk hglob n1 n2 n3 n4 hg hfo hfd hm hnb hasc (fun i m₁ news₁ => ∃ to, m₁ (Str.ofString "opens") = some (.int (opensF x i) to) ∧ (∀ y, y ≠ Str.ofString "opens" → y ≠ Str.ofString "pos" → y ≠ Str.ofString "ch" → m₁ y = m y) ∧ news₁ = news) ⟨t0, m1, fun _ _ _ _ => rfl, rfl⟩ ?_ ?_
  · rintro i c m₁ news₁ ti u own h g tk hc ⟨to, e1, e3, rfl⟩ _ hoff hbg F₁ N₁
    have hf : opensF x (i + 1) = stepO c (opensF x i) := by
      show stepO (x.cps[i]?.getD 0) (opensF x i) = _
      rw [hc]; rfl
    have em : (fun y => if y = Str.ofString "ch" then some (Value.str ⟨#[c]⟩ u) else if y = Str.ofString "pos" then some (Value.int (i : Int) ti) else m₁ y) =
        fun y => if y = Str.ofString "ch" then some (Value.str ⟨#[c]⟩ u) else if y = Str.ofString "pos" then some (Value.int (i : Int) ti) else if y = Str.ofString "opens" then some (.int (opensF x i) to) else m y := by
      funext y
      by_cases h1 : y = Str.ofString "ch"
      · rw [if_pos h1, if_pos h1]
      rw [if_neg h1, if_neg h1]
      by_cases h2 : y = Str.ofString "pos"
      · rw [if_pos h2, if_pos h2]
      rw [if_neg h2, if_neg h2]
      by_cases h3 : y = Str.ofString "opens"
      · rw [if_pos h3, h3, e1]
      rw [if_neg h3]
      exact e3 y h3 h2 h1
    rw [em] at F₁
    have h1 := hpre (i + 1)
    rw [hf] at h1
    rw [hf]
    refine wpAny_mono (turn i c (opensF x i) to ti u own h g tk hc (hpre i) h1 hoff hbg F₁ N₁) (fun f s₂ hf => ?_) fun _ _ e => e
    cases f <;> exact hf
  · rintro m₁ news₁ h g tk ⟨to, e1, e3, rfl⟩ _ hbg F₁ N₁
    refine done to (m₁ (Str.ofString "pos")) (m₁ (Str.ofString "ch")) h g tk hbg ?_ N₁
    have em : m₁ = fun y => if y = Str.ofString "opens" then some (.int (opensF x x.cps.size) to) else if y = Str.ofString "pos" then m₁ (Str.ofString "pos") else if y = Str.ofString "ch" then m₁ (Str.ofString "ch") else m y := by
      funext y
      by_cases h3 : y = Str.ofString "opens"
      · rw [if_pos h3, h3, e1]
      rw [if_neg h3]
      by_cases h2 : y = Str.ofString "pos"
      · rw [if_pos h2, h2]
      rw [if_neg h2]
      by_cases h1 : y = Str.ofString "ch"
      · rw [if_pos h1, h1]
      rw [if_neg h1]
      exact e3 y h3 h2 h1
    rw [em] at F₁
    exact F₁
end Mine
end
section
open PySem PySem.W PyProof.Rows PySem.Calls
namespace Mine
theorem anew_C2 {w : World} {A : Around} {E : Value → Shared → Prop} {Q : Bool → Shared → Prop} {s : Shared} (h : Q true s) : wpAny (model PG w) A (truthy (.bool true)) Q E s := by
  w_top off
  k_with_none
  first | (walk1; exact h) | exact wpAny_truthy_bool h
end Mine
end
section
open PySem PySem.W PyProof.Rows PySem.Calls
set_option Elab.async false
set_option maxRecDepth 100000
set_option maxHeartbeats 40000000
namespace Mine
theorem strip_use {w : World} {A₀ A : Around} {base h₀ : Heap} {outer : List Env} {env : Env} {L : Addr} {m : Str → Option Value} {s : Shared} {news : List (Addr × Obj)} {mean : ExcName → Option Value} {mg mb : Str → Option Value} {Q E : Value → Shared → Prop} {x y : Str} {t : Tok}
    (B : Below A₀ base outer h₀) (F : Fr h₀ L s.heap m) (X : (hd.heap_39 w.params).In h₀) (N : News h₀ L s.heap news) (T : Top hd.view_39 (looseW hd.view_39 []) mean mg mb h₀)
    (hA : A.frames = some (env :: outer)) (hf : env.frame = some L) (hke : env.scope.kind = .function) (hh : A.handled = none) (hd' : A.depth + 4 < recursionLimit) (hu : A.units + 30 < cLine) (hg : AllBare s.gens)
    (C : Fn w 49 [.str x t] 4 30 (fun _ => True) (fun v _ => ∃ a, v = .str y a))
    (h : ∀ t' h' g' tk, Fr h₀ L h' m → News h₀ L h' news → AllBare g' → Q (.str y t') { s with heap := h', gens := g', toks := tk }) :
    wpAny (model PG w) A (call (.ref 49) [.str x t]) Q E s :=
  C.use B F X N T hA hf hke hh hd' hu hg trivial fun v h' g' tk F' N' _ hb hp => by
    obtain ⟨a, rfl⟩ := hp
    exact h a h' g' tk F' N' hb

theorem check : ∀ (w : World) (x y : Str) (t1 : Tok) (_ : PySem.Challenge.rw_tr0033_01 = PySem.Challenge.rw_tr0033_01 ∧ hd.heap_39 = hd.heap_39) (C : ∀ t, Fn w 49 [.str x t] 4 30 (fun _ => True) (fun v _ => ∃ a, v = .str y a))
    (hnb : ∀ c ∈ y.cps.toList, c ≠ 92) (hasc : y.cps.all (· < 128) = true) (hpre : ∀ i, 0 ≤ opensF y i),
    Fn w 56 [.str x t1] 8 60 (fun _ => True) (fun v _ => v = .bool (opensF y y.cps.size == 0)) := by
  k_with_none
  k_with "exec For Tuple Call cons nil" => (k_here; k_dflt (apply check_for; (case _ => k_asm); (case _ => k_asm); (case _ => k_asm); (case _ => k_asm); (case _ => k_asm); (case _ => assumption); (case _ => ktr_room); (case _ => assumption); (case _ => exact rfl); (case _ => exact rfl); (case _ => exact rfl); (case _ => exact rfl); (case _ => exact rfl); (case _ => exact rfl); (case _ => k_is); (case _ => k_is); (case _ => exact rfl); (case _ => with_unfolding_all rfl); (case _ => assumption); (case _ => assumption); (case _ => assumption); (case _ => with_unfolding_all rfl)); (all_goals (intros; try dsimp only)))
  k_with "call ref" => (k_here; k_dflt (apply strip_use; (case _ => k_asm); (case _ => k_asm); (case _ => k_asm); (case _ => k_asm); (case _ => k_asm); (case _ => exact Around.frames_deeper (Below.stack (by assumption))); (case _ => exact rfl); (case _ => first | exact rfl | assumption); (case _ => assumption); (case _ => ktr_room); (case _ => ktr_units); (case _ => assumption); (case _ => assumption)); (intros; try dsimp only))
  k_fill
  intro w x y t1 _ C hnb hasc hpre
  refine' Fn.enter ?k6 ?k7 ?k9 ?kB ?c2 ?c3 ?c4 ?c5 ?_
  case k6 => k_dflt k_is
  case k7 => k_dflt k_is
  case k9 => exact fun _ => BindsTo.of_eq rfl
  case kB => exact locs rfl
  case c2 => exact rfl
  case c3 => exact rfl
  case c4 => exact rfl
  case c5 => decide
  intro A base outer s mean mg mb L h₁ tk B F X N T hh hdp hun hg hp
  have C1 := C t1
  clear C
  try dsimp only
  w_strict (
    k_steps
    all_goals (try dsimp only)
    all_goals first
      | (refine FnEnd.intro (by with_unfolding_all assumption) (fun _ => by assumption) rfl rfl ?_
         exact rfl)
      | (refine' CTurn.next (by with_unfolding_all assumption) (by with_unfolding_all assumption) (by with_unfolding_all rfl) ?k1 ?k2
         (case k1 => (unfold stepO; (repeat' split) <;> first | rfl | contradiction | (exfalso; simp_all; done)))
         (case k2 => (intro y hy1 hy2 hy3; simp only [hy1, hy2, hy3, if_false])))
      | (exfalso
         rename (0 ≤ stepO _ _) => hq
         unfold stepO at hq
         (repeat' split at hq) <;> first | contradiction | omega | (simp_all; done) | (simp_all; omega)))
end Mine
end
section
open PySem PySem.W PyProof.Rows PySem.Calls
set_option Elab.async false
set_option maxRecDepth 100000
set_option maxHeartbeats 40000000
namespace Mine

/-- '(' p marks ')"' -/
def addrS (p : Nat) : Str := ⟨(40 :: (List.replicate p 34 ++ [41, 34])).toArray⟩
theorem addr_list (p : Nat) : (addrS p).cps.toList = 40 :: (List.replicate p 34 ++ [41, 34]) := by simp [addrS]
theorem addr_len (p : Nat) : (addrS p).length = p + 3 := by simp [addrS, Str.length]
theorem addr_size (p : Nat) : (addrS p).cps.size = p + 3 := by simp [addrS]
theorem addr_0 (p : Nat) : (addrS p).cps[0]? = some 40 := by rw [← Array.getElem?_toList, addr_list]; rfl
theorem addr_q {p j : Nat} (h : j < p) : (addrS p).cps[1 + j]? = some 34 := by
  rw [← Array.getElem?_toList, addr_list, Nat.add_comm, List.getElem?_cons_succ, List.getElem?_append_left (by simpa using h)]
  simp [h]
theorem addr_c (p : Nat) : (addrS p).cps[p + 1]? = some 41 := by
  rw [← Array.getElem?_toList, addr_list, List.getElem?_cons_succ, List.getElem?_append_right (by simp)]
  simp
theorem addr_e (p : Nat) : (addrS p).cps[p + 2]? = some 34 := by
  rw [← Array.getElem?_toList, addr_list, List.getElem?_cons_succ, List.getElem?_append_right (by simp)]
  simp

theorem is_q : ((⟨#[34]⟩ : Str) == Str.ofString "\"") = true := by decide +kernel
theorem not_q40 : ((⟨#[40]⟩ : Str) == Str.ofString "\"") = false := by decide +kernel
theorem not_q41 : ((⟨#[41]⟩ : Str) == Str.ofString "\"") = false := by decide +kernel
theorem stepS_q (x : Str) (i : Nat) (st : Int) (res : List Str) : stepS x i 34 (st, none, res) = (st, some (i : Int), res) := by
  unfold stepS; rw [if_pos is_q]
theorem stepS_c (x : Str) (i : Nat) (st o : Int) (res : List Str) : stepS x i 34 (st, some o, res) = ((i : Int) + 1, none, if st = o then res else res ++ [Txt.slice x (some st) (some o)]) := by
  unfold stepS; rw [if_pos is_q]

def stN (j : Nat) : Int := if j < 2 then 0 else if j % 2 = 0 then (j : Int) + 1 else (j : Int)
def opN (j : Nat) : Option Int := if j % 2 = 1 then some (j : Int) else none
def reN (j : Nat) : List Str := if j < 2 then [] else [⟨#[40]⟩]

theorem addr_head (p : Nat) : Txt.slice (addrS p) (some 0) (some 1) = ⟨#[40]⟩ := by
  rw [slice_at (addr_list p) ⟨by omega, by omega, by simp; omega⟩]; rfl

theorem fold_q (p : Nat) : ∀ j, j ≤ p → foldS (addrS p) (1 + j) = (stN j, opN j, reN j)
  | 0, _ => by
    show stepS (addrS p) 0 ((addrS p).cps[0]?.getD 0) (0, none, []) = _
    rw [addr_0]
    show stepS (addrS p) 0 40 (0, none, []) = _
    unfold stepS
    rw [if_neg (by rw [not_q40]; exact Bool.false_ne_true)]
    rfl
  | j + 1, h => by
    have ih := fold_q p j (by omega)
    show stepS (addrS p) (1 + j) ((addrS p).cps[1 + j]?.getD 0) (foldS (addrS p) (1 + j)) = _
    rw [addr_q (by omega), ih]
    show stepS (addrS p) (1 + j) 34 (stN j, opN j, reN j) = _
    by_cases ho : j % 2 = 1
    · have e1 : opN j = some (j : Int) := by unfold opN; rw [if_pos ho]
      rw [e1, stepS_c]
      have e2 : opN (j + 1) = none := by unfold opN; rw [if_neg (by omega)]
      have e3 : stN (j + 1) = (((1 + j : Nat) : Int) + 1) := by unfold stN; rw [if_neg (by omega), if_pos (by omega)]; omega
      have e4 : reN (j + 1) = [⟨#[40]⟩] := by unfold reN; rw [if_neg (by omega)]
      rw [e2, e3, e4]
      by_cases h1 : j = 1
      · subst h1
        have : stN 1 = 0 := rfl
        have r1 : reN 1 = [] := rfl
        rw [this, r1, if_neg (by omega)]
        rw [show (((1 : Nat) : Int)) = 1 from rfl, addr_head]
        rfl
      · have : stN j = (j : Int) := by unfold stN; rw [if_neg (by omega), if_neg (by omega)]
        rw [this, if_pos rfl]
        have r : reN j = [⟨#[40]⟩] := by unfold reN; rw [if_neg (by omega)]
        rw [r]
    · have e1 : opN j = none := by unfold opN; rw [if_neg ho]
      rw [e1, stepS_q]
      have e2 : opN (j + 1) = some ((1 + j : Nat) : Int) := by unfold opN; rw [if_pos (by omega)]; congr 1; omega
      rw [e2]
      by_cases h0 : j = 0
      · subst h0; rfl
      · have e3 : stN (j + 1) = stN j := by
          unfold stN; rw [if_neg (by omega), if_neg (by omega), if_neg (by omega), if_pos (by omega)]; omega
        have e4 : reN (j + 1) = reN j := by unfold reN; rw [if_neg (by omega), if_neg (by omega)]
        rw [e3, e4]

theorem fold_c (p : Nat) : foldS (addrS p) (p + 2) = (stN p, opN p, reN p) := by
  have ih := fold_q p p (Nat.le_refl _)
  show stepS (addrS p) (p + 1) ((addrS p).cps[p + 1]?.getD 0) (foldS (addrS p) (p + 1)) = _
  rw [addr_c, Nat.add_comm p 1, ih]
  show stepS (addrS p) (1 + p) 41 _ = _
  unfold stepS
  rw [if_neg (by rw [not_q41]; exact Bool.false_ne_true)]

def yE : Str := ⟨#[40, 41, 34]⟩
def yO : Str := ⟨#[40]⟩

theorem addr_tail {p : Nat} : Txt.slice (addrS p) (some ((p : Int) + 1)) none = ⟨#[41, 34]⟩ := by
  rw [slice_from (addr_list p) ⟨by omega, by simp; omega⟩]
  have e1 : ((p : Int) + 1).toNat = p + 1 := by omega
  have e2 : (((40 :: (List.replicate p 34 ++ [41, 34]) : List Nat).length : Int) - ((p : Int) + 1)).toNat = 2 := by simp; omega
  rw [e1, e2]
  have : List.drop (p + 1) (40 :: (List.replicate p 34 ++ [41, 34])) = [41, 34] := by
    rw [List.drop_succ_cons, List.drop_append_of_le_length (by simp), List.drop_of_length_le (by simp)]
    rfl
  rw [this]; rfl

theorem strip_even {p : Nat} (h : p % 2 = 0) : stripL (addrS p) = if p = 0 then [yE] else [⟨#[40]⟩, ⟨#[41, 34]⟩] := by
  have e : foldS (addrS p) (p + 3) = (stN p, some ((p + 2 : Nat) : Int), reN p) := by
    show stepS (addrS p) (p + 2) ((addrS p).cps[p + 2]?.getD 0) (foldS (addrS p) (p + 2)) = _
    rw [addr_e, fold_c]
    show stepS (addrS p) (p + 2) 34 _ = _
    have e1 : opN p = none := by unfold opN; rw [if_neg (by omega)]
    rw [e1, stepS_q]
  unfold stripL
  rw [addr_size, addr_len, e]
  dsimp only
  by_cases h0 : p = 0
  · subst h0
    rw [if_pos (by show (0 : Int) < _; omega), if_pos rfl]
    show [] ++ [Txt.slice (addrS 0) (some 0) none] = _
    rfl
  · have e2 : stN p = (p : Int) + 1 := by unfold stN; rw [if_neg (by omega), if_pos h]
    have e3 : reN p = [⟨#[40]⟩] := by unfold reN; rw [if_neg (by omega)]
    rw [e2, e3, if_pos (by omega), if_neg h0, addr_tail]
    rfl
theorem strip_odd {p : Nat} (h : p % 2 = 1) : stripL (addrS p) = [⟨#[40]⟩] := by
  have e : foldS (addrS p) (p + 3) = (((p + 2 : Nat) : Int) + 1, none, [⟨#[40]⟩]) := by
    show stepS (addrS p) (p + 2) ((addrS p).cps[p + 2]?.getD 0) (foldS (addrS p) (p + 2)) = _
    rw [addr_e, fold_c]
    show stepS (addrS p) (p + 2) 34 _ = _
    have e1 : opN p = some (p : Int) := by unfold opN; rw [if_pos h]
    rw [e1, stepS_c]
    by_cases h1 : p = 1
    · subst h1
      have : stN 1 = 0 := rfl
      have r1 : reN 1 = [] := rfl
      rw [this, r1, if_neg (by omega), show (((1 : Nat) : Int)) = 1 from rfl, addr_head]
      rfl
    · have : stN p = (p : Int) := by unfold stN; rw [if_neg (by omega), if_neg (by omega)]
      have r : reN p = [⟨#[40]⟩] := by unfold reN; rw [if_neg (by omega)]
      rw [this, if_pos rfl, r]
  unfold stripL
  rw [addr_size, addr_len, e]
  dsimp only
  rw [if_neg (by omega)]

theorem stripF_even {p : Nat} (h : p % 2 = 0) : stripF (addrS p) = yE := by
  unfold stripF
  rw [strip_even h]
  by_cases h0 : p = 0
  · rw [if_pos h0]; decide +kernel
  · rw [if_neg h0]; decide +kernel
theorem stripF_odd {p : Nat} (h : p % 2 = 1) : stripF (addrS p) = yO := by
  unfold stripF
  rw [strip_odd h]; decide +kernel
theorem stripL_sum (p : Nat) : ((stripL (addrS p)).map (·.length)).sum ≤ 100000 := by
  rcases Nat.mod_two_eq_zero_or_one p with h | h
  · rw [strip_even h]
    split <;> decide +kernel
  · rw [strip_odd h]; decide +kernel

theorem opens_E : ∀ i, 0 ≤ opensF yE i
  | 0 => by decide +kernel
  | 1 => by decide +kernel
  | 2 => by decide +kernel
  | i + 3 => by
    have : opensF yE (i + 3) = 0 := by
      induction i with
      | zero => decide +kernel
      | succ i ih =>
        show stepO (yE.cps[i + 3]?.getD 0) (opensF yE (i + 3)) = 0
        rw [ih]
        have : yE.cps[i + 3]? = none := by simp [yE]
        rw [this]; decide +kernel
    omega
theorem opens_O : ∀ i, 0 ≤ opensF yO i
  | 0 => by decide +kernel
  | i + 1 => by
    have : opensF yO (i + 1) = 1 := by
      induction i with
      | zero => decide +kernel
      | succ i ih =>
        show stepO (yO.cps[i + 1]?.getD 0) (opensF yO (i + 1)) = 1
        rw [ih]
        have : yO.cps[i + 1]? = none := by simp [yO]
        rw [this]; decide +kernel
    omega

theorem addr_ok (p : Nat) : (∀ c ∈ (addrS p).cps.toList, c ≠ 92) ∧ (addrS p).cps.all (· < 128) = true := by
  have key : ∀ c ∈ (addrS p).cps.toList, c = 40 ∨ c = 34 ∨ c = 41 := by
    intro c hc
    rw [addr_list] at hc
    simp only [List.mem_cons, List.mem_append, List.mem_replicate, List.not_mem_nil, or_false] at hc
    omega
  refine ⟨fun c hc => by have := key c hc; omega, ?_⟩
  rw [← Array.all_toList, List.all_eq_true]
  intro c hc
  have := key c hc
  simp only [decide_eq_true_eq]; omega

/-- _check_parenthesis on '(' p marks ')"' -/
theorem check_addr (w : World) (p : Nat) (hp : p ≤ 50) (t : Tok) : Fn w 56 [.str (addrS p) t] 8 60 (fun _ => True) (fun v _ => v = .bool (p % 2 == 0)) := by
  have hstrip : ∀ t, Fn w 49 [.str (addrS p) t] 4 30 (fun _ => True) (fun v _ => ∃ a, v = .str (stripF (addrS p)) a) := fun t =>
    strip w (addrS p) t ⟨rfl, rfl⟩ (by rw [addr_size]; omega) (by rw [addr_len]; omega) (addr_ok p).1 (addr_ok p).2 (by
      have := StrLaws.found_one (addrS p) 34
      rw [← q_eq] at this
      have h2 : decide (34 ∈ (addrS p).cps.toList) = true := by rw [addr_list]; simp
      rw [h2] at this
      simpa using this) (stripL_sum p)
  rcases Nat.mod_two_eq_zero_or_one p with h | h
  · rw [stripF_even h] at hstrip
    have := check w (addrS p) yE t ⟨rfl, rfl⟩ hstrip (by decide +kernel) (by decide +kernel) opens_E
    have e : (opensF yE yE.cps.size == 0) = (p % 2 == 0) := by rw [h]; decide +kernel
    rw [e] at this; exact this
  · rw [stripF_odd h] at hstrip
    have := check w (addrS p) yO t ⟨rfl, rfl⟩ hstrip (by decide +kernel) (by decide +kernel) opens_O
    have e : (opensF yO yO.cps.size == 0) = (p % 2 == 0) := by rw [h]; decide +kernel
    rw [e] at this; exact this
end Mine
end
section
open PySem PySem.W PyProof.Rows PySem.Calls
namespace Mine
theorem anew_H1 {w : World} {A : Around} {E : Value → Shared → Prop} {Q : Bool → Shared → Prop} {s : Shared} (h : Q true s) : wpAny (model PG w) A (truthy (.bool true)) Q E s := by
  w_top off
  k_with_none
  first | (walk1; exact h) | exact wpAny_truthy_bool h
end Mine
end
section
open PySem PySem.W PyProof.Rows PySem.Calls
set_option Elab.async false
set_option maxRecDepth 100000
set_option maxHeartbeats 40000000
namespace Mine
def a1S (p : Nat) : Str := ⟨(40 :: List.replicate p 34).toArray⟩
def b1S (m : Nat) : Str := ⟨([50, 53, 55, 32, 34] ++ List.replicate m 34).toArray⟩
def respM (m : Nat) : Str := ⟨([50, 53, 55, 32, 34] ++ (List.replicate m 34 ++ [107, 34])).toArray⟩
theorem a1_eq (p : Nat) : Str.ofString "(" ++ qs p = a1S p := by
  have : Str.ofString "(" = ⟨#[40]⟩ := by decide +kernel
  rw [this]; apply str_eq; rw [cat_list]; simp [qs, a1S]
theorem a2_eq (p : Nat) : a1S p ++ Str.ofString ")\"" = addrS p := by
  have : Str.ofString ")\"" = ⟨#[41, 34]⟩ := by decide +kernel
  rw [this]; apply str_eq; rw [cat_list]; simp [addrS, a1S]
theorem b1_eq (m : Nat) : Str.ofString "257 \"" ++ qs m = b1S m := by
  have : Str.ofString "257 \"" = ⟨#[50, 53, 55, 32, 34]⟩ := by decide +kernel
  rw [this]; apply str_eq; rw [cat_list]; simp [qs, b1S]
theorem b2_eq (m : Nat) : b1S m ++ Str.ofString "k\"" = respM m := by
  have : Str.ofString "k\"" = ⟨#[107, 34]⟩ := by decide +kernel
  rw [this]; apply str_eq; rw [cat_list]; simp [respM, b1S]
theorem a1_len (p : Nat) : (a1S p).length = p + 1 := by simp [a1S, Str.length]
theorem b1_len (p : Nat) : (b1S p).length = p + 5 := by simp [b1S, Str.length]
theorem respM_len (p : Nat) : (respM p).length = p + 7 := by simp [respM, Str.length]
theorem respM_even {m : Nat} (h : m % 2 = 0) : respM m = respS (m / 2) := by
  have : 2 * (m / 2) = m := by omega
  unfold respS; rw [this]; rfl

theorem mulq_E {w : World} {A : Around} {E : Value → Shared → Prop} {s : Shared} {n : Nat} {t u : Tok} {Q : Value → Shared → Prop} (hn : n ≤ 1000) (h : ∀ t' k, Q (.str (qs n) t') { s with toks := k }) :
    wpAny (model PG w) A (binaryOp .Mult (.str (Str.ofString "\"") t) (.int (n : Int) u)) Q E s :=
  KXi.mul (n := 1) (by decide +kernel) (by decide) (by omega) (by omega) fun t' k _ _ => by rw [mul_q]; exact h t' k

section
variable {w : World} {A₀ A : Around} {base h₀ : Heap} {outer : List Env} {env : Env} {L : Addr} {m : Str → Option Value} {s : Shared} {news : List (Addr × Obj)} {mean : ExcName → Option Value} {mg mb : Str → Option Value} {Q E : Value → Shared → Prop} {t : Tok}
theorem check_use {p : Nat} (B : Below A₀ base outer h₀) (F : Fr h₀ L s.heap m) (X : (hd.heap_39 w.params).In h₀) (N : News h₀ L s.heap news) (T : Top hd.view_39 (looseW hd.view_39 []) mean mg mb h₀)
    (hA : A.frames = some (env :: outer)) (hf : env.frame = some L) (hke : env.scope.kind = .function) (hh : A.handled = none) (hd' : A.depth + 8 < recursionLimit) (hu : A.units + 60 < cLine) (hg : AllBare s.gens) (hp : p ≤ 50)
    (h : ∀ h' g' tk, Fr h₀ L h' m → News h₀ L h' news → AllBare g' → Q (.bool (p % 2 == 0)) { s with heap := h', gens := g', toks := tk }) :
    wpAny (model PG w) A (call (.ref 56) [.str (addrS p) t]) Q E s :=
  (check_addr w p hp t).use B F X N T hA hf hke hh hd' hu hg trivial fun v h' g' tk F' N' _ hb hp => by
    obtain rfl := hp
    exact h h' g' tk F' N' hb
theorem parse_use {n : Nat} (B : Below A₀ base outer h₀) (F : Fr h₀ L s.heap m) (X : (hd.heap_39 w.params).In h₀) (N : News h₀ L s.heap news) (T : Top hd.view_39 (looseW hd.view_39 []) mean mg mb h₀)
    (hA : A.frames = some (env :: outer)) (hf : env.frame = some L) (hke : env.scope.kind = .function) (hh : A.handled = none) (hd' : A.depth + 1 < recursionLimit) (hu : A.units + 8 < cLine) (hg : AllBare s.gens) (hp : n ≤ 50) (he : n % 2 = 0)
    (h : ∀ t' h' g' tk, Fr h₀ L h' m → News h₀ L h' news → AllBare g' → Q (.str (outS (n / 2)) t') { s with heap := h', gens := g', toks := tk }) :
    wpAny (model PG w) A (call (.ref 88) [.str (respM n) t]) Q E s := by
  rw [respM_even he]
  exact (p257 w (n / 2) t ⟨rfl, rfl⟩ (by omega)).use B F X N T hA hf hke hh hd' hu hg trivial fun v h' g' tk F' N' _ hb hp => by
    obtain ⟨a, rfl⟩ := hp
    exact h a h' g' tk F' N' hb
end

def halfN (p v : Nat) : Nat := if p % 2 = 0 then p / 2 else (p + v) / 2

theorem half_end {x y : Nat} {t : Tok} (h : x = y) : ∃ a, (match Flow.ret (.str (outS x) t) with | .ret v => v | _ => .none) = Value.str (outS y) a := ⟨t, by rw [h]⟩
theorem half : ∀ (w : World) (p v : Nat) (t1 t2 : Tok) (_ : PySem.Challenge.rw_tr0033_01 = PySem.Challenge.rw_tr0033_01 ∧ hd.heap_39 = hd.heap_39) (hp : p ≤ 24) (hv : v ≤ 24) (ho : v % 2 = 1),
    Fn w 100 [.int (p : Int) t1, .int (v : Int) t2] 12 90 (fun _ => True) (fun r _ => ∃ a, r = .str (outS (halfN p v)) a) := by
  k_with_none
  k_with "binaryOp Mult str int" => (k_here; k_dflt (apply mulq_E; (case _ => omega)); intro _ _)
  k_with "binaryOp Add str str" => (k_here; k_dflt (apply sadd_E; (case _ => with_reducible first | exact a1_eq _ | exact a2_eq _ | exact b1_eq _ | exact b2_eq _ | exact qs_add _ _); (case _ => (simp only [qs_len, addr_len, a1_len, b1_len, respM_len]; omega))); intro _ _)
  k_with "call ref" => (k_here; k_dflt (apply check_use; (case _ => k_asm); (case _ => k_asm); (case _ => k_asm); (case _ => k_asm); (case _ => k_asm); (case _ => exact Around.frames_deeper (Below.stack (by assumption))); (case _ => exact rfl); (case _ => first | exact rfl | assumption); (case _ => assumption); (case _ => ktr_room); (case _ => ktr_units); (case _ => assumption); (case _ => omega)); (intros; try dsimp only))
  k_with "call ref" => (k_here; k_dflt (apply parse_use; (case _ => k_asm); (case _ => k_asm); (case _ => k_asm); (case _ => k_asm); (case _ => k_asm); (case _ => exact Around.frames_deeper (Below.stack (by assumption))); (case _ => exact rfl); (case _ => first | exact rfl | assumption); (case _ => assumption); (case _ => ktr_room); (case _ => ktr_units); (case _ => assumption); (case _ => omega); (case _ => (simp only [beq_iff_eq, Bool.not_eq_true, beq_eq_false_iff_ne, ne_eq, Bool.not_eq_true', Bool.not_eq_false'] at *; omega))); (intros; try dsimp only))
  k_fill
  intro w p v t1 t2 _ hp hv ho
  refine' Fn.enter ?k6 ?k7 ?k9 ?kB ?c2 ?c3 ?c4 ?c5 ?_
  case k6 => k_dflt k_is
  case k7 => k_dflt k_is
  case k9 => exact fun _ => BindsTo.of_eq rfl
  case kB => exact locs rfl
  case c2 => exact rfl
  case c3 => exact rfl
  case c4 => exact rfl
  case c5 => decide
  intro A base outer s mean mg mb L h₁ tk B F X N T hh hdp hun hg hq
  try dsimp only
  w_strict (
    k_steps
    all_goals (try dsimp only)
    all_goals (
      refine FnEnd.intro (by with_unfolding_all assumption) (fun _ => by assumption) rfl rfl ?_
      refine half_end ?_
      with_reducible simp only [beq_iff_eq, Bool.not_eq_true, beq_eq_false_iff_ne, ne_eq, Bool.not_eq_true', Bool.not_eq_false', bne_iff_ne] at *
      unfold halfN; split <;> first | rfl | omega))
end Mine
end
section
open PySem PySem.W PyProof.Rows PySem.Calls PySem.Spec
set_option Elab.async false
set_option maxRecDepth 100000
set_option maxHeartbeats 40000000
namespace Mine
open PyProof.Rows.LCg (NsObj lst Off3)

/-- what a comprehension's turn leaves: the four objects of its own, and the rest -/
def CEnd (h₀ : Heap) (L : Addr) (m : Str → Option Value) (I C D : Addr) (oI oC oD : Obj) (J : List (Addr × Obj) → Nat → Prop) (s s' : Shared) : Prop :=
  ∃ h' g' tk' news', s' = { s with heap := h', gens := g', toks := tk' } ∧ AllBare g' ∧ Fr h₀ L h' m ∧ News h₀ L h' ((I, oI) :: (C, oC) :: (D, oD) :: news') ∧ Off3 I C D news' ∧ J news' tk'

/-- a source of values that the turns do not touch -/
structure Src (w : World) (A : Around) (h₀ : Heap) (L I : Addr) (n : Nat) (P : Nat → Value → Prop) (S : List (Addr × Obj) → Prop) (St : Nat → Heap → Prop) : Prop where
  walks : ∃ fp, Walks PG w A I fp [I] n P St
  live : ∀ i h, St i h → ∃ o, h.get? I = some o
  stays : ∀ i h h' o nw, St i h → h.get? I = some o → h'.get? I = some o → News h₀ L h' nw → S nw → St i h'

abbrev testsOf (ifs : List PySem.Expr) (env : Env) : Sem Bool :=
  forIn ifs true fun c r => if r = true then do let ok ← isTrue c env (eval c env); pure (ForInStep.yield ok) else pure (ForInStep.yield r)

def CStep (w : World) (A : Around) (h₀ : Heap) (L : Addr) (m : Str → Option Value) (env : Env) (ifs : List PySem.Expr) (elt : PySem.Expr) (x : Str) (scope : Scope) (cl : List (Str × Addr)) (s₂ : Shared) (n : Nat) (P : Nat → Value → Prop) (J : Nat → List Value → List (Addr × Obj) → Nat → Prop) : Prop :=
  ∀ i v ys news' I C D oI oC m₂ h g tk (E' : Value → Shared → Prop), i < n → P i v → J i ys news' tk → NsObj oC m₂ → m₂ x = some v → AllBare g → Fr h₀ L h m → News h₀ L h ((I, oI) :: (C, oC) :: (D, lst ys) :: news') → Off3 I C D news' →
    I ≠ C → I ≠ D → C ≠ D →
    wpAny (model PG w) A (testsOf ifs (compEnvC scope cl C env)) (fun ok s₃ => if ok = true then
      wpAny (model PG w) A (eval elt (compEnvC scope cl C env)) (fun y s₄ => CEnd h₀ L m I C D oI oC (lst ys) (J (i + 1) (ys ++ [y])) { s₂ with heap := h, gens := g, toks := tk } s₄) E' s₃
      else CEnd h₀ L m I C D oI oC (lst ys) (J (i + 1) ys) { s₂ with heap := h, gens := g, toks := tk } s₃) E' { s₂ with heap := h, gens := g, toks := tk }

theorem off_I {h₀ h h' : Heap} {L I : Addr} {nw : List (Addr × Obj)} (N : News h₀ L h nw) (hk : ∀ b o, b ∉ [I] → h.get? b = some o → h'.get? b = some o) (off : ∀ p ∈ nw, p.1 ≠ I) : News h₀ L h' nw :=
  fun p hp => ⟨hk _ _ (by simpa using off p hp) (N p hp).1, (N p hp).2⟩

section
variable {w : World} {A : Around} {E : Value → Shared → Prop} {h₀ : Heap} {L : Addr} {m : Str → Option Value} {env : Env} {s₂ : Shared} {elt iter : PySem.Expr} {ifs : List PySem.Expr} {x : Str} {px : Pos} {scope : Scope} {cl : List (Str × Addr)} {pos : Pos}

theorem comp_turns {I C D : Addr} {n : Nat} {P : Nat → Value → Prop} {S : List (Addr × Obj) → Prop} {St : Nat → Heap → Prop} {J : Nat → List Value → List (Addr × Obj) → Nat → Prop} {R : Result → Shared → Prop}
    (W : Src w A h₀ L I n P S St) (hsz : n ≤ sizeLine) (hJS : ∀ i ys nw t, J i ys nw t → S nw) (hJm : ∀ i ys nw t t', t ≤ t' → J i ys nw t → J i ys nw t') (hkind : scope.kind = .function) (hx : scope.names.lookup x = some .local)
    (hI0 : h₀.get? I = none) (hC0 : h₀.get? C = none) (hD0 : h₀.get? D = none) (hIL : I ≠ L) (hCL : C ≠ L) (hDL : D ≠ L) (hIC : I ≠ C) (hID : I ≠ D) (hCD : C ≠ D)
    (step : CStep w A h₀ L m env ifs elt x scope cl s₂ n P J)
    (fin : ∀ h g tk m' ys news', AllBare g → Fr h₀ L h m → h.Ns C m' → News h₀ L h ((D, lst ys) :: news') → Off3 I C D news' → J n ys news' tk → R (.ok .next) { s₂ with heap := h, gens := g, toks := tk })
    {h : Heap} {g : Array GenState} {tk : Nat} {m₀ : Str → Option Value} {news : List (Addr × Obj)} (hb : AllBare g) (hst : St 0 h) (F : Fr h₀ L h m) (hn : h.Ns C m₀) (N : News h₀ L h ((D, lst []) :: news)) (off : Off3 I C D news) (h0 : J 0 [] news tk) :
    codeAny (model PG w) A (.compLoop (.ListComp elt [⟨.Name x px, iter, ifs, 0⟩] scope pos) 0 (.ref I) (.ref D) (compEnvC scope cl C env)) R { s₂ with heap := h, gens := g, toks := tk } := by
  obtain ⟨fp, WW⟩ := W.walks
  refine codeAny_compLoop_tests (fun k s' => ∃ i ys m' nw h g tk, s' = { s₂ with heap := h, gens := g, toks := tk } ∧ i ≤ n ∧ k = n + 1 - i ∧ ys.length ≤ i ∧ St i h ∧ AllBare g ∧ Fr h₀ L h m ∧ h.Ns C m' ∧ News h₀ L h ((D, lst ys) :: nw) ∧ Off3 I C D nw ∧ J i ys nw tk) ?_
    (n + 1) ⟨0, [], m₀, news, h, g, tk, rfl, Nat.zero_le _, rfl, Nat.le_refl _, hst, hb, F, hn, N, off, h0⟩
  rintro k s' ⟨i, ys, m', nw, h, g, tk, rfl, hi, rfl, hy, hst, hb, F, hn, N, off, hJ⟩
  have offN := off.mem
  have offD : ∀ p ∈ ((D, lst ys) :: nw : List (Addr × Obj)), p.1 ≠ I := fun p hp => by
    rcases List.mem_cons.mp hp with rfl | hp
    · exact Ne.symm hID
    · exact (offN p hp).1
  have Fat : ∀ h' : Heap, (∀ b o, b ∉ [I] → h.get? b = some o → h'.get? b = some o) → Fr h₀ L h' m := fun h' hk =>
    ⟨F.ns.at' fun o e => hk L o (by simpa using Ne.symm hIL) e, fun b o e => hk b o (fun hm => by rw [List.mem_singleton.mp hm, hI0] at e; cases e) (F.keep b o e), F.above⟩
  have Cat : ∀ h' : Heap, (∀ b o, b ∉ [I] → h.get? b = some o → h'.get? b = some o) → h'.Ns C m' := fun h' hk => hn.at' fun o e => hk C o (by simpa using Ne.symm hIC) e
  rcases Nat.lt_or_ge i n with hlt | hge
  · refine wpAny_with_toks (Nat.le_refl _) (WW.item i _ _ _ hlt hst fun v h₂ tk₂ hP st₂ hk₂ htk₂ => ?_)
    dsimp only at hk₂ htk₂ ⊢
    refine wpAny_assign_Name (wpAny_storeName_local (lookup_relabel_local hx) (Cat h₂ hk₂) (fun h₃ hn₃ hs₃ => ?_) (by simp [compEnvC, relabel, hkind]))
    obtain ⟨oI, eI₂⟩ := W.live _ _ st₂
    have eI : h₃.get? I = some oI := hs₃.extBut _ _ hIC eI₂
    obtain ⟨oC, eC, hoC⟩ := LCg.ns_obj hn₃
    have N₂ := off_I N hk₂ offD
    have N₃ : News h₀ L h₃ ((D, lst ys) :: nw) := fun p hp => by
      refine ⟨hs₃.extBut _ _ ?_ (N₂ p hp).1, (N₂ p hp).2⟩
      rcases List.mem_cons.mp hp with rfl | hp
      · exact Ne.symm hCD
      · exact (offN p hp).2.1
    have F₃ : Fr h₀ L h₃ m := (Fat h₂ hk₂).change hs₃ hCL hC0
    have st₃ : St (i + 1) h₃ := W.stays _ _ _ _ _ st₂ eI₂ eI (fun p hp => N₃ p (List.mem_cons_of_mem _ hp)) (hJS _ _ _ _ hJ)
    have NN : News h₀ L h₃ ((I, oI) :: (C, oC) :: (D, lst ys) :: nw) := fun p hp => by
      rcases List.mem_cons.mp hp with rfl | hp
      · exact ⟨eI, hIL, hI0⟩
      · rcases List.mem_cons.mp hp with rfl | hp
        · exact ⟨eC, hCL, hC0⟩
        · exact N₃ p hp
    have go : ∀ (ys' : List Value) h₄ g₄ tk₄ nw₄ h₅, ys'.length ≤ i + 1 → AllBare g₄ → Fr h₀ L h₄ m → News h₀ L h₄ ((I, oI) :: (C, oC) :: (D, lst ys) :: nw₄) → Off3 I C D nw₄ → J (i + 1) ys' nw₄ tk₄ → Heap.SameBut D h₄ h₅ → h₅.get? D = some (lst ys') →
        ∃ k', k' < n + 1 - i ∧ ∃ i ys m' nw h g tk, { s₂ with heap := h₅, gens := g₄, toks := tk₄ } = { s₂ with heap := h, gens := g, toks := tk } ∧ i ≤ n ∧ k' = n + 1 - i ∧ ys.length ≤ i ∧ St i h ∧ AllBare g ∧ Fr h₀ L h m ∧ h.Ns C m' ∧ News h₀ L h ((D, lst ys) :: nw) ∧ Off3 I C D nw ∧ J i ys nw tk := by
      intro ys' h₄ g₄ tk₄ nw₄ h₅ hy' hb₄ F₄ N₄ off₄ hJ₄ hs hD
      have z1 := (N₄ (I, oI) List.mem_cons_self).1
      have z2 := (N₄ (C, oC) (List.mem_cons_of_mem _ List.mem_cons_self)).1
      have N5 : News h₀ L h₅ nw₄ := fun p hp => by
        have q := N₄ p (List.mem_cons_of_mem _ (List.mem_cons_of_mem _ (List.mem_cons_of_mem _ hp)))
        exact ⟨hs.extBut _ _ (off₄.mem p hp).2.2 q.1, q.2⟩
      refine ⟨n + 1 - (i + 1), by omega, i + 1, ys', _, nw₄, h₅, g₄, tk₄, rfl, hlt, rfl, hy', W.stays _ _ _ _ _ st₃ eI (hs.extBut _ _ hID z1) N5 (hJS _ _ _ _ hJ₄), hb₄, F₄.change hs hDL hD0, (hoC.ns z2).sameBut hs hCD, fun p hp => ?_, off₄, hJ₄⟩
      rcases List.mem_cons.mp hp with rfl | hp
      · exact ⟨hD, hDL, hD0⟩
      · exact N5 p hp
    refine wpAny_mono (step i v ys nw I C D oI oC _ h₃ g _ _ hlt hP (hJm _ _ _ _ _ (Nat.le_succ_of_le htk₂) hJ) hoC (by simp) hb F₃ NN off hIC hID hCD) (fun ok s₄ h₄ => ?_) fun _ _ e => e
    cases ok with
    | false =>
      simp only [Bool.false_eq_true, if_false] at h₄ ⊢
      obtain ⟨h₅, g₅, tk₅, nw₅, rfl, hb₅, F₅, N₅, off₅, hJ₅⟩ := h₄
      exact go ys h₅ g₅ tk₅ nw₅ h₅ (Nat.le_succ_of_le hy) hb₅ F₅ N₅ off₅ hJ₅ ⟨rfl, fun _ _ => rfl⟩ (N₅ (D, lst ys) (List.mem_cons_of_mem _ (List.mem_cons_of_mem _ List.mem_cons_self))).1
    | true =>
      simp only [if_true] at h₄ ⊢
      refine wpAny_mono h₄ (fun y s₅ h₅ => ?_) fun _ _ e => e
      obtain ⟨h₅, g₅, tk₅, nw₅, rfl, hb₅, F₅, N₅, off₅, hJ₅⟩ := h₅
      refine append_at (hsz := by show ys.toArray.size ≤ sizeLine; rw [List.size_toArray]; omega) (N₅ (D, lst ys) (List.mem_cons_of_mem _ (List.mem_cons_of_mem _ List.mem_cons_self))).1 fun h₆ hs hD => ?_
      exact go (ys ++ [y]) h₅ g₅ tk₅ nw₅ h₆ (by rw [List.length_append, List.length_singleton]; omega) hb₅ F₅ N₅ off₅ hJ₅ hs (hD.trans (congrArg some (LCg.lst_snoc ys y)))
  · obtain rfl : i = n := by omega
    refine wpAny_with_toks (Nat.le_refl _) (WW.done _ _ _ hst fun h₂ tk₂ hk₂ htk₂ => ?_)
    exact fin h₂ g tk₂ m' ys nw hb (Fat h₂ hk₂) (Cat h₂ hk₂) (off_I N hk₂ offD) off (hJm _ _ _ _ _ htk₂ hJ)
end
end Mine
end
section
open PySem PySem.W PyProof.Rows PySem.Calls PySem.Spec
set_option Elab.async false
set_option maxRecDepth 100000
set_option maxHeartbeats 40000000
namespace Mine
open PyProof.Rows.LCg (NsObj lst Off3)

/-- where a comprehension's values come from -/
inductive SrcV (xv : Value) (h : Heap) (news : List (Addr × Obj)) : Nat → (Nat → Value → Prop) → (List (Addr × Obj) → Prop) → Prop
  | list (ax : Addr) (its : Array Value) (k : Nat) : xv = .ref ax → (ax, ({ cls := .type "list", data := .seq its k } : Obj)) ∈ news →
      SrcV xv h news its.size (fun i v => its[i]? = some v) (fun nw => (ax, ({ cls := .type "list", data := .seq its k } : Obj)) ∈ nw)
  | range (r : Addr) (a b c : Int) (t u v : Tok) (n : Nat) : xv = .ref r → IsRange h r a b c t u v → Builtin.Range.small a b c = true → Builtin.Range.rangeSize a b c = ((n : Nat) : Int) →
      SrcV xv h news n (fun i v => ∃ t, v = .int (a + i * c) t) (fun _ => True)

def CSrc (w : World) (A : Around) (h₀ : Heap) (L : Addr) (m : Str → Option Value) (env : Env) (ifs : List PySem.Expr) (elt : PySem.Expr) (x : Str) (scope : Scope) (cl : List (Str × Addr)) (Fin : Shared → List Value → List (Addr × Obj) → Nat → Prop) (xv : Value) (s₁ : Shared) : Prop :=
  ∃ n P S J news, A.handled = none ∧ Fr h₀ L s₁.heap m ∧ News h₀ L s₁.heap news ∧ AllBare s₁.gens ∧ n ≤ sizeLine ∧ SrcV xv s₁.heap news n P S ∧ (∀ i ys nw t, J i ys nw t → S nw) ∧ (∀ i ys nw t t', t ≤ t' → J i ys nw t → J i ys nw t') ∧ J 0 [] news s₁.toks ∧
    CStep w A h₀ L m env ifs elt x scope cl s₁ n P J ∧ ∀ ys nw t, J n ys nw t → Fin s₁ ys nw t

section
variable {w : World} {A : Around} {E : Value → Shared → Prop} {h₀ : Heap} {L : Addr} {m : Str → Option Value} {env : Env} {elt iter : PySem.Expr} {ifs : List PySem.Expr} {x : Str} {px : Pos} {scope : Scope} {cl : List (Str × Addr)} {pos : Pos} {s : Shared}

theorem src_list {I ax : Addr} {its : Array Value} {k : Nat} (hh : A.handled = none) (hne : ax ≠ I) :
    Src w A h₀ L I its.size (fun i v => its[i]? = some v) (fun nw => (ax, ({ cls := .type "list", data := .seq its k } : Obj)) ∈ nw) (fun i h => h.IsListIter I ax i ∧ h.IsList ax its) where
  walks := ⟨_, Walks.list hh I ax hne its⟩
  live := fun i h st => by obtain ⟨o, e, _⟩ := st.1; exact ⟨o, e⟩
  stays := fun i h h' o nw st e e' N S => ⟨by obtain ⟨o', q, r⟩ := st.1; rw [e] at q; cases q; exact ⟨o, e', r⟩, ⟨_, (N _ S).1, rfl, _, rfl⟩⟩

theorem src_range {I : Addr} {a c : Int} {n : Nat} (hh : A.handled = none) :
    Src w A h₀ L I n (fun i v => ∃ t, v = .int (a + i * c) t) (fun _ => True) (fun i h => IsRangeIter h I (a + (i : Nat) * c) ((n : Int) - (i : Nat)) c) where
  walks := ⟨_, Walks.range hh I a c n⟩
  live := fun i h st => ⟨_, st⟩
  stays := fun i h h' o nw st e e' N S => by
    have q : h.get? I = some _ := st
    rw [e] at q; cases q
    exact e'

theorem comp_block {I : Addr} {n : Nat} {P : Nat → Value → Prop} {S : List (Addr × Obj) → Prop} {St : Nat → Heap → Prop} {J : Nat → List Value → List (Addr × Obj) → Nat → Prop} {RR : Value → Addr → Result → Shared → Prop} {news : List (Addr × Obj)}
    (W : Src w A h₀ L I n P S St) (hsz : n ≤ sizeLine) (hJS : ∀ i ys nw t, J i ys nw t → S nw) (hJm : ∀ i ys nw t t', t ≤ t' → J i ys nw t → J i ys nw t') (hcell : ∀ y ∈ scope.names, y.2 ≠ .cell) (hkind : scope.kind = .function) (hx : scope.names.lookup x = some .local)
    (hI0 : h₀.get? I = none) (hIL : I ≠ L) (off : ∀ p ∈ news, p.1 ≠ I) {s₂ : Shared} (hb : AllBare s₂.gens) (hst : St 0 s₂.heap) (F : Fr h₀ L s₂.heap m) (N : News h₀ L s₂.heap news) (h0 : J 0 [] news s₂.toks)
    (step : CStep w A h₀ L m env ifs elt x scope cl s₂ n P J)
    (fin : ∀ D C h g tk m' ys news', AllBare g → Fr h₀ L h m → h.Ns C m' → News h₀ L h ((D, lst ys) :: news') → (∀ p ∈ news', p.1 ≠ C ∧ p.1 ≠ D) → C ≠ D → C ≠ L → h₀.get? C = none → J n ys news' tk → RR (.ref D) C (.ok .next) { s₂ with heap := h, gens := g, toks := tk }) :
    wpAny (model PG w) A (newList []) (fun acc s₃ => wpAny (model PG w) A (newFunctionEnv scope env.globals cl [] env.qual none .none (some env)) (fun cenv s₄ =>
      codeAny (model PG w) A (.compStart (.ListComp elt [⟨.Name x px, iter, ifs, 0⟩] scope pos) 0 (.ref I) acc { cenv with scope := relabel scope env }) (RR acc cenv.locals) s₄) E s₃) E s₂ := by
  refine wpAny_newObj_type (wpAny_newFunctionEnv hcell (by intro y hy; simp at hy) (fun h₁ hns hsb => ?_) hkind)
  dsimp only at hns hsb ⊢
  generalize hH : s₂.heap.push { cls := .type "list", dict := none, data := .seq ([] : List Value).toArray } = H at hns hsb ⊢
  have hC : H.objs.size = s₂.heap.objs.size + 1 := by rw [← hH, Heap.size_push]
  have out : ∀ a, s₂.heap.objs.size ≤ a → h₀.get? a = none := fun a ha => Heap.get?_none_of_le (Nat.le_trans (Nat.le_trans F.above (Nat.le_of_lt F.ns.lt)) ha)
  have hCD : H.objs.size ≠ s₂.heap.objs.size := by rw [hC]; exact Nat.succ_ne_self _
  have old : ∀ b o, s₂.heap.get? b = some o → h₁.get? b = some o := fun b o e => hsb.extBut b o (Nat.ne_of_lt (by rw [hC]; exact Nat.lt_succ_of_lt (Heap.lt_size e))) (Heap.get?_push_of_some _ (hH ▸ Heap.get?_push_of_some _ e))
  obtain ⟨oI, eI⟩ := W.live _ _ hst
  have hIlt := Heap.lt_size eI
  have hIC : I ≠ H.objs.size := by rw [hC]; exact Nat.ne_of_lt (Nat.lt_succ_of_lt hIlt)
  have hID : I ≠ s₂.heap.objs.size := Nat.ne_of_lt hIlt
  have hCL : H.objs.size ≠ L := by rw [hC]; exact Ne.symm (Nat.ne_of_lt (Nat.lt_succ_of_lt F.ns.lt))
  have hDL : s₂.heap.objs.size ≠ L := Ne.symm (Nat.ne_of_lt F.ns.lt)
  have o3 : Off3 I H.objs.size s₂.heap.objs.size news := LCg.Off3.of fun p hp => ⟨off p hp, by rw [hC]; exact Nat.ne_of_lt (Nat.lt_succ_of_lt (Heap.lt_size (N p hp).1)), Nat.ne_of_lt (Heap.lt_size (N p hp).1)⟩
  have N₁ : News h₀ L h₁ ((s₂.heap.objs.size, lst []) :: news) := fun p hp => by
    rcases List.mem_cons.mp hp with rfl | hp
    · exact ⟨hsb.extBut _ _ (Ne.symm hCD) (Heap.get?_push_of_some _ (hH ▸ Heap.get?_push_size _ rfl)), hDL, out _ (Nat.le_refl _)⟩
    · exact ⟨old _ _ (N p hp).1, (N p hp).2⟩
  have hst₁ : St 0 h₁ := W.stays _ _ _ _ _ hst eI (old _ _ eI) (fun p hp => N₁ p (List.mem_cons_of_mem _ hp)) (hJS _ _ _ _ h0)
  have loop : codeAny (model PG w) A (.compLoop (.ListComp elt [⟨.Name x px, iter, ifs, 0⟩] scope pos) 0 (.ref I) (.ref s₂.heap.objs.size) (compEnvC scope cl H.objs.size env)) (RR (.ref s₂.heap.objs.size) H.objs.size)
      { s₂ with heap := h₁, toks := s₂.toks + ([] : List (Str × Value)).length } :=
    comp_turns W hsz hJS hJm hkind hx hI0 (out _ (by rw [hC]; exact Nat.le_succ _)) (out _ (Nat.le_refl _)) hIL hCL hDL hIC hID hCD step
      (fun h g tk m' ys nw a b c d e f => fin _ _ h g tk m' ys nw a b c d (fun p hp => (e.mem p hp).2) hCD hCL (out _ (by rw [hC]; exact Nat.le_succ _)) f) hb hst₁ (F.keeps old) hns N₁ o3 (hJm _ _ _ _ _ (by simp) h0)
  obtain ⟨fp, WW⟩ := W.walks
  exact codeAny_compStart_list loop (WW.self 0 _ _ _ hst₁ loop)

theorem comp_iter {RR : Value → Addr → Result → Shared → Prop} {xv : Value} {Fin : Shared → List Value → List (Addr × Obj) → Nat → Prop} (hcell : ∀ y ∈ scope.names, y.2 ≠ .cell) (hkind : scope.kind = .function) (hx : scope.names.lookup x = some .local)
    (h : CSrc w A h₀ L m env ifs elt x scope cl Fin xv s)
    (fin : ∀ D C h g tk m' ys news', AllBare g → Fr h₀ L h m → h.Ns C m' → News h₀ L h ((D, lst ys) :: news') → (∀ p ∈ news', p.1 ≠ C ∧ p.1 ≠ D) → C ≠ D → C ≠ L → h₀.get? C = none → Fin s ys news' tk → RR (.ref D) C (.ok .next) { s with heap := h, gens := g, toks := tk }) :
    wpAny (model PG w) A (pyIter xv) (fun it s₂ => wpAny (model PG w) A (newList []) (fun acc s₃ => wpAny (model PG w) A (newFunctionEnv scope env.globals cl [] env.qual none .none (some env)) (fun cenv s₄ =>
      codeAny (model PG w) A (.compStart (.ListComp elt [⟨.Name x px, iter, ifs, 0⟩] scope pos) 0 it acc { cenv with scope := relabel scope env }) (RR acc cenv.locals) s₄) E s₃) E s₂) E s := by
  obtain ⟨n, P, S, J, news, hh, F, N, hb, hsz, hv, hJS, hJm, h0, step, hF⟩ := h
  have hI0 : h₀.get? s.heap.objs.size = none := Heap.get?_none_of_le (Nat.le_trans F.above (Nat.le_of_lt F.ns.lt))
  have hIL : s.heap.objs.size ≠ L := Ne.symm (Nat.ne_of_lt F.ns.lt)
  have off : ∀ p ∈ news, p.1 ≠ s.heap.objs.size := fun p hp => Nat.ne_of_lt (Heap.lt_size (N p hp).1)
  cases hv with
  | list ax its k e hm =>
    subst e
    have hl : s.heap.IsList ax its := ⟨_, (N _ hm).1, rfl, _, rfl⟩
    refine wpAny_pyIter_list hl ?_
    refine comp_block (src_list hh (off _ hm)) hsz hJS hJm hcell hkind hx hI0 hIL off hb ⟨⟨_, Heap.get?_push_size _ rfl, rfl, rfl⟩, hl.push _⟩ (F.push _) (fun p hp => ⟨Heap.get?_push_of_some _ (N p hp).1, (N p hp).2⟩) h0 step
      fun D C h g tk m' ys nw a b c d e f g' i j => fin D C h g tk m' ys nw a b c d e f g' i (hF ys nw tk j)
  | range r a b c t u v n e hr hsm hn =>
    subst e
    refine wpAny_pyIter_range hr hsm ?_
    refine comp_block (src_range hh) hsz hJS hJm hcell hkind hx hI0 hIL off hb (by show IsRangeIter _ _ _ _ _; rw [hn]; simpa using Heap.get?_push_size _ rfl) (F.push _) (fun p hp => ⟨Heap.get?_push_of_some _ (N p hp).1, (N p hp).2⟩) h0 step
      fun D C h g tk m' ys nw a b c d e f g' i j => fin D C h g tk m' ys nw a b c d e f g' i (hF ys nw tk j)

def FinE (h₀ : Heap) (L : Addr) (m : Str → Option Value) (Q : Value → Shared → Prop) (s : Shared) (ys : List Value) (news : List (Addr × Obj)) (t : Nat) : Prop :=
  ∀ D h g tk, t ≤ tk → AllBare g → Fr h₀ L h m → News h₀ L h ((D, lst ys) :: news) → (∀ p ∈ news, p.1 ≠ D) → Q (.ref D) { s with heap := h, gens := g, toks := tk }

theorem comp_eval {Q : Value → Shared → Prop} (F₀ : Fr h₀ L s.heap m) (hclos : closureFor scope env = pure cl) (hcell : ∀ y ∈ scope.names, y.2 ≠ .cell) (hkind : scope.kind = .function)
    (hnames : ∀ y ∈ scope.names, y.2 = .local → scope.names.lookup y.1 = some .local) (hx : scope.names.lookup x = some .local)
    (h : wpAny (model PG w) A (eval iter env) (fun xv s₁ => CSrc w A h₀ L m env ifs elt x scope cl (FinE h₀ L m Q) xv s₁) E s)
    (hs : ∀ x, foldedSetIterable iter env x = pure x := by intro _; rfl) :
    wpAny (model PG w) A (eval (.ListComp elt [⟨.Name x px, iter, ifs, 0⟩] scope pos) env) Q E s := by
  rw [eval_ListComp]
  refine wpAny_comprehension_free (use := none) rfl hs hclos hkind hnames (wpAny_mono h (fun xv s₁ h₁ => ?_) fun _ _ e => e)
  refine comp_iter hcell hkind hx h₁ fun D C h g tk m' ys nw a b c d e f g' i j => ⟨m', c, fun h'' hs'' => j D h'' g tk (Nat.le_refl _) a (b.change hs'' g' i) (fun p hp => ?_) fun p hp => (e p hp).2⟩
  refine ⟨hs''.extBut _ _ ?_ (d p hp).1, (d p hp).2⟩
  rcases List.mem_cons.mp hp with rfl | hp
  · exact Ne.symm f
  · exact (e p hp).1

def FinA (h₀ : Heap) (L : Addr) (m : Str → Option Value) (y : Str) (Q : Flow → Shared → Prop) (s : Shared) (ys : List Value) (news : List (Addr × Obj)) (t : Nat) : Prop :=
  ∀ D h g tk, t ≤ tk → AllBare g → Fr h₀ L h (fun z => if z = y then some (.ref D) else m z) → News h₀ L h ((D, lst ys) :: news) → (∀ p ∈ news, p.1 ≠ D) → Q .next { s with heap := h, gens := g, toks := tk }

theorem comp_assign {y : Str} {py spos : Pos} {Q : Flow → Shared → Prop} (F₀ : Fr h₀ env.locals s.heap m)
    (hsw : swapsWith (.ListComp elt [⟨.Name x px, iter, ifs, 0⟩] scope pos) (some (.Name y py)) spos.line env = pure true)
    (hclos : closureFor scope env = pure cl) (hcell : ∀ z ∈ scope.names, z.2 ≠ .cell) (hkind : scope.kind = .function)
    (hnames : ∀ z ∈ scope.names, z.2 = .local → scope.names.lookup z.1 = some .local) (hx : scope.names.lookup x = some .local)
    (hy : env.kindOf y = some .local) (hp : (env.scope.kind == .class || (env.scope.kind == .module && env.locals != env.globals)) = false)
    (h : wpAny (model PG w) A (eval iter env) (fun xv s₁ => CSrc w A h₀ env.locals m env ifs elt x scope cl (FinA h₀ env.locals m y Q) xv s₁) E s)
    (hs : ∀ x, foldedSetIterable iter env x = pure x := by intro _; rfl) :
    wpAny (model PG w) A (exec (.Assign [.Name y py] (.ListComp elt [⟨.Name x px, iter, ifs, 0⟩] scope pos) spos) env) Q E s := by
  rw [exec_Assign_Name_used _ _ _ _ hsw]
  refine wpAny_bind (wpAny_standAt (wpAny_bind ?_))
  show wpAny _ A (do let _ ← comprehension (.ListComp elt [⟨.Name x px, iter, ifs, 0⟩] scope pos) scope env _ (newList []) false (eval iter env) (some (assign (.Name y py) env))) _ _ s
  refine wpAny_bind (wpAny_mono (wpAny_comprehension_free (use := some (assign (.Name y py) env)) (Q := fun _ s' => Q .next s') rfl hs hclos hkind hnames (wpAny_mono h (fun xv s₁ h₁ => ?_) fun _ _ e => e)) (fun _ s' hq => wpAny_pure (wpAny_pure hq)) fun _ _ e => e)
  refine comp_iter hcell hkind hx h₁ fun D C h g tk m' ys nw a b c d e f g' i j => ?_
  show wpAny _ A (assign (.Name y py) env (.ref D)) _ _ _
  refine wpAny_assign_Name (wpAny_storeName_local hy b.ns (fun h₂ hn₂ hs₂ => ?_) hp)
  have F₂ := b.set hn₂ hs₂
  refine ⟨m', c.sameBut hs₂ g', fun h'' hs'' => j D h'' g _ (Nat.le_succ _) a (F₂.change hs'' g' i) (fun p hp => ?_) fun p hp => (e p hp).2⟩
  refine ⟨hs''.extBut _ _ ?_ (hs₂.extBut _ _ (d p hp).2.1 (d p hp).1), (d p hp).2⟩
  rcases List.mem_cons.mp hp with rfl | hp
  · exact Ne.symm f
  · exact (e p hp).1
end
end Mine
end
section
open PySem PySem.W PyProof.Rows PySem.Calls PySem.Spec
set_option Elab.async false
set_option maxRecDepth 100000
set_option maxHeartbeats 40000000
namespace Mine
open PyProof.Rows.LCg (NsObj lst Off3)

def FEnd (h₀ : Heap) (L I : Addr) (oI : Obj) (J : (Str → Option Value) → List (Addr × Obj) → Prop) (s : Shared) (f : Flow) (s' : Shared) : Prop :=
  f = .next ∧ ∃ h' g' tk' m' nw, s' = { s with heap := h', gens := g', toks := tk' } ∧ AllBare g' ∧ Fr h₀ L h' m' ∧ News h₀ L h' ((I, oI) :: nw) ∧ (∀ p ∈ nw, p.1 ≠ I) ∧ J m' nw

theorem FEnd.intro {h₀ h' : Heap} {L I : Addr} {oI : Obj} {J : (Str → Option Value) → List (Addr × Obj) → Prop} {s : Shared} {g' : Array GenState} {tk' : Nat} {m' : Str → Option Value} {all nw : List (Addr × Obj)}
    (F : Fr h₀ L h' m') (N : News h₀ L h' all) (hb : AllBare g') (h1 : (I, oI) ∈ all) (h2 : ∀ p ∈ nw, p ∈ all) (h3 : ∀ p ∈ nw, p.1 ≠ I) (hJ : J m' nw) : FEnd h₀ L I oI J s .next { s with heap := h', gens := g', toks := tk' } :=
  ⟨rfl, h', g', tk', m', nw, rfl, hb, F, fun p hp => by
    rcases List.mem_cons.mp hp with rfl | hp
    · exact N _ h1
    · exact N _ (h2 p hp), h3, hJ⟩

def FStep (w : World) (A : Around) (h₀ : Heap) (L : Addr) (env : Env) (x : Str) (body : List Stmt) (s₂ : Shared) (n : Nat) (P : Nat → Value → Prop) (J : Nat → (Str → Option Value) → List (Addr × Obj) → Prop) : Prop :=
  ∀ i v m₁ nw I oI h g tk, i < n → P i v → J i m₁ nw → AllBare g → Fr h₀ L h (fun y => if y = x then some v else m₁ y) → News h₀ L h ((I, oI) :: nw) → (∀ p ∈ nw, p.1 ≠ I) →
    wpAny (model PG w) A (execs body env) (FEnd h₀ L I oI (J (i + 1)) { s₂ with heap := h, gens := g, toks := tk }) (fun _ _ => False) { s₂ with heap := h, gens := g, toks := tk }

def FSrc (w : World) (A : Around) (h₀ : Heap) (env : Env) (x : Str) (body : List Stmt) (Q : Flow → Shared → Prop) (xv : Value) (s₁ : Shared) : Prop :=
  ∃ n P S J m news, A.handled = none ∧ Fr h₀ env.locals s₁.heap m ∧ News h₀ env.locals s₁.heap news ∧ AllBare s₁.gens ∧ SrcV xv s₁.heap news n P S ∧ (∀ i m nw, J i m nw → S nw) ∧ J 0 m news ∧
    FStep w A h₀ env.locals env x body s₁ n P J ∧ ∀ h g tk m' nw, AllBare g → Fr h₀ env.locals h m' → News h₀ env.locals h nw → J n m' nw → Q .next { s₁ with heap := h, gens := g, toks := tk }

section
variable {w : World} {A : Around} {E : Value → Shared → Prop} {h₀ : Heap} {env : Env} {iter : PySem.Expr} {x : Str} {px pos : Pos} {body : List Stmt} {s : Shared}

theorem for_loop {I : Addr} {n : Nat} {P : Nat → Value → Prop} {S : List (Addr × Obj) → Prop} {St : Nat → Heap → Prop} {J : Nat → (Str → Option Value) → List (Addr × Obj) → Prop} {R : Result → Shared → Prop} {m : Str → Option Value} {news : List (Addr × Obj)}
    (W : Src w A h₀ env.locals I n P S St) (hJS : ∀ i m nw, J i m nw → S nw) (hx : env.kindOf x = some .local) (hp : (env.scope.kind == .class || (env.scope.kind == .module && env.locals != env.globals)) = false)
    (hI0 : h₀.get? I = none) (hIL : I ≠ env.locals) (off : ∀ p ∈ news, p.1 ≠ I) {s₂ : Shared} (hb : AllBare s₂.gens) (hst : St 0 s₂.heap) (F : Fr h₀ env.locals s₂.heap m) (N : News h₀ env.locals s₂.heap news) (h0 : J 0 m news)
    (step : FStep w A h₀ env.locals env x body s₂ n P J)
    (fin : ∀ h g tk m' nw, AllBare g → Fr h₀ env.locals h m' → News h₀ env.locals h nw → J n m' nw → R (.ok .next) { s₂ with heap := h, gens := g, toks := tk }) :
    codeAny (model PG w) A (.forLoop (.Name x px) (.ref I) body [] env) R s₂ := by
  obtain ⟨fp, WW⟩ := W.walks
  refine codeAny_forLoop (fun k s' => ∃ i m' nw h g tk, s' = { s₂ with heap := h, gens := g, toks := tk } ∧ i ≤ n ∧ k = n + 1 - i ∧ St i h ∧ AllBare g ∧ Fr h₀ env.locals h m' ∧ News h₀ env.locals h nw ∧ (∀ p ∈ nw, p.1 ≠ I) ∧ J i m' nw) ?_
    (n + 1) ⟨0, m, news, s₂.heap, s₂.gens, s₂.toks, rfl, Nat.zero_le _, rfl, hst, hb, F, N, off, h0⟩
  rintro k s' ⟨i, m', nw, h, g, tk, rfl, hi, rfl, hst, hb, F, N, off, hJ⟩
  have Fat : ∀ h' : Heap, (∀ b o, b ∉ [I] → h.get? b = some o → h'.get? b = some o) → Fr h₀ env.locals h' m' := fun h' hk =>
    ⟨F.ns.at' fun o e => hk _ o (by simpa using Ne.symm hIL) e, fun b o e => hk b o (fun hm => by rw [List.mem_singleton.mp hm, hI0] at e; cases e) (F.keep b o e), F.above⟩
  rcases Nat.lt_or_ge i n with hlt | hge
  · refine WW.item i _ _ _ hlt hst fun v h₂ tk₂ hP st₂ hk₂ => ?_
    dsimp only at hk₂ ⊢
    have F₂ := Fat h₂ hk₂
    have N₂ := off_I N hk₂ off
    refine wpAny_assign_Name (wpAny_storeName_local hx F₂.ns (fun h₃ hn₃ hs₃ => ?_) hp)
    obtain ⟨oI, eI₂⟩ := W.live _ _ st₂
    have eI : h₃.get? I = some oI := hs₃.extBut _ _ hIL eI₂
    have F₃ := F₂.set hn₃ hs₃
    have N₃ := N₂.set hs₃
    have st₃ : St (i + 1) h₃ := W.stays _ _ _ _ _ st₂ eI₂ eI N₃ (hJS _ _ _ hJ)
    refine wpAny_mono (step i v m' nw I oI h₃ g _ hlt hP hJ hb F₃ (fun p hp => ?_) off) (fun f s₄ h₄ => ?_) fun _ _ e => e.elim
    · rcases List.mem_cons.mp hp with rfl | hp
      · exact ⟨eI, hIL, hI0⟩
      · exact N₃ p hp
    · obtain ⟨rfl, h₄, g₄, tk₄, m₄, nw₄, rfl, hb₄, F₄, N₄, off₄, hJ₄⟩ := h₄
      have NN : News h₀ env.locals h₄ nw₄ := fun p hp => N₄ p (List.mem_cons_of_mem _ hp)
      exact ⟨n + 1 - (i + 1), by omega, i + 1, m₄, nw₄, h₄, g₄, tk₄, rfl, hlt, rfl, W.stays _ _ _ _ _ st₃ eI (N₄ (I, oI) List.mem_cons_self).1 NN (hJS _ _ _ hJ₄), hb₄, F₄, NN, off₄, hJ₄⟩
  · obtain rfl : i = n := by omega
    refine WW.done _ _ _ hst fun h₂ tk₂ hk₂ => wpAny_execs_nil ?_
    exact fin h₂ g tk₂ m' nw hb (Fat h₂ hk₂) (off_I N hk₂ off) hJ

theorem for_any {Q : Flow → Shared → Prop} {m₀ : Str → Option Value} (F₀ : Fr h₀ env.locals s.heap m₀) (hx : env.kindOf x = some .local) (hp : (env.scope.kind == .class || (env.scope.kind == .module && env.locals != env.globals)) = false)
    (h : wpAny (model PG w) A (eval iter env) (fun xv s₁ => FSrc w A h₀ env x body Q xv s₁) E s)
    (hs : ∀ x, foldedSetIterable iter env x = pure x := by intro _; rfl) :
    wpAny (model PG w) A (exec (.For (.Name x px) iter body [] pos) env) Q E s := by
  refine wpAny_For (wpAny_mono h (fun xv s₁ h₁ => ?_) fun _ _ e => e) hs
  obtain ⟨n, P, S, J, m, news, hh, F, N, hb, hv, hJS, h0, step, hQ⟩ := h₁
  have hI0 : h₀.get? s₁.heap.objs.size = none := Heap.get?_none_of_le (Nat.le_trans F.above (Nat.le_of_lt F.ns.lt))
  have hIL : s₁.heap.objs.size ≠ env.locals := Ne.symm (Nat.ne_of_lt F.ns.lt)
  have off : ∀ p ∈ news, p.1 ≠ s₁.heap.objs.size := fun p hp => Nat.ne_of_lt (Heap.lt_size (N p hp).1)
  cases hv with
  | list ax its k e hm =>
    subst e
    have hl : s₁.heap.IsList ax its := ⟨_, (N _ hm).1, rfl, _, rfl⟩
    refine wpAny_pyIter_list hl ?_
    exact for_loop (R := fun r s' => match r with | .ok f => Q f s' | .error e => cameBackBy (model PG w) A env E e s') (src_list hh (off _ hm)) hJS hx hp hI0 hIL off hb ⟨⟨_, Heap.get?_push_size _ rfl, rfl, rfl⟩, hl.push _⟩ (F.push _) (fun p hp => ⟨Heap.get?_push_of_some _ (N p hp).1, (N p hp).2⟩) h0 step hQ
  | range r a b c t u v n e hr hsm hn =>
    subst e
    refine wpAny_pyIter_range hr hsm ?_
    exact for_loop (R := fun r s' => match r with | .ok f => Q f s' | .error e => cameBackBy (model PG w) A env E e s') (src_range hh) hJS hx hp hI0 hIL off hb (by show IsRangeIter _ _ _ _ _; rw [hn]; simpa using Heap.get?_push_size _ rfl) (F.push _) (fun p hp => ⟨Heap.get?_push_of_some _ (N p hp).1, (N p hp).2⟩) h0 step hQ
end
end Mine
end
section
open PySem PySem.W PyProof.Rows PySem.Calls
set_option Elab.async false
set_option maxRecDepth 100000
set_option maxHeartbeats 40000000
namespace Mine

inductive Wheel : Nat → Nat → List Int → Prop
  | a : Wheel 21 17 [0, 1, 6, 8, 18]
  | b : Wheel 7 5 [0, 1, 3]
  | c : Wheel 23 21 [1, 2, 3, 4, 6, 8, 9, 12, 13, 16, 18]

structure StopW (p : Prop) : Prop where
  out : p

theorem m3 (x : Int) : x.fmod 3 = 0 ∨ x.fmod 3 = 1 ∨ x.fmod 3 = 2 := by
  rw [Int.fmod_eq_emod_of_nonneg x (by decide)]; omega

abbrev tupO (v b : Nat) (tv tb : Tok) (P : Addr) : Obj := { cls := .type "tuple", data := .seq #[.int (v : Int) tv, .int (b : Int) tb, .ref P] }

section
variable {w : World} {A : Around} {E : Value → Shared → Prop} {s : Shared} {h₀ : Heap} {L Wa D1 D2 D3 P1 P2 P3 : Addr} {news : List (Addr × Obj)} {x : Int} {t a1 a2 b1 b2 c1 c2 : Tok} {n n1 n2 n3 : Nat} {pv1 pv2 pv3 : List Value} {value slice : PySem.Expr} {Q : Value → Shared → Prop}
theorem wheel_sub (N : News h₀ L s.heap news) (hW : (Wa, PySem.W.listOf #[.ref D1, .ref D2, .ref D3] n) ∈ news)
    (h1 : (D1, tupO 21 17 a1 a2 P1) ∈ news) (h2 : (D2, tupO 7 5 b1 b2 P2) ∈ news) (h3 : (D3, tupO 23 21 c1 c2 P3) ∈ news)
    (q1 : (P1, PySem.W.listOf pv1.toArray n1) ∈ news) (q2 : (P2, PySem.W.listOf pv2.toArray n2) ∈ news) (q3 : (P3, PySem.W.listOf pv3.toArray n3) ∈ news)
    (i1 : IntsAre pv1 [0, 1, 6, 8, 18]) (i2 : IntsAre pv2 [0, 1, 3]) (i3 : IntsAre pv3 [1, 2, 3, 4, 6, 8, 9, 12, 13, 16, 18])
    (lo : Nat) (l1 : @LT.lt Nat _ lo P1 ∧ @LT.lt Nat _ P1 D1) (l2 : @LT.lt Nat _ lo P2 ∧ @LT.lt Nat _ P2 D2) (l3 : @LT.lt Nat _ lo P3 ∧ @LT.lt Nat _ P3 D3)
    (h : StopW (∀ v b tv tb D P n pv ps, (@LT.lt Nat _ lo P ∧ @LT.lt Nat _ P D) → Wheel v b ps → IntsAre pv ps → (D, tupO v b tv tb P) ∈ news → (P, PySem.W.listOf pv.toArray n) ∈ news → Q (.ref D) s))
    (hs : ∀ k : Int, subscripted slice false (.ref Wa) (.int k t) = operate [.ref Wa, .int k t] (getItem (.ref Wa) (.int k t))) :
    wpAny (model PG w) A (subscriptTail value slice (.ref Wa) (.int (x.fmod 3) t)) Q E s := by
  have hl : s.heap.IsList Wa #[.ref D1, .ref D2, .ref D3] := ⟨_, (N _ hW).1, rfl, _, rfl⟩
  have go : ∀ (k : Int) (D : Addr), 0 ≤ k → k < 2 ^ 63 → (#[Value.ref D1, .ref D2, .ref D3])[k.toNat]? = some (.ref D) → Q (.ref D) s → wpAny (model PG w) A (subscriptTail value slice (.ref Wa) (.int k t)) Q E s := fun k D h0 hf hx hQ =>
    tail_any hl.typeIs slot_list_getitem.lookup (wpAny_getItem_list hl h0 hf hx hQ) (hs k)
  rcases m3 x with e | e | e
  · rw [e]; exact go 0 D1 (by decide) (by decide) rfl (h.out _ _ _ _ _ _ _ _ _ l1 .a i1 h1 q1)
  · rw [e]; exact go 1 D2 (by decide) (by decide) rfl (h.out _ _ _ _ _ _ _ _ _ l2 .b i2 h2 q2)
  · rw [e]; exact go 2 D3 (by decide) (by decide) rfl (h.out _ _ _ _ _ _ _ _ _ l3 .c i3 h3 q3)
theorem news_five {L : Addr} {h : Heap} {p1 p2 p3 p4 p5 : Addr × Obj} (N : News h₀ L h news) (h1 : p1 ∈ news) (h2 : p2 ∈ news) (h3 : p3 ∈ news) (h4 : p4 ∈ news) (h5 : p5 ∈ news) : News h₀ L h [p1, p2, p3, p4, p5] := fun p hp => by
  simp only [List.mem_cons, List.not_mem_nil, or_false] at hp
  rcases hp with rfl | rfl | rfl | rfl | rfl <;> exact N _ (by assumption)
end
end Mine
end
section
open PySem PySem.W PyProof.Rows PySem.Calls PySem.Spec
set_option Elab.async false
set_option maxRecDepth 100000
set_option maxHeartbeats 40000000
namespace Mine
open PyProof.Rows.LCg (NsObj lst Off3)

section
variable {w : World} {A : Around} {h₀ : Heap} {L : Addr} {m : Str → Option Value} {env : Env} {elt : PySem.Expr} {ifs : List PySem.Expr} {x : Str} {scope : Scope} {cl : List (Str × Addr)} {s₁ : Shared} {all news : List (Addr × Obj)} {ax : Addr} {ws : List Value} {k : Nat} {body : List Stmt} {Q : Flow → Shared → Prop}

theorem news_sub {h : Heap} (N : News h₀ L h all) (hs : ∀ p ∈ news, p ∈ all) : News h₀ L h news := fun p hp => N p (hs p hp)

theorem fsrc_list (J : Nat → (Str → Option Value) → List (Addr × Obj) → Prop) (hh : A.handled = none) (F : Fr h₀ env.locals s₁.heap m) (N : News h₀ env.locals s₁.heap all) (hb : AllBare s₁.gens) (hsub : ∀ p ∈ news, p ∈ all)
    (hm : (ax, PySem.W.listOf ws.toArray k) ∈ news) (hJ : ∀ i m nw, J i m nw → (ax, PySem.W.listOf ws.toArray k) ∈ nw) (h0 : J 0 m news) (step : FStep w A h₀ env.locals env x body s₁ ws.length (fun i v => ws[i]? = some v) J)
    (fin : ∀ h g tk m' nw, AllBare g → Fr h₀ env.locals h m' → News h₀ env.locals h nw → J ws.length m' nw → Q .next { s₁ with heap := h, gens := g, toks := tk }) : FSrc w A h₀ env x body Q (.ref ax) s₁ := by
  refine ⟨ws.toArray.size, fun i v => ws.toArray[i]? = some v, _, J, m, news, hh, F, news_sub N hsub, hb, .list ax ws.toArray k rfl hm, hJ, h0, ?_, ?_⟩
  · simp only [List.size_toArray, List.getElem?_toArray]; exact step
  · simp only [List.size_toArray]; exact fin

theorem fsrc_range {r : Addr} {a b c : Int} {t u v : Tok} {n : Nat} (J : Nat → (Str → Option Value) → List (Addr × Obj) → Prop) (hh : A.handled = none) (F : Fr h₀ env.locals s₁.heap m) (N : News h₀ env.locals s₁.heap all) (hb : AllBare s₁.gens) (hsub : ∀ p ∈ news, p ∈ all)
    (hr : IsRange s₁.heap r a b c t u v) (hsm : Builtin.Range.small a b c = true) (hn : Builtin.Range.rangeSize a b c = ((n : Nat) : Int)) (h0 : J 0 m news) (step : FStep w A h₀ env.locals env x body s₁ n (fun i v => ∃ t, v = .int (a + i * c) t) J)
    (fin : ∀ h g tk m' nw, AllBare g → Fr h₀ env.locals h m' → News h₀ env.locals h nw → J n m' nw → Q .next { s₁ with heap := h, gens := g, toks := tk }) : FSrc w A h₀ env x body Q (.ref r) s₁ :=
  ⟨n, _, _, J, m, news, hh, F, news_sub N hsub, hb, .range r a b c t u v n rfl hr hsm hn, fun _ _ _ _ => trivial, h0, step, fin⟩

theorem csrc_list {Fin : Shared → List Value → List (Addr × Obj) → Nat → Prop} (J : Nat → List Value → List (Addr × Obj) → Prop) (hh : A.handled = none) (F : Fr h₀ L s₁.heap m) (N : News h₀ L s₁.heap all) (hb : AllBare s₁.gens) (hsub : ∀ p ∈ news, p ∈ all)
    (hm : (ax, PySem.W.listOf ws.toArray k) ∈ news) (hsz : ws.length ≤ sizeLine) (hJ : ∀ i ys nw, J i ys nw → (ax, PySem.W.listOf ws.toArray k) ∈ nw) (h0 : J 0 [] news)
    (step : CStep w A h₀ L m env ifs elt x scope cl s₁ ws.length (fun i v => ws[i]? = some v) fun i ys nw _ => J i ys nw) (fin : ∀ ys nw, J ws.length ys nw → ∀ t, Fin s₁ ys nw t) : CSrc w A h₀ L m env ifs elt x scope cl Fin (.ref ax) s₁ := by
  refine ⟨ws.toArray.size, fun i v => ws.toArray[i]? = some v, _, fun i ys nw _ => J i ys nw, news, hh, F, news_sub N hsub, hb, hsz, .list ax ws.toArray k rfl hm, fun i ys nw _ => hJ i ys nw, fun _ _ _ _ _ _ x => x, h0, ?_, ?_⟩
  · simp only [List.size_toArray, List.getElem?_toArray]; exact step
  · simp only [List.size_toArray]; exact fun ys nw t x => fin ys nw x t

theorem csrc_range {Fin : Shared → List Value → List (Addr × Obj) → Nat → Prop} {r : Addr} {a b c : Int} {t u v : Tok} {n : Nat} (J : Nat → List Value → List (Addr × Obj) → Prop) (hh : A.handled = none) (F : Fr h₀ L s₁.heap m) (N : News h₀ L s₁.heap all) (hb : AllBare s₁.gens) (hsub : ∀ p ∈ news, p ∈ all)
    (hr : IsRange s₁.heap r a b c t u v) (hsm : Builtin.Range.small a b c = true) (hn : Builtin.Range.rangeSize a b c = ((n : Nat) : Int)) (hsz : n ≤ sizeLine) (h0 : J 0 [] news)
    (step : CStep w A h₀ L m env ifs elt x scope cl s₁ n (fun i v => ∃ t, v = .int (a + i * c) t) fun i ys nw _ => J i ys nw) (fin : ∀ ys nw, J n ys nw → ∀ t, Fin s₁ ys nw t) : CSrc w A h₀ L m env ifs elt x scope cl Fin (.ref r) s₁ :=
  ⟨n, _, _, fun i ys nw _ => J i ys nw, news, hh, F, news_sub N hsub, hb, hsz, .range r a b c t u v n rfl hr hsm hn, fun _ _ _ _ _ => trivial, fun _ _ _ _ _ _ x => x, h0, step, fun ys nw t x => fin ys nw x t⟩

theorem CEnd.intro {h' : Heap} {I C D : Addr} {oI oC oD : Obj} {J : List (Addr × Obj) → Nat → Prop} {s : Shared} {g' : Array GenState} {tk' : Nat} {nw : List (Addr × Obj)} (hb : AllBare g') (F : Fr h₀ L h' m) (N : News h₀ L h' all)
    (h1 : (I, oI) ∈ all) (h2 : (C, oC) ∈ all) (h3 : (D, oD) ∈ all) (h4 : ∀ p ∈ nw, p ∈ all) (off : Off3 I C D nw) (hJ : J nw tk') : CEnd h₀ L m I C D oI oC oD J s { s with heap := h', gens := g', toks := tk' } :=
  ⟨h', g', tk', nw, rfl, hb, F, fun p hp => by
    rcases List.mem_cons.mp hp with rfl | hp
    · exact N _ h1
    · rcases List.mem_cons.mp hp with rfl | hp
      · exact N _ h2
      · rcases List.mem_cons.mp hp with rfl | hp
        · exact N _ h3
        · exact N _ (h4 p hp), off, hJ⟩

theorem ints_snoc {x : Int} {t : Tok} : ∀ {vs : List Value} {ns : List Int}, IntsAre vs ns → IntsAre (vs ++ [.int x t]) (ns ++ [x])
  | _, _, .nil => .cons x t .nil
  | _, _, .cons i u h => .cons i u (ints_snoc h)

theorem ints_nth {vs : List Value} {ns : List Int} (h : IntsAre vs ns) {i : Nat} {v : Value} (e : vs[i]? = some v) : ∃ n t, v = .int n t ∧ ns[i]? = some n := by
  induction h generalizing i with
  | nil => simp at e
  | cons a u h ih =>
    cases i with
    | zero => simp at e; exact ⟨a, u, e.symm, rfl⟩
    | succ j => simpa using ih (by simpa using e)
end

structure Good (v k : Nat) (ps : List Int) : Prop where
  len : ps.length = k
  nodup : ps.Nodup
  bnd : ∀ p ∈ ps, 0 ≤ p ∧ p < v

theorem Wheel.good {v b : Nat} {ps : List Int} (h : Wheel v b ps) : Good v ps.length ps := by
  cases h <;> exact ⟨rfl, by decide, by decide⟩

/-- the free places below `n` -/
def freeTo (ps : List Int) : Nat → List Int
  | 0 => []
  | n + 1 => if ps.contains (n : Int) then freeTo ps n else freeTo ps n ++ [(n : Int)]

theorem freeTo_mem {ps : List Int} {x : Int} : ∀ {n : Nat}, x ∈ freeTo ps n → x ∉ ps ∧ 0 ≤ x ∧ x < n
  | 0, h => by simp [freeTo] at h
  | n + 1, h => by
    unfold freeTo at h
    split at h
    · have := freeTo_mem h; exact ⟨this.1, this.2.1, by omega⟩
    · rename_i hc
      rcases List.mem_append.mp h with h | h
      · have := freeTo_mem h; exact ⟨this.1, this.2.1, by omega⟩
      · obtain rfl := List.mem_singleton.mp h
        refine ⟨fun hm => hc (by simpa using hm), by omega, by omega⟩

theorem freeTo_len {ps : List Int} : ∀ {n : Nat}, n ≤ (freeTo ps n).length + ps.length + 0 * n ∨ True := by intro n; exact .inr trivial

end Mine
end
section
open PySem PySem.W PyProof.Rows PySem.Calls PySem.Spec
set_option Elab.async false
set_option maxRecDepth 100000
set_option maxHeartbeats 40000000
namespace Mine

section
variable {w : World} {A : Around} {E : Value → Shared → Prop} {s : Shared} {h₀ : Heap} {L a : Addr} {m : Str → Option Value} {news news' : List (Addr × Obj)} {vs : List Value} {ns : List Int} {n k : Nat} {x y i : Int} {t u : Tok} {value slice : PySem.Expr}

theorem notin_ints {Q : Value → Shared → Prop} (N : News h₀ L s.heap news) (hm : (a, PySem.W.listOf vs.toArray n) ∈ news) (hi : IntsAre vs ns) (h : Q (.bool (!ns.contains i)) s) :
    wpAny (model PG w) A (compareOp .NotIn (.int i t) (.ref a)) Q E s :=
  notin_list_ints (PySem.IsL.isList (n := n) (N _ hm).1) hi (by
    have : (ns.any fun x => x == i) = ns.contains i := by
      rw [List.contains_eq_any_beq]; congr 1; funext x; rw [Bool.beq_comm]
    rw [this]; exact h)

theorem len_E {Q : Value → Shared → Prop} (N : News h₀ L s.heap news) (hm : (a, PySem.W.listOf vs.toArray n) ∈ news) (hk : vs.length = k) (hs : k ≤ 1000) (h : ∀ t tk, Q (.int (k : Int) t) { s with toks := tk }) :
    wpAny (model PG w) A (call (.builtin "len") [.ref a]) Q E s := by
  have e : vs.toArray.size = k := by rw [List.size_toArray]; exact hk
  exact len_list (PySem.IsL.isList (n := n) (N _ hm).1) (by rw [e]; omega) (by rw [e]; exact h _ _)

theorem fdiv_E {Q : Value → Shared → Prop} (h0 : 0 < y) (h1 : y ≤ 1000) (h : ∀ t tk, Q (.int (x.fdiv y) t) { s with toks := tk }) : wpAny (model PG w) A (binaryOp .FloorDiv (.int x t) (.int y u)) Q E s :=
  floordiv_int (by omega) (h _ _) (.inl (PyProof.noPylong_small (by omega)))

theorem fmod_E {Q : Value → Shared → Prop} (h0 : 0 < y) (h : ∀ t tk, Q (.int (x.fmod y) t) { s with toks := tk }) : wpAny (model PG w) A (binaryOp .Mod (.int x t) (.int y u)) Q E s :=
  mod_int (by omega) (h _ _)

theorem sub_mod {Q : Value → Shared → Prop} (N : News h₀ L s.heap news) (hm : (a, PySem.W.listOf vs.toArray n) ∈ news) (hi : IntsAre vs ns) (hk : ns.length = k) (h1 : 0 < k) (h2 : k ≤ 1000) (h : ∀ t, Q (.int (ns.getD (x.fmod (k : Int)).toNat 0) t) s)
    (hs : subscripted slice false (.ref a) (.int (x.fmod (k : Int)) u) = operate [.ref a, .int (x.fmod (k : Int)) u] (getItem (.ref a) (.int (x.fmod (k : Int)) u))) :
    wpAny (model PG w) A (subscriptTail value slice (.ref a) (.int (x.fmod (k : Int)) u)) Q E s := by
  have l1 := Int.fmod_nonneg_of_pos x (b := (k : Int)) (by omega)
  have l2 := Int.fmod_lt_of_pos x (b := (k : Int)) (by omega)
  exact ksa_sub N hm hi l1 (by omega) (by omega) h hs

theorem set_mod {Q : Unit → Shared → Prop} (F : Fr h₀ L s.heap m) (N : News h₀ L s.heap news) (U : Upd a (PySem.W.listOf vs.toArray n) (PySem.W.listOf (vs.set (x.fmod (k : Int)).toNat (.int y u)).toArray n) news news') (hi : IntsAre vs ns) (hk : ns.length = k) (h1 : 0 < k) (h2 : k ≤ 1000)
    (h : ∀ h', Fr h₀ L h' m → News h₀ L h' news' → IntsAre (vs.set (x.fmod (k : Int)).toNat (.int y u)) (ns.set (x.fmod (k : Int)).toNat y) → Q () { s with heap := h' }) :
    wpAny (model PG w) A (setItem (.ref a) (.int (x.fmod (k : Int)) t) (.int y u)) Q E s := by
  have l1 := Int.fmod_nonneg_of_pos x (b := (k : Int)) (by omega)
  have l2 := Int.fmod_lt_of_pos x (b := (k : Int)) (by omega)
  exact ksa_set F N U hi l1 (by omega) (by omega) fun h' F' N' i _ _ => h h' F' N' i
end

theorem nodup_set {ps : List Int} {x : Int} (h : ps.Nodup) (hx : x ∉ ps) : ∀ j, (ps.set j x).Nodup := by
  induction ps with
  | nil => intro j; simp
  | cons p ps ih =>
    intro j
    rw [List.nodup_cons] at h
    cases j with
    | zero => simp only [List.set_cons_zero, List.nodup_cons]; exact ⟨fun hm => hx (List.mem_cons_of_mem _ hm), h.2⟩
    | succ j =>
      simp only [List.set_cons_succ, List.nodup_cons]
      refine ⟨fun hm => ?_, ih h.2 (fun hm => hx (List.mem_cons_of_mem _ hm)) j⟩
      rcases List.mem_or_eq_of_mem_set hm with q | q
      · exact h.1 q
      · exact hx (q ▸ List.mem_cons_self)

theorem Good.set {v k : Nat} {ps : List Int} {x : Int} (h : Good v k ps) (hx : x ∉ ps) (h0 : 0 ≤ x) (h1 : x < v) (j : Nat) : Good v k (ps.set j x) :=
  ⟨by rw [List.length_set]; exact h.len, nodup_set h.nodup hx j, fun p hp => by
    rcases List.mem_or_eq_of_mem_set hp with q | q
    · exact h.bnd p q
    · subst q; exact ⟨h0, h1⟩⟩

theorem count_up {ps : List Int} {n : Nat} : ps.countP (fun p => decide (p < (n : Int))) + (if ps.contains (n : Int) then 1 else 0) ≤ ps.countP (fun p => decide (p < ((n + 1 : Nat) : Int))) := by
  induction ps with
  | nil => simp
  | cons p ps ih =>
    simp only [List.countP_cons, List.contains_cons, decide_eq_true_eq] at ih ⊢
    by_cases h1 : p < (n : Int)
    · have h2 : p < ((n + 1 : Nat) : Int) := by omega
      have h3 : ((n : Int) == p) = false := by simp; omega
      simp only [h1, h2, h3, if_true, Bool.false_or]; omega
    · by_cases h2 : p = (n : Int)
      · subst h2
        have h3 : (n : Int) < ((n + 1 : Nat) : Int) := by omega
        simp only [h1, h3, if_true, if_false, beq_self_eq_true, Bool.true_or]
        split at ih <;> omega
      · have h3 : ((n : Int) == p) = false := by simp; omega
        have h4 : ¬ p < ((n + 1 : Nat) : Int) := by omega
        simp only [h1, h3, h4, if_false, Bool.false_or]; omega

theorem free_len {ps : List Int} : ∀ n : Nat, n ≤ (freeTo ps n).length + ps.countP (fun p => decide (p < (n : Int)))
  | 0 => Nat.zero_le _
  | n + 1 => by
    have ih := free_len (ps := ps) n
    have c := count_up (ps := ps) (n := n)
    unfold freeTo
    split
    · rename_i h; rw [if_pos h] at c; omega
    · rename_i h; rw [if_neg h] at c; rw [List.length_append, List.length_singleton]; omega

theorem free_le {ps : List Int} : ∀ n : Nat, (freeTo ps n).length ≤ n
  | 0 => Nat.le_refl _
  | n + 1 => by
    have := free_le (ps := ps) n
    unfold freeTo
    split
    · omega
    · rw [List.length_append, List.length_singleton]; omega

theorem free_pos {ps : List Int} {v : Nat} (h : ps.length < v) : 0 < (freeTo ps v).length := by
  have := free_len (ps := ps) v
  have c := List.countP_le_length (p := fun p => decide (p < (v : Int))) (l := ps)
  omega

theorem Wheel.kv {v b : Nat} {ps : List Int} (h : Wheel v b ps) : 0 < ps.length ∧ ps.length < v ∧ ps.length ≤ 11 ∧ v ≤ 23 := by cases h <;> decide

theorem Good.step {v k : Nat} {ps : List Int} (h : Good v k ps) (hk : k < v) {i : Int} (j : Nat) : Good v k (ps.set j ((freeTo ps v).getD (i.fmod ((freeTo ps v).length : Int)).toNat 0)) := by
  have hp : 0 < (freeTo ps v).length := free_pos (by rw [h.len]; exact hk)
  have l1 := Int.fmod_nonneg_of_pos i (b := ((freeTo ps v).length : Int)) (by omega)
  have l2 := Int.fmod_lt_of_pos i (b := ((freeTo ps v).length : Int)) (by omega)
  have hm : (freeTo ps v).getD (i.fmod ((freeTo ps v).length : Int)).toNat 0 ∈ freeTo ps v := by
    have hl : (i.fmod ((freeTo ps v).length : Int)).toNat < (freeTo ps v).length := by omega
    rw [List.getD_eq_getElem?_getD, List.getElem?_eq_getElem hl]
    exact List.getElem_mem _
  have f := freeTo_mem hm
  exact h.set f.1 f.2.1 f.2.2 j
end Mine
end
section
open PySem PySem.W PyProof.Rows PySem.Calls PySem.Spec
set_option Elab.async false
set_option maxRecDepth 100000
set_option maxHeartbeats 40000000
namespace Mine
theorem Wheel.bb {v b : Nat} {ps : List Int} (h : Wheel v b ps) : b ≤ 23 := by cases h <;> decide
def Zero (v : Nat) (qs : List Int) : Prop := ∃ b ps, Wheel v b ps ∧ Good v ps.length qs ∧ qs.sum % (v : Int) = 0

theorem sum_turn {v t : Int} (hv : 0 < v) : ∀ l : List Int, (l.map fun p => (p + t).fmod v).sum % v = (l.sum + l.length * t) % v
  | [] => by simp
  | p :: l => by
    have ih := sum_turn (t := t) hv l
    rw [List.map_cons, List.sum_cons, List.sum_cons, Int.fmod_eq_emod_of_nonneg _ (by omega), Int.add_emod, Int.emod_emod_of_dvd _ (Int.dvd_refl v), ih, ← Int.add_emod, List.length_cons]
    congr 1
    rw [Int.natCast_add, Int.add_mul]; omega

theorem nodup_turn {v : Nat} {t : Int} {l : List Int} (inj : ∀ p q : Int, 0 ≤ p → p < v → 0 ≤ q → q < v → (p + t).fmod v = (q + t).fmod v → p = q) (hb : ∀ p ∈ l, 0 ≤ p ∧ p < v) (h : l.Nodup) : (l.map fun p => (p + t).fmod v).Nodup := by
  induction l with
  | nil => simp
  | cons p l ih =>
    rw [List.nodup_cons] at h
    rw [List.map_cons, List.nodup_cons]
    refine ⟨fun hm => ?_, ih (fun q hq => hb q (List.mem_cons_of_mem _ hq)) h.2⟩
    obtain ⟨q, hq, e⟩ := List.mem_map.mp hm
    have b1 := hb p List.mem_cons_self
    have b2 := hb q (List.mem_cons_of_mem _ hq)
    exact h.1 (inj q p b2.1 b2.2 b1.1 b1.2 e ▸ hq)

theorem zero_turn {v b : Nat} {ps ps' : List Int} (hW : Wheel v b ps) (hg : Good v ps.length ps') : Zero v (ps'.map fun p => (p + (-ps'.sum * (b : Int)).fmod (v : Int)).fmod (v : Int)) := by
  have hv : (0 : Int) < v := by cases hW <;> decide
  refine ⟨b, ps, hW, ⟨by rw [List.length_map, hg.len], nodup_turn ?_ hg.bnd hg.nodup, fun p hp => ?_⟩, ?_⟩
  · intro p q h1 h2 h3 h4 e
    have fe : ∀ a : Int, a.fmod (v : Int) = a % (v : Int) := fun a => Int.fmod_eq_emod_of_nonneg a (by omega)
    simp only [fe] at e
    cases hW <;> omega
  · obtain ⟨q, _, rfl⟩ := List.mem_map.mp hp
    exact ⟨Int.fmod_nonneg_of_pos _ hv, Int.fmod_lt_of_pos _ hv⟩
  · rw [sum_turn hv, hg.len, Int.fmod_eq_emod_of_nonneg _ (by omega)]
    generalize ps'.sum = S
    cases hW <;> (simp only [List.length_cons, List.length_nil] at *; omega)
end Mine
end
section
open PySem PySem.W PyProof.Rows PySem.Calls PySem.Flt
set_option Elab.async false
set_option maxRecDepth 100000
set_option maxHeartbeats 40000000
namespace Mine
def fl (n : Int) : UInt64 := Float64.ofInt n
def FlAre (vs : List Value) (hs : List Int) : Prop := vs.length = hs.length ∧ ∀ (i : Nat) (h : Int), hs[i]? = some h → ∃ t, vs[i]? = some (Value.float (fl h) t)

section
variable {w : World} {A : Around} {E : Value → Shared → Prop} {s : Shared} {h₀ : Heap} {L a : Addr} {m : Str → Option Value} {news : List (Addr × Obj)} {vs : List Value} {hs : List Int} {n k i : Nat} {t u : Tok} {value slice : PySem.Expr} {Q : Value → Shared → Prop}
theorem len_B (F : Fr h₀ L s.heap m) (hb : h₀.get? a = some (PySem.W.listOf vs.toArray n)) (hk : vs.length = k) (hs : k ≤ 1000) (h : ∀ t tk, Q (.int (k : Int) t) { s with toks := tk }) :
    wpAny (model PG w) A (call (.builtin "len") [.ref a]) Q E s := by
  have e : vs.toArray.size = k := by rw [List.size_toArray]; exact hk
  exact len_list (PySem.IsL.isList (n := n) (F.keep _ _ hb)) (by rw [e]; omega) (by rw [e]; exact h _ _)
theorem fl_item (hl : s.heap.IsList a vs.toArray) (hf : FlAre vs hs) (hi : i < hs.length) (hsm : i < 1000) (h : ∀ t, Q (.float (fl (hs.getD i 0)) t) s)
    (hsub : subscripted slice false (.ref a) (.int (i : Int) u) = operate [.ref a, .int (i : Int) u] (getItem (.ref a) (.int (i : Int) u))) :
    wpAny (model PG w) A (subscriptTail value slice (.ref a) (.int (i : Int) u)) Q E s := by
  have e : hs[i]? = some (hs.getD i 0) := by rw [List.getD_eq_getElem?_getD, List.getElem?_eq_getElem hi]; rfl
  obtain ⟨t, ht⟩ := hf.2 i _ e
  exact tail_any hl.typeIs slot_list_getitem.lookup (wpAny_getItem_list hl (by omega) (by omega) (by simpa using ht) (h t)) hsub
theorem fl_B (F : Fr h₀ L s.heap m) (hb : h₀.get? a = some (PySem.W.listOf vs.toArray n)) (hf : FlAre vs hs) (hi : i < hs.length) (hsm : i < 1000) (h : ∀ t, Q (.float (fl (hs.getD i 0)) t) s)
    (hsub : subscripted slice false (.ref a) (.int (i : Int) u) = operate [.ref a, .int (i : Int) u] (getItem (.ref a) (.int (i : Int) u))) :
    wpAny (model PG w) A (subscriptTail value slice (.ref a) (.int (i : Int) u)) Q E s :=
  fl_item (PySem.IsL.isList (n := n) (F.keep _ _ hb)) hf hi hsm h hsub
end

/-- one pair of the count -/
def stepI (v a b : Int) : Int := (if v - (a - b).fmod v < (a - b).fmod v then v - (a - b).fmod v else (a - b).fmod v) - 1
def bump (cs : List Int) (v a b : Int) : List Int := cs.set (stepI v a b).toNat (cs.getD (stepI v a b).toNat 0 + 1)
theorem stepI_sub (v x y : Int) : stepI v x y = stepI v (x - y) 0 := by unfold stepI; rw [Int.sub_zero]
def rngB (v : Nat) : Bool := (List.range (2 * v)).all fun p => p == v || (decide (0 ≤ stepI (v : Int) ((p : Int) - (v : Int)) 0) && decide (stepI (v : Int) ((p : Int) - (v : Int)) 0 < ((v / 2 : Nat) : Int))) || p == 0
theorem rng_look : rngB 21 = true ∧ rngB 7 = true ∧ rngB 23 = true := by decide +kernel
theorem step_rng {v b : Nat} {ps : List Int} (hW : Wheel v b ps) {x y : Int} (h1 : 0 ≤ x) (h2 : x < v) (h3 : 0 ≤ y) (h4 : y < v) (hne : x ≠ y) : 0 ≤ stepI (v : Int) x y ∧ stepI (v : Int) x y < ((v / 2 : Nat) : Int) := by
  have h : rngB v = true := by
    cases hW with
    | a => exact rng_look.1
    | b => exact rng_look.2.1
    | c => exact rng_look.2.2
  obtain ⟨p, hp⟩ : ∃ p : Nat, x - y + v = (p : Int) := ⟨(x - y + v).toNat, by omega⟩
  have e : x - y = (p : Int) - (v : Int) := by omega
  have := List.all_eq_true.mp h p (List.mem_range.mpr (by omega))
  rw [Bool.or_eq_true, Bool.or_eq_true, Bool.and_eq_true] at this
  rw [stepI_sub, e]
  rcases this with (e1 | e1) | e1
  · exact absurd (eq_of_beq e1) (by omega)
  · exact ⟨of_decide_eq_true e1.1, of_decide_eq_true e1.2⟩
  · exact absurd (eq_of_beq e1) (by omega)

section
variable {w : World} {A : Around} {E : Value → Shared → Prop} {s : Shared} {h₀ : Heap} {L D : Addr} {m : Str → Option Value} {news news' : List (Addr × Obj)} {vs : List Value} {ns : List Int} {n k : Nat} {v x y z : Int} {t u : Tok}
theorem get_step {Q : Value → Shared → Prop} (N : News h₀ L s.heap news) (hm : (D, PySem.W.listOf vs.toArray n) ∈ news) (hi : IntsAre vs ns) (hk : ns.length = k) (h0 : 0 ≤ stepI v x y) (h1 : stepI v x y < (k : Int)) (h2 : k ≤ 1000) (h : ∀ t, Q (.int (ns.getD (stepI v x y).toNat 0) t) s) :
    wpAny (model PG w) A (getItem (.ref D) (.int (stepI v x y) u)) Q E s := ksa_get N hm hi h0 (by omega) (by omega) h
theorem set_step {Q : Unit → Shared → Prop} (F : Fr h₀ L s.heap m) (N : News h₀ L s.heap news) (U : Upd D (PySem.W.listOf vs.toArray n) (PySem.W.listOf (vs.set (stepI v x y).toNat (.int z u)).toArray n) news news') (hi : IntsAre vs ns) (hk : ns.length = k) (h0 : 0 ≤ stepI v x y) (h1 : stepI v x y < (k : Int)) (h2 : k ≤ 1000)
    (h : ∀ h', Fr h₀ L h' m → News h₀ L h' news' → IntsAre (vs.set (stepI v x y).toNat (.int z u)) (ns.set (stepI v x y).toNat z) → Q () { s with heap := h' }) :
    wpAny (model PG w) A (setItem (.ref D) (.int (stepI v x y) t) (.int z u)) Q E s :=
  ksa_set F N U hi h0 (by omega) (by omega) fun h' F' N' i _ _ => h h' F' N' i
end
def inner (hs : List Int) (v : Int) (i : Nat) : Nat → List Int → List Int
  | 0, cs => cs
  | j + 1, cs => bump (inner hs v i j cs) v (hs.getD i 0) (hs.getD j 0)
def outer (hs : List Int) (v : Nat) : Nat → List Int
  | 0 => List.replicate (v / 2) 0
  | i + 1 => inner hs v i i (outer hs v i)
def countsF (hs : List Int) (v : Nat) : List Int := outer hs v hs.length

theorem inner_len {hs : List Int} {v : Int} {i : Nat} : ∀ {j : Nat} {cs : List Int}, (inner hs v i j cs).length = cs.length
  | 0, _ => rfl
  | j + 1, cs => by unfold inner bump; rw [List.length_set]; exact inner_len
theorem outer_len {hs : List Int} {v : Nat} : ∀ {i : Nat}, (outer hs v i).length = v / 2
  | 0 => by simp [outer]
  | i + 1 => by unfold outer; rw [inner_len]; exact outer_len

theorem fl_sub : ∀ a < 24, ∀ b < 24, Float64.isFinite (Float64.sub (fl ((a : Nat) : Int)) (fl ((b : Nat) : Int))) = true ∧ toInt Float64.truncOf (Float64.sub (fl ((a : Nat) : Int)) (fl ((b : Nat) : Int))) = (a : Int) - (b : Int) := by
  decide +kernel
theorem flat_rep (v : Nat) : (List.replicate ((v : Int).fdiv 2).toNat [(0 : Int)]).flatten = List.replicate (v / 2) 0 := by
  have e : ((v : Int).fdiv 2).toNat = v / 2 := by
    rw [Int.fdiv_eq_ediv_of_nonneg _ (by decide)]; omega
  rw [e]
  induction v / 2 with
  | zero => rfl
  | succ n ih => rw [List.replicate_succ, List.flatten_cons, ih]; rfl

theorem ext3 {m : Str → Option Value} {a b c : Str} {u v x : Value} (h1 : m a = some u) (h2 : m b = some v) (h3 : m c = some x) : m = fun z => if z = a then some u else if z = b then some v else if z = c then some x else m z := by
  funext z
  by_cases e1 : z = a
  · rw [if_pos e1, e1, h1]
  · rw [if_neg e1]
    by_cases e2 : z = b
    · rw [if_pos e2, e2, h2]
    · rw [if_neg e2]
      by_cases e3 : z = c
      · rw [if_pos e3, e3, h3]
      · rw [if_neg e3]
theorem ext4 {m : Str → Option Value} {a b c d : Str} {u v x y : Value} (h1 : m a = some u) (h2 : m b = some v) (h3 : m c = some x) (h4 : m d = some y) : m = fun z => if z = a then some u else if z = b then some v else if z = c then some x else if z = d then some y else m z := by
  funext z
  by_cases e1 : z = a
  · rw [if_pos e1, e1, h1]
  · rw [if_neg e1]
    exact congrFun (ext3 h2 h3 h4) z
theorem at_int {hs : List Int} {v k : Nat} (hg : Good v k hs) {i : Nat} (hi : i < k) : hs.getD i 0 ∈ hs ∧ 0 ≤ hs.getD i 0 ∧ hs.getD i 0 < v := by
  have hl : i < hs.length := by rw [hg.len]; exact hi
  have hm : hs.getD i 0 ∈ hs := by
    rw [List.getD_eq_getElem?_getD, List.getElem?_eq_getElem hl]; exact List.getElem_mem _
  exact ⟨hm, hg.bnd _ hm⟩
theorem at_ne {hs : List Int} {v k : Nat} (hg : Good v k hs) {i j : Nat} (hi : i < k) (hj : j < i) : hs.getD i 0 ≠ hs.getD j 0 := by
  have hl : i < hs.length := by rw [hg.len]; exact hi
  have hl2 : j < hs.length := by omega
  rw [List.getD_eq_getElem?_getD, List.getD_eq_getElem?_getD, List.getElem?_eq_getElem hl, List.getElem?_eq_getElem hl2]
  intro e
  have := (List.getElem_inj hg.nodup).mp e
  omega
theorem fl_sub' {a b : Int} (h1 : 0 ≤ a) (h2 : a < 24) (h3 : 0 ≤ b) (h4 : b < 24) : Float64.isFinite (Float64.sub (fl a) (fl b)) = true ∧ toInt Float64.truncOf (Float64.sub (fl a) (fl b)) = a - b := by
  have := fl_sub a.toNat (by omega) b.toNat (by omega)
  rwa [Int.toNat_of_nonneg h1, Int.toNat_of_nonneg h3] at this
theorem range_ok : ∀ n < 24, Builtin.Range.small 0 ((n : Nat) : Int) 1 = true ∧ Builtin.Range.rangeSize 0 ((n : Nat) : Int) 1 = ((n : Nat) : Int) := by decide +kernel
end Mine
end
section
open PySem PySem.W PyProof.Rows PySem.Calls
namespace Mine
theorem anew_L1 {w : World} {A : Around} {E : Value → Shared → Prop} {Q : Bool → Shared → Prop} {s : Shared} (h : Q true s) : wpAny (model PG w) A (truthy (.bool true)) Q E s := by
  w_top off
  k_with_none
  first | (walk1; exact h) | exact wpAny_truthy_bool h
end Mine
end
section
open PySem PySem.W PyProof.Rows PySem.Calls
set_option Elab.async false
set_option maxRecDepth 100000
set_option maxHeartbeats 40000000
namespace Mine
theorem stopQ {p : Prop} (h : StopW p) : p := h.out

theorem stopQ' {w : World} {A : Around} {E : Value → Shared → Prop} {s : Shared} {a : Addr} {x : Int} {u : Tok} {value slice : PySem.Expr} {Q : Value → Shared → Prop} (h : StopW (wpAny (model PG w) A (subscriptTail value slice (.ref a) (.int (x.fmod 3) u)) Q E s)) : wpAny (model PG w) A (subscriptTail value slice (.ref a) (.int (x.fmod 3) u)) Q E s := h.out
theorem fr_back {h₀ h : Heap} {L : Addr} {m : Str → Option Value} {x y : Str} {v u : Value} (F : Fr h₀ L h (fun z => if z = x then some v else m z)) (e : m y = some u) : Fr h₀ L h (fun z => if z = x then some v else if z = y then some u else m z) := by
  have : (fun z => if z = x then some v else if z = y then some u else m z) = (fun z => if z = x then some v else m z) := by
    funext z; by_cases h1 : z = x
    · rw [if_pos h1, if_pos h1]
    · rw [if_neg h1, if_neg h1]; by_cases h2 : z = y
      · rw [if_pos h2, h2, e]
      · rw [if_neg h2]
  rw [this]; exact F
theorem fr_back0 {h₀ h : Heap} {L : Addr} {m : Str → Option Value} {y : Str} {u : Value} (F : Fr h₀ L h m) (e : m y = some u) : Fr h₀ L h (fun z => if z = y then some u else m z) := by
  have : (fun z => if z = y then some u else m z) = m := by
    funext z; by_cases h1 : z = y
    · rw [if_pos h1, h1, e]
    · rw [if_neg h1]
  rw [this]; exact F
abbrev tup2 (a b : Value) : Obj := { cls := .type "tuple", data := .seq #[a, b] }
def PlPost (h₀ : Heap) (r : Value) (h : Heap) : Prop :=
  ∃ D Pl tv n v vs qs, r = .ref D ∧ h₀.get? D = none ∧ h₀.get? Pl = none ∧ D ≠ Pl ∧ h.get? D = some (tup2 (.int ((v : Nat) : Int) tv) (.ref Pl)) ∧ h.get? Pl = some (PySem.W.listOf vs.toArray n) ∧ IntsAre vs qs ∧ Zero v qs
theorem places : ∀ (w : World) (l : Addr) (t1 : Tok) (vs : List Value) (xs : List Int) (_ : PySem.Challenge.rw_tr0033_01 = PySem.Challenge.rw_tr0033_01 ∧ hd.heap_39 = hd.heap_39) (hi : IntsAre vs xs) (hlen : xs.length ≤ 63),
    FnP w 93 [.ref l] 12 90 (fun h => h.IsList l vs.toArray) PlPost := by
  k_with_none
  k_with "exec For" => (k_here; (with_reducible show wpAny _ _ (exec (Stmt.For (Expr.Name _ _) _ _ [] _) _) _ _ _); k_dflt (apply for_any; (case _ => k_asm); (case _ => exact rfl); (case _ => exact rfl)))
  k_with "compareOp NotIn int ref" => (k_here; k_dflt (apply notin_ints; (case _ => k_asm); (case _ => k_mem); (case _ => assumption)))
  k_with "call builtin:len" => (k_here; k_dflt (apply len_E; (case _ => k_asm); (case _ => k_mem); (case _ => assumption); (case _ => omega)); intro _ _)
  k_with "binaryOp FloorDiv int int" => (k_here; k_dflt (apply fdiv_E; (case _ => omega); (case _ => omega)); intro _ _)
  k_with "binaryOp Mod int int" => (k_here; k_dflt (apply fmod_E; (case _ => omega)); intro _ _)
  k_with "subscriptTail Name BinOp ref int" => (k_here; k_dflt (apply sub_mod; (case _ => k_asm); (case _ => k_mem); (case _ => assumption); (case _ => first | assumption | exact rfl); (case _ => omega); (case _ => omega); rotate_left 1; (case _ => with_unfolding_all rfl); rotate_right 1); intro _)
  k_with "setItem ref int" => (k_here; k_dflt (apply set_mod; (case _ => k_asm); (case _ => k_asm); (case _ => k_upd); (case _ => assumption); (case _ => first | assumption | exact rfl); (case _ => omega); (case _ => omega)); intro _ _ _ _)
  k_with "subscriptTail Name BinOp ref int" => (k_here; with_reducible refine stopQ' ?_)
  k_with "eval ListComp" => (k_here; k_dflt (apply comp_eval; (case _ => k_asm); (case _ => with_unfolding_all rfl); (case _ => decide); (case _ => exact rfl); (case _ => decide); (case _ => exact rfl)))
  k_with "exec Assign cons ListComp" => (k_here; k_dflt (apply comp_assign; (case _ => k_asm); (case _ => with_unfolding_all rfl); (case _ => with_unfolding_all rfl); (case _ => decide); (case _ => exact rfl); (case _ => decide); (case _ => exact rfl); (case _ => exact rfl); (case _ => exact rfl)))
  k_fill
  intro w l t1 vs xs _ hi hlen
  refine' FnP.enterC (binds := [(Str.ofString "script", Value.ref l)]) ?k6 ?k7 ?k9 ?kB ?kD ?c2 ?c3 ?c4 ?_
  case k6 => k_dflt k_is
  case k7 => k_dflt k_is
  case k9 => exact rfl
  case kB => exact rfl
  case kD => decide +kernel
  case c2 => exact rfl
  case c3 => exact rfl
  case c4 => exact rfl
  intro A base outer s mean mg mb L h₁ tk cells B F X N Y T hh hdp hun hg hq
  obtain ⟨oc3, oc2, oc1, hE, e3, e2, e1⟩ := CellsAre.three Y
  subst hE
  clear Y
  cases A
  dsimp only at hh hdp hun
  subst hh
  try dsimp only
  w_strict (
    k_steps
    constructor

    k_dflt (refine' wheel_sub ?k0 ?k1 ?k2 ?k3 ?k4 ?k5 ?k6 ?k7 ?k8 ?k9 ?kA (L + 1 + 1 + 1) ?kC ?kD ?kE ?_ ?kB)
    case k0 => k_asm
    case k1 => k_mem
    case k2 => k_mem
    case k3 => k_mem
    case k4 => k_mem
    case k5 => k_mem
    case k6 => k_mem
    case k7 => k_mem
    case k8 => repeat constructor
    case k9 => repeat constructor
    case kA => repeat constructor
    case kB => intro _; with_unfolding_all rfl
    case kC => exact ⟨by k_dflt omega, by k_dflt omega⟩
    case kD => exact ⟨by k_dflt omega, by k_dflt omega⟩
    case kE => exact ⟨by k_dflt omega, by k_dflt omega⟩
    constructor
    intro v b tv tb D P nn pv ps hlo hW hi' hD hP
    have N5 := news_five (p3 := (L + 1 + 1 + 1, _)) (p4 := (L + 1 + 1, _)) (p5 := (L + 1, _)) (by k_asm) hD hP (by k_dflt k_mem) (by k_dflt k_mem) (by k_dflt k_mem)
    clear hD hP
    k_steps
    rename_i _ _ o1 d1 _ _ o2 d2 S ws h6 F6 N6 I6 C6 L6 l6
    refine fsrc_list (news := [(S, PySem.W.listOf ws.toArray 0), (P, PySem.W.listOf pv.toArray nn), (L + 1 + 1 + 1, oc3), (L + 1 + 1, o2), (L + 1, o1)]) (J := fun i m nw => m (Str.ofString "back") = some (.int (b : Int) tb) ∧ ∃ pv' ps', IntsAre pv' ps' ∧ Good v ps.length ps' ∧ nw = [(S, PySem.W.listOf ws.toArray 0), (P, PySem.W.listOf pv'.toArray nn), (L + 1 + 1 + 1, oc3), (L + 1 + 1, o2), (L + 1, o1)]) rfl F6 N6 (by assumption) ?q1 (.head _) ?q2 ⟨rfl, _, _, hi', hW.good, rfl⟩ ?q3 ?q4
    case q1 =>
      intro p hp
      simp only [List.mem_cons, List.not_mem_nil, or_false] at hp ⊢
      rcases hp with rfl | rfl | rfl | rfl | rfl <;> simp
    case q2 =>
      rintro i m nw ⟨_, _, _, _, _, rfl⟩
      exact List.mem_cons_self
    case q3 =>
      rintro i n m₁ nw I oI h g tk hlt hn ⟨hm, pv', ps', hi2, hg2, rfl⟩ hb' F9 N9 off9
      have F8 := fr_back F9 hm
      clear F9
      obtain ⟨num, tn, rfl, _⟩ := ints_nth (by assumption) hn
      k_steps
      refine csrc_range (n := v) (news := [(I, oI), (S, PySem.W.listOf ws.toArray 0), (P, PySem.W.listOf pv'.toArray nn), (L + 1 + 1 + 1, oc3), (L + 1 + 1, o2), (L + 1, o1)]) (J := fun i ys nw => IntsAre ys (freeTo ps' i) ∧ nw = [(I, oI), (S, PySem.W.listOf ws.toArray 0), (P, PySem.W.listOf pv'.toArray nn), (L + 1 + 1 + 1, oc3), (L + 1 + 1, o2), (L + 1, o1)]) rfl (by k_asm) (by k_asm) (by assumption) (fun p hp => hp) (by assumption) (by cases hW <;> decide) (by cases hW <;> decide) (by cases hW <;> decide) ⟨.nil, rfl⟩ ?r1 ?r2
      case r1 =>
        rintro j vj ys nw I' C' D' oI' oC' m7 h7 g7 tk7 E7 hj ⟨t7, hv7⟩ ⟨hys, rfl⟩ hC7 hx7 hb7 F7 N7 off7 n1 n2 n3
        rw [Int.zero_add, Int.mul_one] at hv7
        subst hv7
        refine wpAny_tests_one ?_
        k_steps
        all_goals (
          refine CEnd.intro (nw := [(I, oI), (S, PySem.W.listOf ws.toArray 0), (P, PySem.W.listOf pv'.toArray nn), (L + 1 + 1 + 1, oc3), (L + 1 + 1, o2), (L + 1, o1)]) hb7 (by k_asm) (by k_asm) (.head _) (.tail _ (.head _)) (.tail _ (.tail _ (.head _))) (fun p hp => .tail _ (.tail _ (.tail _ hp))) off7 ⟨?_, rfl⟩
          unfold freeTo
          first
            | (rw [if_neg (by simp_all)]; exact ints_snoc hys)
            | (rw [if_pos (by simp_all)]; exact hys))
      case r2 =>
        rintro ys nw ⟨hys, rfl⟩ tz D7 h7 g7 tk7 htz hb7 F7 N7 off7
        have z1 : @Ne Nat P D7 := off7 _ (.tail _ (.tail _ (.head _)))
        have z2 : @Ne Nat S D7 := off7 _ (.tail _ (.head _))
        have z3 : @Ne Nat I D7 := off7 _ (.head _)
        have z4 : @Ne Nat (L + 1 + 1 + 1) D7 := off7 _ (.tail _ (.tail _ (.tail _ (.head _))))
        have z5 : @Ne Nat (L + 1 + 1) D7 := off7 _ (.tail _ (.tail _ (.tail _ (.tail _ (.head _)))))
        have z6 : @Ne Nat (L + 1) D7 := off7 _ (.tail _ (.tail _ (.tail _ (.tail _ (.tail _ (.head _))))))
        have y1 : @Ne Nat P I := off9 _ (.tail _ (.head _))
        have y2 : @Ne Nat S I := off9 _ (.head _)
        have y3 : @Ne Nat (L + 1 + 1 + 1) I := off9 _ (.tail _ (.tail _ (.head _)))
        have y4 : @Ne Nat (L + 1 + 1) I := off9 _ (.tail _ (.tail _ (.tail _ (.head _))))
        have y5 : @Ne Nat (L + 1) I := off9 _ (.tail _ (.tail _ (.tail _ (.tail _ (.head _)))))
        have g1 := hW.kv
        have g2 := hg2.len
        have g3 := hi2.length
        have g4 := hys.length
        have g5 := free_le (ps := ps') v
        have g6 := free_pos (ps := ps') (v := v) (by omega)
        have g7 : pv'.length = ps.length := by omega
        clear g3
        k_steps
        refine FEnd.intro (nw := [(S, PySem.W.listOf ws.toArray 0), (P, PySem.W.listOf (pv'.set _ _).toArray nn), (L + 1 + 1 + 1, oc3), (L + 1 + 1, o2), (L + 1, o1)]) (by k_asm) (by k_asm) hb7 (by k_dflt k_mem) ?s1 ?s2 ⟨rfl, _, _, by assumption, hg2.step g1.2.1 _, rfl⟩
        case s1 =>
          intro p hp
          simp only [List.mem_cons, List.not_mem_nil, or_false] at hp ⊢
          rcases hp with rfl | rfl | rfl | rfl | rfl <;> simp
        case s2 =>
          intro p hp
          simp only [List.mem_cons, List.not_mem_nil, or_false] at hp
          rcases hp with rfl | rfl | rfl | rfl | rfl <;> assumption
    case q4 =>
      rintro h g tk m' nw hb8 F9 N9 ⟨hm, pv', ps', hi2, hg2, rfl⟩
      have g1 := hW.kv
      have g2 := hg2.len
      have g3 := hi2.length
      have F8 := fr_back0 F9 hm
      clear F9
      have g0 := hW.bb
      k_steps
      rename_i o3 F3 N3 d3
      refine csrc_list (ax := P) (ws := pv') (k := nn) (news := [(S, PySem.W.listOf ws.toArray 0), (P, PySem.W.listOf pv'.toArray nn), (L + 1 + 1 + 1, o3), (L + 1 + 1, o2), (L + 1, o1)]) (J := fun i ys nw => IntsAre ys ((ps'.take i).map fun p => (p + (-ps'.sum * (b : Int)).fmod (v : Int)).fmod (v : Int)) ∧ nw = [(S, PySem.W.listOf ws.toArray 0), (P, PySem.W.listOf pv'.toArray nn), (L + 1 + 1 + 1, o3), (L + 1 + 1, o2), (L + 1, o1)]) rfl (by k_asm) (by k_asm) (by assumption) (fun p hp => hp) (.tail _ (.head _)) (by rw [g3, g2]; exact Nat.le_trans g1.2.2.1 (by decide)) ?t1 ⟨.nil, rfl⟩ ?t2 ?t3
      case t1 =>
        rintro i ys nw ⟨_, rfl⟩
        exact .tail _ (.head _)
      case t2 =>
        rintro j vj ys nw I' C' D' oI' oC' m7 h7 g7 tk7 E7 hj hv7 ⟨hys, rfl⟩ hC7 hx7 hb7 F7 N7 off7 n1 n2 n3
        obtain ⟨num, tn, rfl, hnum⟩ := ints_nth hi2 hv7
        refine wpAny_tests_nil ?_
        simp only [if_true]
        k_steps
        refine CEnd.intro (nw := [(S, PySem.W.listOf ws.toArray 0), (P, PySem.W.listOf pv'.toArray nn), (L + 1 + 1 + 1, o3), (L + 1 + 1, o2), (L + 1, o1)]) hb7 (by k_asm) (by k_asm) (.head _) (.tail _ (.head _)) (.tail _ (.tail _ (.head _))) (fun p hp => .tail _ (.tail _ (.tail _ hp))) off7 ⟨?_, rfl⟩
        rw [List.take_add_one, hnum]
        simp only [Option.toList_some, List.map_append, List.map_cons, List.map_nil]
        exact ints_snoc hys
      case t3 =>
        rintro ys nw ⟨hys, rfl⟩ tz D7 h7 g7 tk7 htz hb7 F7 N7 off7
        k_steps
        rename_i Dd hd' Fd Nd ld
        have zD : Dd ≠ D7 := by
          have q : @LT.lt Nat _ D7 Dd := ld.1
          exact Ne.symm (Nat.ne_of_lt q)
        refine FnEnd.intro Fd (fun _ => hb7) rfl rfl ⟨Dd, D7, tv, _, v, ys, _, rfl, (Nd _ (.head _)).2.2, (Nd _ (.tail _ (.head _))).2.2, zD, (Nd _ (.head _)).1, (Nd _ (.tail _ (.head _))).1, ?_, zero_turn hW hg2⟩
        rw [List.take_of_length_le (by omega)] at hys
        exact hys)
end Mine
end
section
open PySem PySem.W PyProof.Rows PySem.Calls
namespace Mine
theorem anew_L2 {w : World} {A : Around} {E : Value → Shared → Prop} {Q : Bool → Shared → Prop} {s : Shared} (h : Q true s) : wpAny (model PG w) A (truthy (.bool true)) Q E s := by
  w_top off
  k_with_none
  first | (walk1; exact h) | exact wpAny_truthy_bool h
end Mine
end
section
open PySem PySem.W PyProof.Rows PySem.Calls
set_option Elab.async false
set_option maxRecDepth 100000
set_option maxHeartbeats 40000000
namespace Mine

def CtPost (hs : List Int) (v : Nat) (h₀ : Heap) (r : Value) (h : Heap) : Prop :=
  ∃ C n cv, r = Value.ref C ∧ h₀.get? C = none ∧ h.get? C = some (PySem.W.listOf cv.toArray n) ∧ IntsAre cv (countsF hs v)
theorem counts : ∀ (w : World) (T : Addr) (v : Nat) (t2 : Tok) (vs : List Value) (hs : List Int) (_ : PySem.Challenge.rw_tr0033_01 = PySem.Challenge.rw_tr0033_01 ∧ hd.heap_39 = hd.heap_39) (hf : FlAre vs hs) (b : Nat) (ps : List Int) (hW : Wheel v b ps) (hg : Good v ps.length hs),
    FnP w 107 [.ref T, .int (v : Int) t2] 12 90 (fun h => ∃ n, h.get? T = some (PySem.W.listOf vs.toArray n)) (CtPost hs v) := by
  k_with_none
  k_with "exec For" => (k_here; (with_reducible show wpAny _ _ (exec (Stmt.For (Expr.Name _ _) _ _ [] _) _) _ _ _); k_dflt (apply for_any; (case _ => k_asm); (case _ => exact rfl); (case _ => exact rfl)))
  k_with "exec For Name Call cons nil" => (k_here; (with_reducible show wpAny _ _ (exec (Stmt.For (Expr.Name _ _) _ _ [] _) _) _ _ _); k_dflt (apply for_any; (case _ => k_asm); (case _ => exact rfl); (case _ => exact rfl)))
  k_with "call builtin:len" => (k_here; k_dflt (apply len_E; (case _ => k_asm); (case _ => k_mem); (case _ => assumption); (case _ => omega)); intro _ _)
  k_with "binaryOp FloorDiv int int" => (k_here; k_dflt (apply fdiv_E; (case _ => omega); (case _ => omega)); intro _ _)
  k_with "binaryOp Mod int int" => (k_here; k_dflt (apply fmod_E; (case _ => omega)); intro _ _)
  k_with "call builtin:len" => (k_here; k_dflt (apply len_B; (case _ => k_asm); (case _ => assumption); (case _ => assumption); (case _ => omega)); intro _ _)
  k_with "subscriptTail Name Name ref int" => (k_here; k_dflt (apply fl_B; (case _ => k_asm); (case _ => assumption); (case _ => assumption); (case _ => omega); (case _ => omega); rotate_left 1; (case _ => with_unfolding_all rfl); rotate_right 1); intro _)
  k_with "call type:int" => (k_here; (with_reducible show wpAny _ _ (call _ [Value.float _ _]) _ _ _); k_dflt (apply int_K; (case _ => exact rfl); (case _ => assumption); (case _ => assumption)); (try dsimp only))
  k_with "getItem ref int" => (k_here; k_dflt (apply get_step; (case _ => k_asm); (case _ => k_mem); (case _ => assumption); (case _ => assumption); (case _ => assumption); (case _ => assumption); (case _ => omega)); intro _)
  k_with "setItem ref int" => (k_here; k_dflt (apply set_step; (case _ => k_asm); (case _ => k_asm); (case _ => k_upd); (case _ => assumption); (case _ => assumption); (case _ => assumption); (case _ => assumption); (case _ => omega)); intro _ _ _ _)
  k_fill
  intro w T v t2 vs hs _ hf b ps hW hg'
  refine' FnP.enter (binds := [(Str.ofString "told", Value.ref T), (Str.ofString "size", Value.int (v : Int) t2)]) ?k6 ?k7 ?k9 ?kB ?c2 ?c3 ?c4 ?c5 ?_
  case k6 => k_dflt k_is
  case k7 => k_dflt k_is
  case k9 => exact fun _ => BindsTo.of_eq rfl
  case kB => exact locs rfl
  case c2 => exact rfl
  case c3 => exact rfl
  case c4 => exact rfl
  case c5 => decide
  intro A base outer s mean mg mb L h₁ tk B F X N _ Tp hh hdp hun hg hq
  obtain ⟨n, hq⟩ := hq
  cases A
  dsimp only at hh hdp hun
  subst hh
  have g1 := hW.kv
  have g2 := hg'.len
  have g3 := hf.1
  try dsimp only
  w_strict (
    k_steps
    rename_i Dc _ i1 n1 s1 e1 e2 e3 l1 _ _ _ _ _ hh' _ _ _ _ aR aF aN aK
    rw [flat_rep] at i1
    refine fsrc_range (n := hs.length) (news := [(Dc, PySem.W.listOf _ 0)]) (J := fun i m nw => m (Str.ofString "told") = some (.ref T) ∧ m (Str.ofString "size") = some (.int (v : Int) t2) ∧ m (Str.ofString "counts") = some (.ref Dc) ∧ ∃ cv, IntsAre cv (Mine.outer hs v i) ∧ nw = [(Dc, PySem.W.listOf cv.toArray 0)]) rfl (by k_asm) (by k_asm) (by assumption) (fun p hp => by rw [List.mem_singleton.mp hp]; exact .head _) aR ?q1 ?q2 ⟨rfl, rfl, rfl, _, i1, rfl⟩ ?q3 ?q4
    case q1 => exact (range_ok _ (by omega)).1
    case q2 => exact (range_ok _ (by omega)).2
    case q3 =>
      rintro i vi m₁ nw I oI h g tk hlt ⟨ti, rfl⟩ ⟨hm1, hm2, hm3, cv, hcv, rfl⟩ hb' F9 N9 off9
      rw [Int.zero_add, Int.mul_one] at F9
      rw [ext3 hm1 hm2 hm3] at F9
      have y1 : @Ne Nat Dc I := off9 _ (.head _)
      k_steps
      rename_i iR iF iN iK
      refine fsrc_range (n := i) (news := [(I, oI), (Dc, PySem.W.listOf cv.toArray 0)]) (J := fun j m nw => m (Str.ofString "told") = some (.ref T) ∧ m (Str.ofString "size") = some (.int (v : Int) t2) ∧ m (Str.ofString "counts") = some (.ref Dc) ∧ m (Str.ofString "i") = some (.int (i : Int) ti) ∧ ∃ cv, IntsAre cv (Mine.inner hs v i j (Mine.outer hs v i)) ∧ nw = [(I, oI), (Dc, PySem.W.listOf cv.toArray 0)]) rfl iF iN hb' (fun p hp => hp) iR ?r1 ?r2 ⟨rfl, rfl, rfl, rfl, _, hcv, rfl⟩ ?r3 ?r4
      case r1 => exact (range_ok _ (by omega)).1
      case r2 => exact (range_ok _ (by omega)).2
      case r3 =>
        rintro j vj m₃ nw I' oI' h7 g7 tk7 hj ⟨tj, rfl⟩ ⟨gm1, gm2, gm3, gm4, cv7, hcv7, rfl⟩ hb7 F7 N7 off7
        rw [Int.zero_add, Int.mul_one] at F7
        rw [ext4 gm1 gm2 gm3 gm4] at F7
        have y2 : @Ne Nat I I' := off7 _ (.head _)
        have y3 : @Ne Nat Dc I' := off7 _ (.tail _ (.head _))
        have a1 := at_int hg' (i := i) (by omega)
        have a2 := at_int hg' (i := j) (by omega)
        have a3 := at_ne hg' (i := i) (j := j) (by omega) hj
        obtain ⟨fin1, tru1⟩ := fl_sub' (a := hs.getD i 0) (b := hs.getD j 0) (by omega) (by omega) (by omega) (by omega)
        obtain ⟨rg1, rg2⟩ := step_rng hW a1.2.1 a1.2.2 a2.2.1 a2.2.2 a3
        have len7 : (Mine.inner hs v i j (Mine.outer hs v i)).length = v / 2 := by rw [inner_len, outer_len]
        k_steps
        refine FEnd.intro (nw := [(I, oI), (Dc, PySem.W.listOf (cv7.set _ _).toArray 0)]) (by k_asm) (by k_asm) hb7 (.head _) (fun p hp => .tail _ hp) ?s1 ⟨rfl, rfl, rfl, rfl, _, by assumption, rfl⟩
        case s1 =>
          intro p hp
          simp only [List.mem_cons, List.not_mem_nil, or_false] at hp
          rcases hp with rfl | rfl <;> assumption
      case r4 =>
        rintro h7 g7 tk7 m7 nw hb7 F7 N7 ⟨gm1, gm2, gm3, gm4, cv7, hcv7, rfl⟩
        k_steps
        refine FEnd.intro (nw := [(Dc, PySem.W.listOf cv7.toArray 0)]) F7 N7 hb7 (.head _) (fun p hp => .tail _ hp) ?s2 ⟨gm1, gm2, gm3, _, hcv7, rfl⟩
        case s2 =>
          intro p hp
          simp only [List.mem_cons, List.not_mem_nil, or_false] at hp
          rcases hp with rfl
          assumption
    case q4 =>
      rintro h7 g7 tk7 m7 nw hb7 F7 N7 ⟨gm1, gm2, gm3, cv7, hcv7, rfl⟩
      rw [ext3 gm1 gm2 gm3] at F7
      k_steps
      dsimp only
      exact FnEnd.intro F7 (fun _ => hb7) rfl rfl ⟨Dc, 0, cv7, rfl, (N7 _ (.head _)).2.2, (N7 _ (.head _)).1, hcv7⟩)
end Mine
end
section
open PySem PySem.W PyProof.Rows PySem.Calls PySem.Flt PySem.SeqAt
set_option Elab.async false
set_option maxRecDepth 100000
set_option maxHeartbeats 40000000
namespace Mine

def OffN (D : Addr) : List (Addr × Obj) → Prop
  | [] => True
  | p :: r => @Ne Nat p.1 D ∧ OffN D r
theorem OffN.of {D : Addr} : ∀ {l : List (Addr × Obj)}, (∀ p ∈ l, p.1 ≠ D) → OffN D l
  | [], _ => trivial
  | _ :: _, h => ⟨h _ List.mem_cons_self, OffN.of fun p hp => h p (List.mem_cons_of_mem _ hp)⟩

section
variable {w : World} {A₀ A : Around} {base h₀ : Heap} {outer : List Env} {env : Env} {L : Addr} {m : Str → Option Value} {s : Shared} {news : List (Addr × Obj)} {mean : ExcName → Option Value} {mg mb : Str → Option Value} {Q E : Value → Shared → Prop}
theorem places_use {l : Addr} {vs : List Value} {xs : List Int} (hi : IntsAre vs xs) (hlen : xs.length ≤ 63) (hl : h₀.IsList l vs.toArray)
    (B : Below A₀ base outer h₀) (F : Fr h₀ L s.heap m) (X : (hd.heap_39 w.params).In h₀) (N : News h₀ L s.heap news) (T : Top hd.view_39 (looseW hd.view_39 []) mean mg mb h₀)
    (hA : A.frames = some (env :: outer)) (hf : env.frame = some L) (hke : env.scope.kind = .function) (hh : A.handled = none) (hd' : A.depth + 12 < recursionLimit) (hu : A.units + 90 < cLine) (hg : AllBare s.gens)
    (h : StopW (∀ D Pl tv n v pv qs h' g' tk, Fr h₀ L h' m → News h₀ L h' ((D, tup2 (.int ((v : Nat) : Int) tv) (.ref Pl)) :: (Pl, PySem.W.listOf pv.toArray n) :: news) → OffN D news → OffN Pl news → @Ne Nat D Pl → AllBare g' → IntsAre pv qs → Zero v qs → Q (.ref D) { s with heap := h', gens := g', toks := tk })) :
    wpAny (model PG w) A (call (.ref 93) [.ref l]) Q E s := by
  refine (places w l 0 vs xs ⟨rfl, rfl⟩ hi hlen).use B F X N T hA hf hke hh hd' hu hg (hl.at fun o e => F.keep _ o e) fun v h' g' tk F' N' K hb hp => ?_
  obtain ⟨D, Pl, tv, n, v, pv, qs, rfl, f1, f2, ne, o1, o2, hi', hz⟩ := hp
  have N1 := fresh_news F N' f2 o2
  have N2 := fresh_news F N1 f1 o1
  exact h.out D Pl tv n v pv qs h' g' tk F' N2 (OffN.of (fresh_ne N f1)) (OffN.of (fresh_ne N f2)) ne hb hi' hz
theorem half_use {p v : Nat} {t1 t2 : Tok} (hp : p ≤ 24) (hv : v ≤ 24) (ho : v % 2 = 1)
    (B : Below A₀ base outer h₀) (F : Fr h₀ L s.heap m) (X : (hd.heap_39 w.params).In h₀) (N : News h₀ L s.heap news) (T : Top hd.view_39 (looseW hd.view_39 []) mean mg mb h₀)
    (hA : A.frames = some (env :: outer)) (hf : env.frame = some L) (hke : env.scope.kind = .function) (hh : A.handled = none) (hd' : A.depth + 12 < recursionLimit) (hu : A.units + 90 < cLine) (hg : AllBare s.gens)
    (h : ∀ t' h' g' tk, Fr h₀ L h' m → News h₀ L h' news → AllBare g' → Q (.str (outS (halfN p v)) t') { s with heap := h', gens := g', toks := tk }) :
    wpAny (model PG w) A (call (.ref 100) [.int (p : Int) t1, .int (v : Int) t2]) Q E s :=
  (half w p v t1 t2 ⟨rfl, rfl⟩ hp hv ho).use B F X N T hA hf hke hh hd' hu hg trivial fun v h' g' tk F' N' _ hb hp => by
    obtain ⟨a, rfl⟩ := hp
    exact h a h' g' tk F' N' hb
end
theorem strs_snoc {x : Str} {t : Tok} : ∀ {vs : List Value} {ns : List Str}, StrsAre vs ns → StrsAre (vs ++ [.str x t]) (ns ++ [x])
  | _, _, .nil => .cons x t .nil
  | _, _, .cons i u h => .cons i u (strs_snoc h)
theorem strs_nth {vs : List Value} {ns : List Str} (h : StrsAre vs ns) {i : Nat} {v : Value} (e : vs[i]? = some v) : ∃ n t, v = .str n t ∧ ns[i]? = some n := by
  induction h generalizing i with
  | nil => simp at e
  | cons a u h ih =>
    cases i with
    | zero => simp at e; exact ⟨a, u, e.symm, rfl⟩
    | succ j => simpa using ih (by simpa using e)
def halves (v : Nat) (qs : List Int) : List Nat := qs.map fun q => halfN q.toNat v
def namesL (v : Nat) (qs : List Int) : List Str := (halves v qs).map outS
theorem Wheel.odd {v b : Nat} {ps : List Int} (h : Wheel v b ps) : v % 2 = 1 := by cases h <;> rfl
theorem take_snoc {α β : Type} {f : α → β} {l : List α} {j : Nat} {a : α} (h : l[j]? = some a) : (l.take (j + 1)).map f = (l.take j).map f ++ [f a] := by
  rw [List.take_add_one, h]; simp
theorem halfN_le {p v : Nat} (hp : p ≤ 24) (hv : v ≤ 24) : halfN p v ≤ 24 := by unfold halfN; split <;> omega
theorem lenO_E {w : World} {A : Around} {E : Value → Shared → Prop} {s : Shared} {Q : Value → Shared → Prop} {h : Nat} {t : Tok} (hb : h ≤ 24) (hQ : ∀ t tk, Q (.int ((h : Int) + 1) t) { s with toks := tk }) :
    wpAny (model PG w) A (call (.builtin "len") [.str (outS h) t]) Q E s := by
  have e : ((outS h).length : Int) = (h : Int) + 1 := by rw [out_len]; omega
  exact PySem.P.len_str (by rw [e]; omega) (by rw [e]; exact hQ _ _)
section
variable {w : World} {A : Around} {E : Value → Shared → Prop} {s : Shared} {h₀ : Heap} {L a b : Addr} {news : List (Addr × Obj)} {Q : Value → Shared → Prop} {xs ys : List Value} {n1 n2 : Nat}
theorem ne_all {n : Nat} (N : News h₀ L s.heap news) (h1 : (a, PySem.W.listOf xs.toArray n1) ∈ news) (h2 : (b, PySem.W.listOf ys.toArray n2) ∈ news) (hx : xs.length = n) (hy : ys.length = n) (hu : A.units < cLine)
    (he : ∀ (j : Nat) (x y : Value), xs[j]? = some x → ys[j]? = some y → EqAt A.in1 s x y true) (h : Q (.bool false) s) : wpAny (model PG w) A (compareOp .NotEq (.ref a) (.ref b)) Q E s := by
  have e : (!(List.range xs.toArray.size).all fun _ => true) = false := by simp
  refine RcNeAt.lists (e := fun _ => true) (PySem.IsL.isList (n := n1) (N _ h1).1) (PySem.IsL.isList (n := n2) (N _ h2).1) (by simp [hx, hy]) hu (fun j q1 q2 => ?_) PG w E Q (by rw [e]; exact h)
  simp only [List.size_toArray] at q1 q2
  exact he j _ _ (by simp [q1]) (by simp [q2])
theorem ne_strs {ss : List Str} (N : News h₀ L s.heap news) (h1 : (a, PySem.W.listOf xs.toArray n1) ∈ news) (h2 : (b, PySem.W.listOf ys.toArray n2) ∈ news) (hi : StrsAre xs ss) (hj : StrsAre ys ss) (hu : A.units < cLine) (h : Q (.bool false) s) :
    wpAny (model PG w) A (compareOp .NotEq (.ref a) (.ref b)) Q E s :=
  ne_all N h1 h2 hi.length hj.length hu (fun j x y e1 e2 => by
    obtain ⟨u, t, rfl, f1⟩ := strs_nth hi e1
    obtain ⟨u', t', rfl, f2⟩ := strs_nth hj e2
    rw [f1] at f2; cases f2
    have := EqAt.str_str (A := A.in1) (s := s) u t u t'
    simpa using this) h
theorem ne_ints {ss : List Int} (N : News h₀ L s.heap news) (h1 : (a, PySem.W.listOf xs.toArray n1) ∈ news) (h2 : (b, PySem.W.listOf ys.toArray n2) ∈ news) (hi : IntsAre xs ss) (hj : IntsAre ys ss) (hu : A.units < cLine) (h : Q (.bool false) s) :
    wpAny (model PG w) A (compareOp .NotEq (.ref a) (.ref b)) Q E s :=
  ne_all N h1 h2 hi.length hj.length hu (fun j x y e1 e2 => by
    obtain ⟨u, t, rfl, f1⟩ := ints_nth hi e1
    obtain ⟨u', t', rfl, f2⟩ := ints_nth hj e2
    rw [f1] at f2; cases f2
    have := EqAt.int_int (A := A.in1) (s := s) u t u t'
    simpa using this) h
end
theorem half_look : (((List.range 21).all fun q => (2 * (halfN q 21 : Int)).fmod 21 == (q : Int)) && ((List.range 7).all fun q => (2 * (halfN q 7 : Int)).fmod 7 == (q : Int)) && ((List.range 23).all fun q => (2 * (halfN q 23 : Int)).fmod 23 == (q : Int))) = true := by decide +kernel
theorem half_back {v b : Nat} {ps : List Int} (hW : Wheel v b ps) {q : Int} (h0 : 0 ≤ q) (h1 : q < v) : (2 * (halfN q.toNat v : Int)).fmod (v : Int) = q := by
  obtain ⟨p, rfl⟩ := Int.eq_ofNat_of_zero_le h0
  have hp : p ∈ List.range v := List.mem_range.mpr (Int.ofNat_lt.mp h1)
  have h := half_look
  rw [Bool.and_eq_true, Bool.and_eq_true] at h
  rw [Int.toNat_natCast]
  cases hW with
  | a => exact eq_of_beq (List.all_eq_true.mp h.1.1 p hp)
  | b => exact eq_of_beq (List.all_eq_true.mp h.1.2 p hp)
  | c => exact eq_of_beq (List.all_eq_true.mp h.2 p hp)
section
variable {w : World} {A₀ A : Around} {base h₀ : Heap} {outer : List Env} {env : Env} {L : Addr} {m : Str → Option Value} {s : Shared} {news : List (Addr × Obj)} {mean : ExcName → Option Value} {mg mb : Str → Option Value} {Q E : Value → Shared → Prop}
theorem hsv_use {x : UInt64} {n : Int} {t1 t2 t3 : Tok} (hF : Float64.isFinite (Float64.mul x 4618441417868443648) = true) (hn : toInt Float64.truncOf (Float64.mul x 4618441417868443648) = n) (h0 : 0 ≤ n) (h4 : n ≤ 4)
    (B : Below A₀ base outer h₀) (F : Fr h₀ L s.heap m) (X : (hd.heap_39 w.params).In h₀) (N : News h₀ L s.heap news) (T : Top hd.view_39 (looseW hd.view_39 []) mean mg mb h₀)
    (hA : A.frames = some (env :: outer)) (hf : env.frame = some L) (hke : env.scope.kind = .function) (hh : A.handled = none) (hd' : A.depth + 1 < recursionLimit) (hu : A.units + 8 < cLine) (hg : AllBare s.gens)
    (h : ∀ D a1 a2 a3 h' g' tk, Fr h₀ L h' m → News h₀ L h' ((D, tup3 (.float (rgbF x n).1 a1) (.float (rgbF x n).2.1 a2) (.float (rgbF x n).2.2 a3)) :: news) → AllBare g' → Q (.ref D) { s with heap := h', gens := g', toks := tk }) :
    wpAny (model PG w) A (call (.ref 35) [.float x t1, .float 4607182418800017408 t2, .float 4607182418800017408 t3]) Q E s :=
  (hsv2rgb w x n t1 t2 t3 ⟨rfl, rfl⟩ hF hn h0 h4).use B F X N T hA hf hke hh hd' hu hg trivial fun v h' g' tk F' N' _ hb hp => by
    obtain ⟨D, a1, a2, a3, rfl, f1, o1⟩ := hp
    exact h D a1 a2 a3 h' g' tk F' (fresh_news F N' f1 o1) hb
theorem hls_use {r g b : UInt64} {t1 t2 t3 : Tok} (hM : max3 r g b = 4607182418800017408) (hm : min3 r g b = 0)
    (B : Below A₀ base outer h₀) (F : Fr h₀ L s.heap m) (X : (hd.heap_39 w.params).In h₀) (N : News h₀ L s.heap news) (T : Top hd.view_39 (looseW hd.view_39 []) mean mg mb h₀)
    (hA : A.frames = some (env :: outer)) (hf : env.frame = some L) (hke : env.scope.kind = .function) (hh : A.handled = none) (hd' : A.depth + 1 < recursionLimit) (hu : A.units + 8 < cLine) (hg : AllBare s.gens)
    (h : ∀ D a1 a2 a3 h' g' tk, Fr h₀ L h' m → News h₀ L h' ((D, tup3 (.float (hueF 4607182418800017408 (Float64.sub 4607182418800017408 0) r g b) a1) (.float 4602678819172646912 a2) (.float 4607182418800017408 a3)) :: news) → (∀ p ∈ news, p.1 ≠ D) → (a1 ≠ 0 ∧ a2 ≠ 0 ∧ a3 ≠ 0) → AllBare g' → Q (.ref D) { s with heap := h', gens := g', toks := tk }) :
    wpAny (model PG w) A (call (.ref 21) [.float r t1, .float g t2, .float b t3]) Q E s :=
  (hls w r g b t1 t2 t3 ⟨rfl, rfl⟩ hM hm).use B F X N T hA hf hke hh hd' hu hg trivial fun v h' g' tk F' N' _ hb hp => by
    obtain ⟨D, a1, a2, a3, rfl, f1, o1, nz⟩ := hp
    exact h D a1 a2 a3 h' g' tk F' (fresh_news F N' f1 o1) (fresh_ne N f1) nz hb
end
theorem halfN_lt {v b : Nat} {ps : List Int} (hW : Wheel v b ps) {q : Int} (h0 : 0 ≤ q) (h1 : q < v) : halfN q.toNat v < 24 := by
  unfold halfN; cases hW <;> (split <;> omega)
def fr (h d : Nat) : UInt64 := Float64.ofFrac false h d
theorem idiv_E {w : World} {A : Around} {E : Value → Shared → Prop} {s : Shared} {Q : Value → Shared → Prop} {h d : Nat} {t u : Tok} (h0 : 0 < d) (h1 : Float64.isInf (fr h d) = false) (hQ : Q (.float (fr h d) s.toks) { s with toks := s.toks + 1 }) :
    wpAny (model PG w) A (binaryOp .Div (.int (h : Int) t) (.int (d : Int) u)) Q E s := by
  have e : (decide ((h : Int) < 0) != decide ((d : Int) < 0)) = false := by
    rw [decide_eq_false (by omega), decide_eq_false (by omega)]; rfl
  refine AutoIntOps.truediv_2 (by simp; omega) ?_ ?_
  · rw [e, Int.natAbs_natCast, Int.natAbs_natCast]; rw [show Float64.ofFrac false h d = fr h d from rfl, h1]; decide
  · rw [e, Int.natAbs_natCast, Int.natAbs_natCast]; exact hQ
theorem fr_inf : ∀ h < 64, Float64.isInf (fr h 32) = false ∧ Float64.isInf (fr h 64) = false := by decide +kernel
def sect (h : Nat) : Int := ((6 * h / 32 : Nat) : Int)
theorem sect_rng {h : Nat} (hb : h < 24) : 0 ≤ sect h ∧ sect h ≤ 4 := by unfold sect; omega
theorem col_a : ∀ h < 24, Float64.isFinite (Float64.mul (fr h 32) 4618441417868443648) = true ∧ toInt Float64.truncOf (Float64.mul (fr h 32) 4618441417868443648) = sect h := by decide +kernel
theorem col_b : ∀ h < 24, max3 (rgbF (fr h 32) (sect h)).1 (rgbF (fr h 32) (sect h)).2.1 (rgbF (fr h 32) (sect h)).2.2 = 4607182418800017408 ∧ min3 (rgbF (fr h 32) (sect h)).1 (rgbF (fr h 32) (sect h)).2.1 (rgbF (fr h 32) (sect h)).2.2 = 0 := by decide +kernel
theorem col_c : ∀ h < 24, hueF 4607182418800017408 (Float64.sub 4607182418800017408 0) (rgbF (fr h 32) (sect h)).1 (rgbF (fr h 32) (sect h)).2.1 (rgbF (fr h 32) (sect h)).2.2 = fr h 32 := by decide +kernel
theorem col_d : ∀ h < 24, Float64.mul (Float64.ofInt 32) (fr h 32) = fl (h : Int) := by decide +kernel
def Pts (hs : List Nat) (ys : List Value) (ts : List (Addr × Obj)) : Prop :=
  ys.length = hs.length ∧ ∀ (j h : Nat), hs[j]? = some h → ∃ D a1 a2 a3, ys[j]? = some (.ref D) ∧ (D, tup3 (.float (fr h 32) a1) (.float 4602678819172646912 a2) (.float 4607182418800017408 a3)) ∈ ts ∧ a1 ≠ 0 ∧ a2 ≠ 0 ∧ a3 ≠ 0
theorem pts_snoc {hs : List Nat} {ys : List Value} {ts : List (Addr × Obj)} {h : Nat} {D : Addr} {a1 a2 a3 : Tok} (x : Pts hs ys ts) (nz : a1 ≠ 0 ∧ a2 ≠ 0 ∧ a3 ≠ 0) :
    Pts (hs ++ [h]) (ys ++ [.ref D]) ((D, tup3 (.float (fr h 32) a1) (.float 4602678819172646912 a2) (.float 4607182418800017408 a3)) :: ts) := by
  refine ⟨by simp [x.1], fun j k e => ?_⟩
  rcases Nat.lt_or_ge j hs.length with hj | hj
  · rw [List.getElem?_append_left hj] at e
    obtain ⟨D', b1, b2, b3, q1, q2, q3⟩ := x.2 j k e
    exact ⟨D', b1, b2, b3, by rw [List.getElem?_append_left (by rw [x.1]; exact hj)]; exact q1, .tail _ q2, q3⟩
  · rw [List.getElem?_append_right hj] at e
    have hz : j - hs.length = 0 := by
      rcases Nat.eq_zero_or_pos (j - hs.length) with q | q
      · exact q
      · rw [List.getElem?_eq_none (by simp; omega)] at e; cases e
    rw [hz] at e
    simp only [List.getElem?_cons_zero, Option.some.injEq] at e
    subst e
    exact ⟨D, a1, a2, a3, by rw [List.getElem?_append_right (by rw [x.1]; exact hj), x.1, hz]; rfl, .head _, nz⟩
theorem isSame_float {M : Model} {A : Around} {E : Value → Shared → Prop} {s : Shared} {x y : UInt64} {t u : Tok} {Q : Bool → Shared → Prop} (h0 : (t == 0 || u == 0) = false) (hb : NoneBooked s.heap) (hq : ∀ b, Q b s) : wpAny M A (isSame (.float x t) (.float y u)) Q E s := by
  show wpAny M A (isSame.created (x == y && !Float64.isNaN x) t u) Q E s
  unfold isSame.created
  rw [h0]
  simp only [Bool.false_eq_true, if_false]
  refine wpAny_ite_split (fun _ => wpAny_pure (hq _)) (fun _ => ?_)
  refine wpAny_ite_split (fun _ => wpAny_pure (hq _)) (fun _ => ?_)
  refine wpAny_bind (wpAny_sharingNotTold_none hb ?_)
  simp only [Bool.false_eq_true, if_false]
  refine wpAny_bind (wpAny_sharingNotTold_none hb ?_)
  simp only [Bool.false_eq_true, if_false]
  exact wpAny_bind (wpAny_rule (wpAny_bind (wpAny_askSetting (wpAny_pure (hq _)))))
theorem eq_float {A : Around} {s : Shared} {x : UInt64} {t u : Tok} (hx : (Float64.cmp x x == some Ordering.eq) = true) (ht : t ≠ 0) (hu : u ≠ 0) (hb : NoneBooked s.heap) : EqAt A s (.float x t) (.float x u) true := fun prog w E Q h => by
  unfold eqBool
  refine wpAny_holding ?_
  refine wpAny_ite_split (fun _ => wpAny_bind (wpAny_rule (wpAny_pure h))) (fun _ => ?_)
  refine wpAny_bind (isSame_float (by simp [ht, hu]) hb fun b => ?_)
  cases b with
  | true => simp only [if_true]; exact wpAny_pure h
  | false =>
    simp only [Bool.false_eq_true, if_false]
    refine wpAny_bind ?_
    refine AutoFloatOps.eq_0 (a := x) (b := x) (t := t) (u := u) ?_
    rw [hx]
    exact wpAny_truthy_bool h
theorem eq_tup3 {A : Around} {s : Shared} {D D' : Addr} {x y z : UInt64} {a1 a2 a3 b1 b2 b3 : Tok} (h1 : s.heap.get? D = some (tup3 (.float x a1) (.float y a2) (.float z a3))) (h2 : s.heap.get? D' = some (tup3 (.float x b1) (.float y b2) (.float z b3)))
    (hx : (Float64.cmp x x == some Ordering.eq) = true) (hy : (Float64.cmp y y == some Ordering.eq) = true) (hz : (Float64.cmp z z == some Ordering.eq) = true) (ta : a1 ≠ 0 ∧ a2 ≠ 0 ∧ a3 ≠ 0) (tb : b1 ≠ 0 ∧ b2 ≠ 0 ∧ b3 ≠ 0) (hb : NoneBooked s.heap) (hu : A.units < cLine) : EqAt A s (.ref D) (.ref D') true := by
  by_cases e : D = D'
  · subst e; exact EqAt.same _
  · refine EqAt.of_refs e ?_
    have := RcAt.tuples (A := A) (s := s) (e := fun _ => true) ⟨_, h1, rfl, _, rfl⟩ ⟨_, h2, rfl, _, rfl⟩ hu (fun j q1 q2 => by
      match j, q1, q2 with
      | 0, _, _ => exact eq_float hx ta.1 tb.1 hb
      | 1, _, _ => exact eq_float hy ta.2.1 tb.2.1 hb
      | 2, _, _ => exact eq_float hz ta.2.2 tb.2.2 hb)
    exact this
theorem fr_self : ∀ h < 64, (Float64.cmp (fr h 32) (fr h 32) == some Ordering.eq) = true ∧ (Float64.cmp (fr h 64) (fr h 64) == some Ordering.eq) = true := by decide +kernel
end Mine
end
section
open PySem PySem.W PyProof.Rows PySem.Calls PySem.Flt PySem.SeqAt
set_option Elab.async false
set_option maxRecDepth 100000
set_option maxHeartbeats 40000000
namespace Mine
theorem nb_keep {h h' : Heap} (k : ∀ b o, h.get? b = some o → h'.get? b = some o) (n : NoneBooked h) : NoneBooked h' := by
  obtain ⟨mc, ⟨o, es, ep, ho, r⟩, e⟩ := n
  exact ⟨mc, ⟨o, es, ep, k _ _ ho, r⟩, e⟩
theorem pts_get {h₀ h : Heap} {L : Addr} {news ts : List (Addr × Obj)} {hs : List Nat} {ys : List Value} {j : Nat} {y : Value} (N : News h₀ L h news) (P : Pts hs ys ts) (hsub : ∀ p ∈ ts, p ∈ news) (e : ys[j]? = some y) :
    ∃ h1 D a1 a2 a3, hs[j]? = some h1 ∧ y = .ref D ∧ h.get? D = some (tup3 (.float (fr h1 32) a1) (.float 4602678819172646912 a2) (.float 4607182418800017408 a3)) ∧ a1 ≠ 0 ∧ a2 ≠ 0 ∧ a3 ≠ 0 := by
  have hj : j < hs.length := by rw [← P.1]; exact (List.getElem?_eq_some_iff.mp e).1
  obtain ⟨D, a1, a2, a3, q1, q2, q3⟩ := P.2 j _ (List.getElem?_eq_getElem hj)
  rw [e] at q1; cases q1
  exact ⟨_, D, a1, a2, a3, List.getElem?_eq_getElem hj, rfl, (N _ (hsub _ q2)).1, q3⟩
theorem ne_pts {w : World} {A : Around} {E : Value → Shared → Prop} {s : Shared} {h₀ : Heap} {L a b : Addr} {m : Str → Option Value} {news ts us : List (Addr × Obj)} {Q : Value → Shared → Prop} {xs ys : List Value} {n1 n2 : Nat} {hs : List Nat}
    (hb : NoneBooked h₀) (F : Fr h₀ L s.heap m) (N : News h₀ L s.heap news) (h1 : (a, PySem.W.listOf xs.toArray n1) ∈ news) (h2 : (b, PySem.W.listOf ys.toArray n2) ∈ news) (hi : Pts hs xs ts) (hj : Pts hs ys us) (hlt : ∀ h ∈ hs, h < 64)
    (s1 : ∀ p ∈ ts, p ∈ news) (s2 : ∀ p ∈ us, p ∈ news) (hu : A.units + 2 < cLine) (h : Q (.bool false) s) : wpAny (model PG w) A (compareOp .NotEq (.ref a) (.ref b)) Q E s := by
  refine ne_all N h1 h2 hi.1 hj.1 (by omega) (fun j x y e1 e2 => ?_) h
  obtain ⟨k, D, a1, a2, a3, f1, rfl, g1, z1⟩ := pts_get N hi s1 e1
  obtain ⟨k', D', b1, b2, b3, f2, rfl, g2, z2⟩ := pts_get N hj s2 e2
  rw [f1] at f2; cases f2
  exact eq_tup3 g1 g2 (fr_self k (hlt k (List.mem_of_getElem? f1))).1 (by decide +kernel) (by decide +kernel) z1 z2 (nb_keep F.keep hb) (by show A.units + 1 < cLine; omega)
theorem flare_snoc {vs : List Value} {hs : List Int} {x : UInt64} {h : Int} {t : Tok} (f : FlAre vs hs) (e : x = fl h) : FlAre (vs ++ [.float x t]) (hs ++ [h]) := by
  subst e
  refine ⟨by simp [f.1], fun j k e => ?_⟩
  rcases Nat.lt_or_ge j hs.length with hj | hj
  · rw [List.getElem?_append_left hj] at e
    obtain ⟨u, hu⟩ := f.2 j k e
    exact ⟨u, by rw [List.getElem?_append_left (by rw [f.1]; exact hj)]; exact hu⟩
  · rw [List.getElem?_append_right hj] at e
    have hz : j - hs.length = 0 := by
      rcases Nat.eq_zero_or_pos (j - hs.length) with q | q
      · exact q
      · rw [List.getElem?_eq_none (by simp; omega)] at e; cases e
    rw [hz] at e
    simp only [List.getElem?_cons_zero, Option.some.injEq] at e
    subst e
    exact ⟨t, by rw [List.getElem?_append_right (by rw [f.1]; exact hj), f.1, hz]; rfl⟩
def halvesI (v : Nat) (qs : List Int) : List Int := qs.map fun q => (halfN q.toNat v : Int)
theorem half_good {v b : Nat} {ps qs : List Int} (hW : Wheel v b ps) (hg : Good v ps.length qs) : Good v ps.length (qs.map fun q => (halfN q.toNat v : Int)) := by
  refine ⟨by rw [List.length_map]; exact hg.len, ?_, fun p hp => ?_⟩
  · have hn := hg.nodup
    have hb := hg.bnd
    clear hg
    induction qs with
    | nil => simp
    | cons q l ih =>
      rw [List.nodup_cons] at hn
      rw [List.map_cons, List.nodup_cons]
      refine ⟨fun hm => ?_, ih hn.2 fun p hp => hb p (List.mem_cons_of_mem _ hp)⟩
      obtain ⟨p, hp, e⟩ := List.mem_map.mp hm
      have b1 := hb q List.mem_cons_self
      have b2 := hb p (List.mem_cons_of_mem _ hp)
      have e1 := half_back hW b1.1 b1.2
      have e2 := half_back hW b2.1 b2.2
      rw [e, e1] at e2
      exact hn.1 (e2 ▸ hp)
  · obtain ⟨q, hq, rfl⟩ := List.mem_map.mp hp
    have b1 := hg.bnd q hq
    refine ⟨by omega, ?_⟩
    unfold halfN
    have ho := hW.odd
    split <;> omega
section
variable {w : World} {A₀ A : Around} {base h₀ : Heap} {outer : List Env} {env : Env} {L : Addr} {m : Str → Option Value} {s : Shared} {news : List (Addr × Obj)} {mean : ExcName → Option Value} {mg mb : Str → Option Value} {Q E : Value → Shared → Prop}
theorem counts_use {T : Addr} {v b n0 : Nat} {t2 : Tok} {vs : List Value} {hs ps : List Int} (hf : FlAre vs hs) (hW : Wheel v b ps) (hg' : Good v ps.length hs) (hT : (T, PySem.W.listOf vs.toArray n0) ∈ news)
    (B : Below A₀ base outer h₀) (F : Fr h₀ L s.heap m) (X : (hd.heap_39 w.params).In h₀) (N : News h₀ L s.heap news) (Tp : Top hd.view_39 (looseW hd.view_39 []) mean mg mb h₀)
    (hA : A.frames = some (env :: outer)) (hfr : env.frame = some L) (hke : env.scope.kind = .function) (hh : A.handled = none) (hd' : A.depth + 12 < recursionLimit) (hu : A.units + 90 < cLine) (hg : AllBare s.gens)
    (h : StopW (∀ C n cv h' g' tk, Fr h₀ L h' m → News h₀ L h' ((C, PySem.W.listOf cv.toArray n) :: news) → (∀ p ∈ news, p.1 ≠ C) → AllBare g' → IntsAre cv (countsF hs v) → Q (.ref C) { s with heap := h', gens := g', toks := tk })) :
    wpAny (model PG w) A (call (.ref 107) [.ref T, .int (v : Int) t2]) Q E s := by
  refine (counts w T v t2 vs hs ⟨rfl, rfl⟩ hf b ps hW hg').use B F X N Tp hA hfr hke hh hd' hu hg ⟨n0, (N _ hT).1⟩ fun r h' g' tk F' N' K hb hp => ?_
  obtain ⟨C, n, cv, rfl, f1, o1, hi'⟩ := hp
  exact h.out C n cv h' g' tk F' (fresh_news F N' f1 o1) (fresh_ne N f1) hb hi'
end
end Mine
end
section
open PySem PySem.W PyProof.Rows PySem.Calls
namespace Mine
theorem anew_T1 {w : World} {A : Around} {E : Value → Shared → Prop} {Q : Bool → Shared → Prop} {s : Shared} (h : Q true s) : wpAny (model PG w) A (truthy (.bool true)) Q E s := by
  w_top off
  k_with_none
  first | (walk1; exact h) | exact wpAny_truthy_bool h
end Mine
end
section
open PySem PySem.W PyProof.Rows PySem.Calls PySem.Flt PySem.SeqAt
set_option Elab.async false
set_option maxRecDepth 100000
set_option maxHeartbeats 40000000
namespace Mine
def FnEndT (s : Shared) (Post : Value → Heap → Nat → Prop) (fl : Flow) (s' : Shared) : Prop :=
  Grow s s' ∧ Post (match fl with | .ret v => v | _ => .none) s'.heap s'.toks
theorem FnEndT.intro {s : Shared} {Post : Value → Heap → Nat → Prop} {fl : Flow} {s' : Shared} {L : Addr} {m : Str → Option Value} (F : Fr s.heap L s'.heap m)
    (hb : AllBare s.gens → AllBare s'.gens) (hd : s'.drawn = s.drawn) (ho : s'.os = s.os) (hp : Post (match fl with | .ret v => v | _ => .none) s'.heap s'.toks) : FnEndT s Post fl s' :=
  ⟨⟨F.keep, hb, hd, ho⟩, hp⟩

/-- a contract that sees the tokens too -/
def FnT (w : World) (f : Addr) (args : List Value) (dp un : Nat) (Pre : Heap → Prop) (Post : Heap → Value → Heap → Nat → Prop) : Prop :=
  ∀ (A : Around) (base : Heap) (outer : List Env) (s : Shared) (mean : ExcName → Option Value) (mg mb : Str → Option Value) (E : Value → Shared → Prop),
    Below A base outer s.heap → (hd.heap_39 w.params).In s.heap → Top hd.view_39 (looseW hd.view_39 []) mean mg mb s.heap → A.handled = none →
    A.depth + dp < recursionLimit → A.units + un < cLine → AllBare s.gens → Pre s.heap →
    wpAny (model PG w) A (call (.ref f) args) (fun v s' => Grow s s' ∧ Post s.heap v s'.heap s'.toks) E s

theorem FnT.enter {w : World} {f : Addr} {args : List Value} {dp un : Nat} {Pre : Heap → Prop} {Post : Heap → Value → Heap → Nat → Prop}
    {name qual : Str} {params : Arguments} {body : List Stmt} {scope : Scope} {dV kV doc pm cdv ct oc : Value} {an od : Option Addr} {osl : Array (Option Value)} {binds : List (Str × Value)}
    (ho : (hd.heap_39 w.params).lookup f = some ⟨oc, od, .func (fnOf name qual params body scope dV kV doc pm an cdv ct), osl⟩) (hcd : codeIn (hd.heap_39 w.params) cdv qual = true)
    (hbind : ∀ s, BindsTo s (fnOf name qual params body scope dV kV doc pm an cdv ct) ⟨args, []⟩ binds) (hloc : ∀ y ∈ binds, scope.names.lookup y.1 = some .local)
    (hco : scope.isCoroutine = false) (hgen : scope.isGenerator = false) (hk : scope.kind = .function) (hcell : ∀ x ∈ scope.names, x.2 ≠ .cell)
    (h : ∀ (A : Around) (base : Heap) (outer : List Env) (s : Shared) (mean : ExcName → Option Value) (mg mb : Str → Option Value) (L : Addr) (h₁ : Heap) (tk : Nat),
      Below A base outer s.heap → Fr s.heap L h₁ (fun y => binds.reverse.lookup y) → (hd.heap_39 w.params).In s.heap → News s.heap L h₁ [] → tk = s.toks + binds.length → Top hd.view_39 (looseW hd.view_39 []) mean mg mb s.heap →
      A.handled = none → A.depth + dp < recursionLimit → A.units + un < cLine → AllBare s.gens → Pre s.heap →
      wpAny (model PG w) (A.deeper (envOf qual scope L f cdv)) (execs body (envOf qual scope L f cdv)) (FnEndT s (Post s.heap)) (fun _ _ => False)
        { s with heap := h₁, toks := tk }) : FnT w f args dp un Pre Post := by
  intro A base outer s mean mg mb E B X T hh hd hu hg hp
  refine wpAny_call ?_
  refine codeAny_call_def (fd := fnOf name qual params body scope dV kV doc pm an cdv ct) (body := body) (binds := binds) (by omega) (X _ _ ho) rfl T.nolimit (codeRec_of X hcd) rfl (hbind s) hcell hloc (fun h₁ hns hk₁ => ?_) hco hgen hk
  refine wpAny_mono (h A base outer s mean mg mb s.heap.objs.size h₁ _ B ⟨hns, hk₁, Nat.le_refl _⟩ X News.nil rfl T hh hd hu hg hp) (fun fl s' hl => hl) fun _ _ y => y.elim

theorem FnT.use {w : World} {f : Addr} {args : List Value} {dp un : Nat} {Pre : Heap → Prop} {Post : Heap → Value → Heap → Nat → Prop} (C : FnT w f args dp un Pre Post)
    {A₀ A : Around} {base h₀ : Heap} {outer : List Env} {env : Env} {L : Addr} {m : Str → Option Value} {s : Shared} {news : List (Addr × Obj)} {mean : ExcName → Option Value} {mg mb : Str → Option Value} {Q E : Value → Shared → Prop}
    (B : Below A₀ base outer h₀) (F : Fr h₀ L s.heap m) (X : (hd.heap_39 w.params).In h₀) (N : News h₀ L s.heap news) (T : Top hd.view_39 (looseW hd.view_39 []) mean mg mb h₀)
    (hA : A.frames = some (env :: outer)) (hf : env.frame = some L) (hke : env.scope.kind = .function) (hh : A.handled = none) (hd : A.depth + dp < recursionLimit) (hu : A.units + un < cLine) (hg : AllBare s.gens) (hp : Pre s.heap)
    (h : ∀ v h' g' tk, Fr h₀ L h' m → News h₀ L h' news → (∀ b o, s.heap.get? b = some o → h'.get? b = some o) → AllBare g' → s.toks ≤ tk → Post s.heap v h' tk → Q v { s with heap := h', gens := g', toks := tk }) :
    wpAny (model PG w) A (call (.ref f) args) Q E s := by
  refine wpAny_mono (wpAny_toks (C A base (env :: outer) s mean mg mb E (below_in B F hA hf hke) (X.keeps F.keep) (T.keeps F.keep) hh hd hu hg hp)) (fun v s' h' => ?_) fun _ _ x => x.2
  obtain ⟨le, g, p⟩ := h'
  rw [g.eq]
  exact h v s'.heap s'.gens s'.toks (F.grownK g.keep) (N.grown g.keep) g.keep (g.bare hg) le p

section
variable {prog : Program} {w : World} {A : Around} {E : Value → Shared → Prop} {s : Shared} {Q : Value → Shared → Prop} {x y z M : UInt64} {t u v : Tok} {h₀ : Heap} {L : Addr} {m : Str → Option Value} {news : List (Addr × Obj)}
theorem max3_T (hh : A.handled = none) (e : max3 x y z = M) (F : Fr h₀ L s.heap m) (N : News h₀ L s.heap news)
    (h : ∀ h' tk r, (r = t ∨ r = u ∨ r = v) → Fr h₀ L h' m → News h₀ L h' news → Q (.float M r) { s with heap := h', toks := tk }) :
    wpAny (model prog w) A (call (.builtin "max") [.float x t, .float y u, .float z v]) Q E s :=
  max_three_num hh (.float x t) (.float y u) (.float z v) fun h' tk hk => by
    subst e
    have q := fun r c => h h' tk r c (F.grownK hk) (N.grown hk)
    have e1 : ltV (.float x t) (.float y u) = ltF x y := rfl
    have e2 : ltV (.float y u) (.float z v) = ltF y z := rfl
    have e3 : ltV (.float x t) (.float z v) = ltF x z := rfl
    rw [e1, e2, e3]
    unfold max3 at q
    cases h1 : ltF x y <;> cases h2 : ltF y z <;> cases h3 : ltF x z <;> simp only [h1, h2, h3, if_true, if_false, Bool.false_eq_true] at q ⊢ <;> first | exact q _ (.inl rfl) | exact q _ (.inr (.inl rfl)) | exact q _ (.inr (.inr rfl))
end
theorem store_up {M : Model} {A : Around} {E : Value → Shared → Prop} {s : Shared} {h₀ : Heap} {L : Addr} {env : Env} {m : Str → Option Value} {news : List (Addr × Obj)} {x : Str} {v : Value} {Q : Unit → Shared → Prop} (hL : env.locals = L) (hl : env.kindOf x = some .local) (F : Fr h₀ L s.heap m) (N : News h₀ L s.heap news)
    (hp : (env.scope.kind == .class || (env.scope.kind == .module && env.locals != env.globals)) = false)
    (h : ∀ h' tk, @LT.lt Nat _ s.toks tk → Fr h₀ L h' (fun y => if y = x then some v else m y) → News h₀ L h' news → Q () { s with heap := h', toks := tk }) :
    wpAny M A (storeName env x v) Q E s := by
  subst hL
  exact wpAny_storeName_local hl F.ns (fun h' hn hs => h h' _ (Nat.lt_succ_self _) (F.set hn hs) (N.set hs)) hp
theorem hsvEqT : ∀ (w : World) (r g b M m : UInt64) (t1 t2 t3 : Tok) (_ : PySem.Challenge.rw_tr0033_01 = PySem.Challenge.rw_tr0033_01 ∧ hd.heap_39 = hd.heap_39) (hM : max3 r g b = M) (hm : min3 r g b = m) (he : (Float64.cmp m M == some Ordering.eq) = true),
    FnT w 28 [.float r t1, .float g t2, .float b t3] 1 8 (fun _ => True)
      (fun h₀ v h tk => ∃ D a1 a2 a3, v = .ref D ∧ h₀.get? D = none ∧ h.get? D = some (tup3 (.float 0 a1) (.float 0 a2) (.float M a3)) ∧ a1 ≠ 0 ∧ a2 ≠ 0 ∧ (a3 = t1 ∨ a3 = t2 ∨ a3 = t3)) := by
  k_with_none
  k_with "binaryOp Div float float" => (k_here; k_dflt (apply div_K; (case _ => first | assumption | decide +kernel)); (try dsimp only))
  k_with "binaryOp Mod float float" => (k_here; k_dflt (apply mod_K; (case _ => first | assumption | decide +kernel)); (try dsimp only))
  k_with "compareOp Eq float float" => (k_here; k_dflt (first | (apply eq_E (b := true); (case _ => first | assumption)) | (apply eq_E (b := false); (case _ => first | assumption))))
  k_with "call builtin:max" => (k_here; (with_reducible show wpAny _ _ (call (Value.builtin _) [Value.float _ _, Value.float _ _, Value.float _ _]) _ _ _); k_dflt (apply max3_T; (case _ => assumption); (case _ => assumption); (case _ => k_asm); (case _ => k_asm)); intro _ _ _ _ _ _; (try k_sweep))
  k_with "call builtin:min" => (k_here; (with_reducible show wpAny _ _ (call (Value.builtin _) [Value.float _ _, Value.float _ _, Value.float _ _]) _ _ _); k_dflt (apply min3_E; (case _ => assumption); (case _ => assumption); (case _ => k_asm); (case _ => k_asm)); intro _ _ _ _ _; (try k_sweep))
  k_with "storeName" => (k_here; k_dflt (apply store_up; (case _ => exact rfl); (case _ => exact rfl); (case _ => k_asm); (case _ => k_asm); (case _ => exact rfl)); intro _ _ hup _ _; (try dsimp only at hup))
  k_with "execs cons" => (k_here; with_reducible refine wpAny_execs_cons ?_)
  k_fill
  intro w r g b M m t1 t2 t3 _ hM hm he
  refine' FnT.enter (binds := [(Str.ofString "r", Value.float r t1), (Str.ofString "g", Value.float g t2), (Str.ofString "b", Value.float b t3)]) ?k6 ?k7 ?k9 ?kB ?c2 ?c3 ?c4 ?c5 ?_
  case k6 => k_dflt k_is
  case k7 => k_dflt k_is
  case k9 => exact fun _ => BindsTo.of_eq rfl
  case kB => exact locs rfl
  case c2 => exact rfl
  case c3 => exact rfl
  case c4 => exact rfl
  case c5 => decide
  intro A base outer s mean mg mb L h₁ tk B F X N _ T hh hdp hun hg hp
  try dsimp only
  w_strict (
    k_steps
    all_goals (
      refine FnEndT.intro (by assumption) id rfl rfl ⟨_, _, _, _, rfl, (tup_end3 (by assumption) rfl rfl rfl).1, (tup_end3 (by assumption) rfl rfl rfl).2, ?_, ?_, by assumption⟩
      · first | ((try dsimp only at *); refine Nat.ne_of_gt ?_; omega) | ((try dsimp only at *); show @LT.lt Nat _ _ _; omega)
      · first | ((try dsimp only at *); refine Nat.ne_of_gt ?_; omega) | ((try dsimp only at *); show @LT.lt Nat _ _ _; omega)))

theorem hsvNeT : ∀ (w : World) (r g b M m : UInt64) (t1 t2 t3 : Tok) (_ : PySem.Challenge.rw_tr0033_01 = PySem.Challenge.rw_tr0033_01 ∧ hd.heap_39 = hd.heap_39) (hM : max3 r g b = M) (hm : min3 r g b = m) (he : (Float64.cmp m M == some Ordering.eq) = false)
    (z1 : Float64.isZero M = false) (z2 : Float64.isZero (Float64.sub M m) = false),
    FnT w 28 [.float r t1, .float g t2, .float b t3] 1 8 (fun _ => True)
      (fun h₀ v h tk => ∃ D a1 a2 a3 hu, v = .ref D ∧ h₀.get? D = none ∧ h.get? D = some (tup3 (.float hu a1) (.float (Float64.div (Float64.sub M m) M) a2) (.float M a3)) ∧ a1 ≠ 0 ∧ (a2 ≠ 0 ∧ a2 < tk) ∧ (a3 = t1 ∨ a3 = t2 ∨ a3 = t3)) := by
  k_with_none
  k_with "binaryOp Div float float" => (k_here; k_dflt (apply div_K; (case _ => first | assumption | decide +kernel)); (try dsimp only))
  k_with "binaryOp Mod float float" => (k_here; k_dflt (apply mod_K; (case _ => first | assumption | decide +kernel)); (try dsimp only))
  k_with "compareOp Eq float float" => (k_here; k_dflt (first | (apply eq_E (b := true); (case _ => first | assumption)) | (apply eq_E (b := false); (case _ => first | assumption))))
  k_with "call builtin:max" => (k_here; (with_reducible show wpAny _ _ (call (Value.builtin _) [Value.float _ _, Value.float _ _, Value.float _ _]) _ _ _); k_dflt (apply max3_T; (case _ => assumption); (case _ => assumption); (case _ => k_asm); (case _ => k_asm)); intro _ _ _ _ _ _; (try k_sweep))
  k_with "call builtin:min" => (k_here; (with_reducible show wpAny _ _ (call (Value.builtin _) [Value.float _ _, Value.float _ _, Value.float _ _]) _ _ _); k_dflt (apply min3_E; (case _ => assumption); (case _ => assumption); (case _ => k_asm); (case _ => k_asm)); intro _ _ _ _ _; (try k_sweep))
  k_with "storeName" => (k_here; k_dflt (apply store_up; (case _ => exact rfl); (case _ => exact rfl); (case _ => k_asm); (case _ => k_asm); (case _ => exact rfl)); intro _ _ hup _ _; (try dsimp only at hup))
  k_with "execs cons" => (k_here; with_reducible refine wpAny_execs_cons ?_)
  k_fill
  intro w r g b M m t1 t2 t3 _ hM hm he z1 z2
  refine' FnT.enter (binds := [(Str.ofString "r", Value.float r t1), (Str.ofString "g", Value.float g t2), (Str.ofString "b", Value.float b t3)]) ?k6 ?k7 ?k9 ?kB ?c2 ?c3 ?c4 ?c5 ?_
  case k6 => k_dflt k_is
  case k7 => k_dflt k_is
  case k9 => exact fun _ => BindsTo.of_eq rfl
  case kB => exact locs rfl
  case c2 => exact rfl
  case c3 => exact rfl
  case c4 => exact rfl
  case c5 => decide
  intro A base outer s mean mg mb L h₁ tk B F X N _ T hh hdp hun hg hp
  try dsimp only
  w_strict (
    k_steps
    all_goals (
      refine FnEndT.intro (by assumption) id rfl rfl ⟨_, _, _, _, _, rfl, (tup_end3 (by assumption) rfl rfl rfl).1, (tup_end3 (by assumption) rfl rfl rfl).2, ?_, ⟨?_, ?_⟩, by assumption⟩
      · first | ((try dsimp only at *); refine Nat.ne_of_gt ?_; omega) | ((try dsimp only at *); show @LT.lt Nat _ _ _; omega)
      · first | ((try dsimp only at *); refine Nat.ne_of_gt ?_; omega) | ((try dsimp only at *); show @LT.lt Nat _ _ _; omega)
      · first | ((try dsimp only at *); refine Nat.ne_of_gt ?_; omega) | ((try dsimp only at *); show @LT.lt Nat _ _ _; omega)))

end Mine
end
section
open PySem PySem.W PyProof.Rows PySem.Calls PySem.Flt PySem.SeqAt
set_option Elab.async false
set_option maxRecDepth 100000
set_option maxHeartbeats 40000000
namespace Mine
theorem isSame_float_ne {M : Model} {A : Around} {E : Value → Shared → Prop} {s : Shared} {x y : UInt64} {t u : Tok} {Q : Bool → Shared → Prop} (ht : t ≠ 0) (hu : u ≠ 0) (htu : t ≠ u) (hb : NoneBooked s.heap)
    (hq : ∀ b, (b = true → (x == y && !Float64.isNaN x) = true) → Q b s) : wpAny M A (isSame (.float x t) (.float y u)) Q E s := by
  show wpAny M A (isSame.created (x == y && !Float64.isNaN x) t u) Q E s
  unfold isSame.created
  rw [show (t == 0 || u == 0) = false by simp [ht, hu]]
  simp only [Bool.false_eq_true, if_false]
  refine wpAny_ite_split (fun e => absurd (eq_of_beq e) htu) (fun _ => ?_)
  refine wpAny_ite_split (fun _ => wpAny_pure (hq _ (fun e => Bool.noConfusion e))) (fun hc => ?_)
  have hc' : (x == y && !Float64.isNaN x) = true := by
    cases q : (x == y && !Float64.isNaN x) with
    | true => rfl
    | false => rw [q] at hc; exact absurd rfl hc
  refine wpAny_bind (wpAny_sharingNotTold_none hb ?_)
  simp only [Bool.false_eq_true, if_false]
  refine wpAny_bind (wpAny_sharingNotTold_none hb ?_)
  simp only [Bool.false_eq_true, if_false]
  exact wpAny_bind (wpAny_rule (wpAny_bind (wpAny_askSetting (wpAny_pure (hq _ fun _ => hc')))))
def eqB (x y : UInt64) : Bool := Float64.cmp x y == some .eq
theorem eq_float_ne {A : Around} {s : Shared} {x y : UInt64} {t u : Tok} (ht : t ≠ 0) (hu : u ≠ 0) (htu : t ≠ u) (hb : NoneBooked s.heap) : EqAt A s (.float x t) (.float y u) (eqB x y) := fun prog w E Q h => by
  unfold eqBool
  refine wpAny_holding ?_
  refine wpAny_ite_split (fun e => ?_) (fun _ => ?_)
  · have e' : (Value.float x t) = (Value.float y u) := eq_of_beq e
    cases e'; exact absurd rfl htu
  refine wpAny_bind (isSame_float_ne ht hu htu hb fun b hbb => ?_)
  cases b with
  | true =>
    simp only [if_true]
    have h1 := hbb rfl
    rw [Bool.and_eq_true] at h1
    have e : x = y := eq_of_beq h1.1
    subst e
    have e2 : eqB x x = true := by unfold eqB; rw [PySem.Flt.cmp_self]; exact h1.2
    rw [e2] at h
    exact wpAny_pure h
  | false =>
    simp only [Bool.false_eq_true, if_false]
    refine wpAny_bind ?_
    refine AutoFloatOps.eq_0 (a := x) (b := y) (t := t) (u := u) ?_
    exact wpAny_truthy_bool h
theorem eq_float_same {A : Around} {s : Shared} {x y : UInt64} {t : Tok} (ht : t ≠ 0) : EqAt A s (.float x t) (.float y t) true := fun prog w E Q h => by
  unfold eqBool
  refine wpAny_holding ?_
  refine wpAny_ite_split (fun _ => wpAny_bind (wpAny_rule (wpAny_pure h))) (fun _ => ?_)
  refine wpAny_bind ?_
  show wpAny _ _ (isSame.created (x == y && !Float64.isNaN x) t t) _ _ _
  unfold isSame.created
  rw [show (t == 0 || t == 0) = false by simp [ht]]
  simp only [Bool.false_eq_true, if_false, beq_self_eq_true, if_true]
  exact wpAny_pure (wpAny_pure h)
theorem eq_float_any {A : Around} {s : Shared} {x y : UInt64} {t u : Tok} (ht : t ≠ 0) (hu : u ≠ 0) (hb : NoneBooked s.heap) : ∃ b, EqAt A s (.float x t) (.float y u) b := by
  by_cases e : t = u
  · subst e; exact ⟨true, eq_float_same ht⟩
  · exact ⟨_, eq_float_ne ht hu e hb⟩
def pick (p q r : Bool) (j : Nat) : Bool := match j with | 0 => p | 1 => q | _ => r
theorem pick_all (p q r : Bool) : (List.range 3).all (pick p q r) = (p && q && r) := by cases p <;> cases q <;> cases r <;> rfl
theorem eq_tup3_any {A : Around} {s : Shared} {D D' : Addr} {x y z x' y' z' : UInt64} {a1 a2 a3 b1 b2 b3 : Tok} {p q r : Bool} (hne : D ≠ D') (h1 : s.heap.get? D = some (tup3 (.float x a1) (.float y a2) (.float z a3))) (h2 : s.heap.get? D' = some (tup3 (.float x' b1) (.float y' b2) (.float z' b3)))
    (hu : A.units < cLine) (h1' : EqAt A.in1 s (.float x a1) (.float x' b1) p) (h2' : EqAt A.in1 s (.float y a2) (.float y' b2) q) (h3' : EqAt A.in1 s (.float z a3) (.float z' b3) r) : EqAt A s (.ref D) (.ref D') (p && q && r) := by
  refine EqAt.of_refs hne ?_
  have := RcAt.tuples (A := A) (s := s) (e := pick p q r) ⟨_, h1, rfl, _, rfl⟩ ⟨_, h2, rfl, _, rfl⟩ hu (fun j q1 q2 => by
    match j, q1, q2 with
    | 0, _, _ => exact h1'
    | 1, _, _ => exact h2'
    | 2, _, _ => exact h3')
  have t2 : RcAt A s (.ref D) (.ref D') ((List.range 3).all (pick p q r) && true) := this
  rw [Bool.and_true, pick_all] at t2; exact t2

def allB (n : Nat) (p : Nat → Bool) : Bool := (List.range n).all p
theorem allB_at {n : Nat} {p : Nat → Bool} (h : allB n p = true) {i : Nat} (hi : i < n) : p i = true := List.all_eq_true.mp h i (List.mem_range.mpr hi)
theorem fr_lt_all : allB 12 (fun a => allB 12 fun b => ltF (fr a 64) (fr b 64) == decide (a < b)) = true := by decide +kernel
theorem fr_lt {a b : Nat} (ha : a < 12) (hb : b < 12) : ltF (fr a 64) (fr b 64) = decide (a < b) := eq_of_beq (allB_at (allB_at fr_lt_all ha) hb)
theorem fr_eq_all : allB 12 (fun a => allB 12 fun b => eqB (fr a 64) (fr b 64) == decide (a = b)) = true := by decide +kernel
theorem fr_eq {a b : Nat} (ha : a < 12) (hb : b < 12) : eqB (fr a 64) (fr b 64) = decide (a = b) := eq_of_beq (allB_at (allB_at fr_eq_all ha) hb)
theorem fr_gap_all : allB 12 (fun a => ((!Float64.isZero (fr a 64)) == decide (0 < a)) && allB a fun b => !Float64.isZero (Float64.sub (fr a 64) (fr b 64)) && !eqB (Float64.div (Float64.sub (fr a 64) (fr b 64)) (fr a 64)) 0) = true := by decide +kernel
theorem fr_gap {a b : Nat} (ha : a < 12) (hb : b < a) : Float64.isZero (fr a 64) = false ∧ Float64.isZero (Float64.sub (fr a 64) (fr b 64)) = false ∧ eqB (Float64.div (Float64.sub (fr a 64) (fr b 64)) (fr a 64)) 0 = false := by
  have h := allB_at fr_gap_all ha
  rw [Bool.and_eq_true] at h
  have h1 := eq_of_beq h.1
  have h2 := allB_at h.2 hb
  rw [Bool.and_eq_true] at h2
  rw [decide_eq_true (show 0 < a by omega)] at h1
  refine ⟨?_, ?_, ?_⟩
  · simpa using h1
  · simpa using h2.1
  · simpa using h2.2
def nmax3 (a b c : Nat) : Nat := if a < b then (if b < c then c else b) else (if a < c then c else a)
def nmin3 (a b c : Nat) : Nat := if b < a then (if c < b then c else b) else (if c < a then c else a)
theorem nm_look : allB 12 (fun a => allB 12 fun b => allB 12 fun c => decide (nmax3 a b c < 12) && decide (nmin3 a b c ≤ nmax3 a b c) && decide (nmin3 a b c = nmax3 a b c ↔ (a = b ∧ b = c)) && decide (nmin3 a b c = nmax3 a b c → nmax3 a b c = a)) = true := by decide +kernel
theorem max3_fr {a b c : Nat} (ha : a < 12) (hb : b < 12) (hc : c < 12) : ∃ M m, max3 (fr a 64) (fr b 64) (fr c 64) = fr M 64 ∧ min3 (fr a 64) (fr b 64) (fr c 64) = fr m 64 ∧ M < 12 ∧ m ≤ M ∧ (m = M ↔ (a = b ∧ b = c)) ∧ (m = M → M = a) := by
  have h := allB_at (allB_at (allB_at nm_look ha) hb) hc
  rw [Bool.and_eq_true, Bool.and_eq_true, Bool.and_eq_true] at h
  refine ⟨nmax3 a b c, nmin3 a b c, ?_, ?_, of_decide_eq_true h.1.1.1, of_decide_eq_true h.1.1.2, of_decide_eq_true h.1.2, of_decide_eq_true h.2⟩
  · unfold max3 nmax3
    rw [fr_lt ha hb, fr_lt hb hc, fr_lt ha hc]
    simp only [decide_eq_true_eq]
    split <;> split <;> rfl
  · unfold min3 nmin3
    rw [fr_lt hb ha, fr_lt hc hb, fr_lt hc ha]
    simp only [decide_eq_true_eq]
    split <;> split <;> rfl

/-- what a lamp of three counts is; `tk` is past its tokens -/
def LampT (a b c : Nat) (tk : Nat) (x y z : UInt64) (a1 a2 a3 : Tok) : Prop :=
  a1 ≠ 0 ∧ a2 ≠ 0 ∧ a3 ≠ 0 ∧ @LT.lt Nat _ a3 tk ∧ ((a = b ∧ b = c ∧ x = 0 ∧ y = 0 ∧ z = fr a 64) ∨ (¬(a = b ∧ b = c) ∧ @LT.lt Nat _ a2 tk ∧ eqB y 0 = false))
theorem LampT.mono {a b c tk tk' : Nat} {x y z : UInt64} {a1 a2 a3 : Tok} (h : LampT a b c tk x y z a1 a2 a3) (le : tk ≤ tk') : LampT a b c tk' x y z a1 a2 a3 := by
  obtain ⟨h1, h2, h3, h4, h5⟩ := h
  refine ⟨h1, h2, h3, Nat.lt_of_lt_of_le h4 le, ?_⟩
  rcases h5 with h5 | ⟨h5, h6, h7⟩
  · exact .inl h5
  · exact .inr ⟨h5, Nat.lt_of_lt_of_le h6 le, h7⟩
section
variable {w : World} {A₀ A : Around} {base h₀ : Heap} {outer : List Env} {env : Env} {L : Addr} {m : Str → Option Value} {s : Shared} {news : List (Addr × Obj)} {mean : ExcName → Option Value} {mg mb : Str → Option Value} {Q E : Value → Shared → Prop}
theorem lamp_use {a b c : Nat} {t1 t2 t3 : Tok} (ha : a < 12) (hb : b < 12) (hc : c < 12) (ht : (@LT.lt Nat _ 0 t1 ∧ @LT.lt Nat _ 0 t2 ∧ @LT.lt Nat _ 0 t3) ∧ @LT.lt Nat _ t1 s.toks ∧ @LT.lt Nat _ t2 s.toks ∧ @LT.lt Nat _ t3 s.toks)
    (B : Below A₀ base outer h₀) (F : Fr h₀ L s.heap m) (X : (hd.heap_39 w.params).In h₀) (N : News h₀ L s.heap news) (T : Top hd.view_39 (looseW hd.view_39 []) mean mg mb h₀)
    (hA : A.frames = some (env :: outer)) (hf : env.frame = some L) (hke : env.scope.kind = .function) (hh : A.handled = none) (hd' : A.depth + 1 < recursionLimit) (hu : A.units + 8 < cLine) (hg : AllBare s.gens)
    (h : ∀ D x y z a1 a2 a3 h' g' tk, Fr h₀ L h' m → News h₀ L h' ((D, tup3 (.float x a1) (.float y a2) (.float z a3)) :: news) → (∀ p ∈ news, p.1 ≠ D) → LampT a b c tk x y z a1 a2 a3 → @LE.le Nat _ s.toks tk → AllBare g' → Q (.ref D) { s with heap := h', gens := g', toks := tk }) :
    wpAny (model PG w) A (call (.ref 28) [.float (fr a 64) t1, .float (fr b 64) t2, .float (fr c 64) t3]) Q E s := by
  obtain ⟨M, m', eM, em, lM, lm, iff1, eMa⟩ := max3_fr ha hb hc
  obtain ⟨⟨p1, p2, p3⟩, q1, q2, q3⟩ := ht
  have tok : ∀ (a3 : Tok) (tk : Nat), s.toks ≤ tk → (a3 = t1 ∨ a3 = t2 ∨ a3 = t3) → a3 ≠ 0 ∧ @LT.lt Nat _ a3 tk := by
    intro a3 tk le h
    rcases h with h | h | h <;> subst h
    · exact ⟨Nat.ne_of_gt p1, Nat.lt_of_lt_of_le q1 le⟩
    · exact ⟨Nat.ne_of_gt p2, Nat.lt_of_lt_of_le q2 le⟩
    · exact ⟨Nat.ne_of_gt p3, Nat.lt_of_lt_of_le q3 le⟩
  by_cases e : m' = M
  · have lm' : m' < 12 := by omega
    refine (hsvEqT w _ _ _ _ _ t1 t2 t3 ⟨rfl, rfl⟩ eM em (by have := fr_eq lm' lM; rw [decide_eq_true e] at this; exact this)).use B F X N T hA hf hke hh hd' hu hg trivial fun v h' g' tk F' N' _ hb' le hp => ?_
    obtain ⟨D, a1, a2, a3, rfl, f1, o1, n1, n2, n3⟩ := hp
    obtain ⟨n4, n5⟩ := tok a3 tk le n3
    obtain ⟨i1, i2⟩ := iff1.mp e
    exact h D _ _ _ a1 a2 a3 h' g' tk F' (fresh_news F N' f1 o1) (fresh_ne N f1) ⟨n1, n2, n4, n5, .inl ⟨i1, i2, rfl, rfl, by rw [eMa e]⟩⟩ le hb'
  · have lm' : m' < M := by omega
    obtain ⟨g1, g2, g3⟩ := fr_gap lM lm'
    refine (hsvNeT w _ _ _ _ _ t1 t2 t3 ⟨rfl, rfl⟩ eM em (by have := fr_eq (Nat.lt_trans lm' lM) lM; rw [decide_eq_false e] at this; exact this) g1 g2).use B F X N T hA hf hke hh hd' hu hg trivial fun v h' g' tk F' N' _ hb' le hp => ?_
    obtain ⟨D, a1, a2, a3, hu', rfl, f1, o1, n1, ⟨n2, n2'⟩, n3⟩ := hp
    obtain ⟨n4, n5⟩ := tok a3 tk le n3
    exact h D _ _ _ a1 a2 a3 h' g' tk F' (fresh_news F N' f1 o1) (fresh_ne N f1) ⟨n1, n2, n4, n5, .inr ⟨fun x => e (iff1.mpr x), n2', g3⟩⟩ le hb'
end
theorem fr_inf64 {a : Nat} (ha : a < 12) : Float64.isInf (fr a 64) = false := (fr_inf a (by omega)).2
/-- the counts of a list -/
def NatL (cs : List Int) : Prop := ∀ x ∈ cs, 0 ≤ x ∧ x < 12
def Lamps (cs : List Int) (i : Nat) (ys : List Value) (ls : List (Addr × Obj)) (tk : Nat) : Prop :=
  ys.length = i ∧ ∀ j < i, ∃ D x y z a1 a2 a3, ys[j]? = some (Value.ref D) ∧ (D, tup3 (.float x a1) (.float y a2) (.float z a3)) ∈ ls ∧
    LampT (cs.getD (3 * j) 0).toNat (cs.getD (3 * j + 1) 0).toNat (cs.getD (3 * j + 2) 0).toNat tk x y z a1 a2 a3
theorem Lamps.mono {cs : List Int} {i : Nat} {ys : List Value} {ls : List (Addr × Obj)} {tk tk' : Nat} (h : Lamps cs i ys ls tk) (le : tk ≤ tk') : Lamps cs i ys ls tk' :=
  ⟨h.1, fun j hj => by obtain ⟨D, x, y, z, a1, a2, a3, p, q, r⟩ := h.2 j hj; exact ⟨D, x, y, z, a1, a2, a3, p, q, r.mono le⟩⟩
theorem Lamps.nil {cs : List Int} {tk : Nat} : Lamps cs 0 [] [] tk := ⟨rfl, fun j h => absurd h (Nat.not_lt_zero j)⟩
theorem Lamps.snoc {cs : List Int} {i : Nat} {ys : List Value} {ls : List (Addr × Obj)} {tk tk' : Nat} {D : Addr} {x y z : UInt64} {a1 a2 a3 : Tok} (h : Lamps cs i ys ls tk) (le : tk ≤ tk')
    (hl : LampT (cs.getD (3 * i) 0).toNat (cs.getD (3 * i + 1) 0).toNat (cs.getD (3 * i + 2) 0).toNat tk' x y z a1 a2 a3) : Lamps cs (i + 1) (ys ++ [.ref D]) ((D, tup3 (.float x a1) (.float y a2) (.float z a3)) :: ls) tk' := by
  refine ⟨by simp [h.1], fun j hj => ?_⟩
  rcases Nat.lt_or_ge j i with h1 | h1
  · obtain ⟨D', x', y', z', b1, b2, b3, p, q, r⟩ := (h.mono le).2 j h1
    exact ⟨D', x', y', z', b1, b2, b3, by rw [List.getElem?_append_left (by rw [h.1]; exact h1)]; exact p, .tail _ q, r⟩
  · have e : j = i := by omega
    subst e
    exact ⟨D, x, y, z, a1, a2, a3, by rw [List.getElem?_append_right (by rw [h.1]; exact Nat.le_refl _), h.1, Nat.sub_self]; rfl, .head _, hl⟩
/-- are three counts all due? -/
def dueAt (cs : List Int) (d : Int) (j : Nat) : Bool := decide (cs.getD (3 * j) 0 = d ∧ cs.getD (3 * j + 1) 0 = d ∧ cs.getD (3 * j + 2) 0 = d)
theorem natL_getD {cs : List Int} (h : NatL cs) (i : Nat) : 0 ≤ cs.getD i 0 ∧ cs.getD i 0 < 12 := by
  rw [List.getD_eq_getElem?_getD]
  cases e : cs[i]? with
  | none => exact ⟨Int.le_refl _, by decide⟩
  | some x => exact h x (List.mem_of_getElem? e)
theorem lamp_eq {A : Around} {s : Shared} {cs : List Int} {d : Nat} {j tk : Nat} {D Z : Addr} {x y z : UInt64} {a1 a2 a3 b1 b2 b3 : Tok} (hn : NatL cs) (hd : d < 12)
    (hl : LampT (cs.getD (3 * j) 0).toNat (cs.getD (3 * j + 1) 0).toNat (cs.getD (3 * j + 2) 0).toNat tk x y z a1 a2 a3) (h1 : s.heap.get? D = some (tup3 (.float x a1) (.float y a2) (.float z a3)))
    (h2 : s.heap.get? Z = some (tup3 (.float 0 b1) (.float 0 b2) (.float (fr d 64) b3))) (hne : D ≠ Z) (hb : NoneBooked s.heap) (hu : A.units < cLine) (l1 : @LT.lt Nat _ 0 b1) (l2 : @LE.le Nat _ tk b2) (l3 : @LE.le Nat _ tk b3) :
    EqAt A s (.ref D) (.ref Z) (dueAt cs (d : Int) j) := by
  have c1 := natL_getD hn (3 * j)
  have c2 := natL_getD hn (3 * j + 1)
  have c3 := natL_getD hn (3 * j + 2)
  unfold dueAt
  generalize cs.getD (3 * j) 0 = p at *
  generalize cs.getD (3 * j + 1) 0 = q at *
  generalize cs.getD (3 * j + 2) 0 = r at *
  obtain ⟨p, rfl⟩ := Int.eq_ofNat_of_zero_le c1.1
  obtain ⟨q, rfl⟩ := Int.eq_ofNat_of_zero_le c2.1
  obtain ⟨r, rfl⟩ := Int.eq_ofNat_of_zero_le c3.1
  have c1' : p < 12 := Int.ofNat_lt.mp c1.2
  clear c1 c2 c3
  simp only [Int.toNat_natCast] at hl
  obtain ⟨n1, n2, n3, n4, hl⟩ := hl
  have m1 : b1 ≠ 0 := Nat.ne_of_gt l1
  have m3 : b3 ≠ 0 := Nat.ne_of_gt (Nat.lt_of_le_of_lt (Nat.zero_le _) (Nat.lt_of_lt_of_le n4 l3))
  have m2 : b2 ≠ 0 := Nat.ne_of_gt (Nat.lt_of_le_of_lt (Nat.zero_le _) (Nat.lt_of_lt_of_le n4 l2))
  have ne3 : a3 ≠ b3 := Nat.ne_of_lt (Nat.lt_of_lt_of_le n4 l3)
  rcases hl with ⟨e1, e2, rfl, rfl, rfl⟩ | ⟨e1, e2, e3⟩
  · have t := eq_tup3_any (A := A) hne h1 h2 hu (eq_float (by decide +kernel) n1 m1 hb) (eq_float (by decide +kernel) n2 m2 hb) (eq_float_ne n3 m3 ne3 hb)
    rw [fr_eq c1' hd] at t
    subst e1
    subst e2
    have e : (true && true && decide (p = d)) = decide ((p : Int) = (d : Int) ∧ (p : Int) = (d : Int) ∧ (p : Int) = (d : Int)) := by
      simp only [Bool.true_and]
      exact decide_eq_decide.mpr ⟨fun h => ⟨congrArg _ h, congrArg _ h, congrArg _ h⟩, fun h => Int.ofNat_inj.mp h.1⟩
    rw [← e]; exact t
  · have ne2 : a2 ≠ b2 := Nat.ne_of_lt (Nat.lt_of_lt_of_le e2 l2)
    obtain ⟨u1, v1⟩ := eq_float_any (A := A.in1) (x := x) (y := 0) n1 m1 hb
    obtain ⟨u3, v3⟩ := eq_float_any (A := A.in1) (x := z) (y := fr d 64) n3 m3 hb
    have t := eq_tup3_any (A := A) hne h1 h2 hu v1 (eq_float_ne n2 m2 ne2 hb) v3
    rw [e3] at t
    have e : (u1 && false && u3) = decide ((p : Int) = (d : Int) ∧ (q : Int) = (d : Int) ∧ (r : Int) = (d : Int)) := by
      rw [Bool.and_false, Bool.false_and, decide_eq_false]
      rintro ⟨h1, h2, h3⟩
      exact e1 ⟨Int.ofNat_inj.mp (h1.trans h2.symm), Int.ofNat_inj.mp (h2.trans h3.symm)⟩
    rw [← e]; exact t
theorem csrc_rangeT {w : World} {A : Around} {h₀ : Heap} {L : Addr} {m : Str → Option Value} {env : Env} {elt : PySem.Expr} {ifs : List PySem.Expr} {x : Str} {scope : Scope} {cl : List (Str × Addr)} {s₁ : Shared} {all news : List (Addr × Obj)}
    {Fin : Shared → List Value → List (Addr × Obj) → Nat → Prop} {r : Addr} {a b c : Int} {t u v : Tok} {n : Nat} (J : Nat → List Value → List (Addr × Obj) → Nat → Prop) (hh : A.handled = none) (F : Fr h₀ L s₁.heap m) (N : News h₀ L s₁.heap all) (hb : AllBare s₁.gens) (hsub : ∀ p ∈ news, p ∈ all)
    (hr : IsRange s₁.heap r a b c t u v) (hsm : Builtin.Range.small a b c = true) (hn : Builtin.Range.rangeSize a b c = ((n : Nat) : Int)) (hsz : n ≤ sizeLine) (hJm : ∀ i ys nw t t', t ≤ t' → J i ys nw t → J i ys nw t') (h0 : J 0 [] news s₁.toks)
    (step : CStep w A h₀ L m env ifs elt x scope cl s₁ n (fun i v => ∃ t, v = .int (a + i * c) t) J) (fin : ∀ ys nw t, J n ys nw t → Fin s₁ ys nw t) : CSrc w A h₀ L m env ifs elt x scope cl Fin (.ref r) s₁ :=
  ⟨n, _, _, J, news, hh, F, news_sub N hsub, hb, hsz, .range r a b c t u v n rfl hr hsm hn, fun _ _ _ _ _ => trivial, hJm, h0, step, fin⟩
end Mine
end
section
open PySem PySem.W PyProof.Rows PySem.Calls PySem.Flt PySem.SeqAt
set_option Elab.async false
set_option maxRecDepth 100000
set_option maxHeartbeats 40000000
namespace Mine
section
variable {w : World} {A : Around} {E : Value → Shared → Prop} {s : Shared} {h₀ : Heap} {L a b : Addr} {m : Str → Option Value} {news : List (Addr × Obj)} {Q : Value → Shared → Prop} {ws xs ys : List Value} {cs : List Int} {n n1 n2 : Nat} {t u : Tok} {value slice : PySem.Expr}
theorem cs_item {e : Int} (hn : NatL cs) (N : News h₀ L s.heap news) (hm : (a, PySem.W.listOf ws.toArray n) ∈ news) (hi : IntsAre ws cs) (h0 : 0 ≤ e) (h1 : e < cs.length) (h2 : e < 2 ^ 63)
    (h : ∀ t, Q (.int (((cs.getD e.toNat 0).toNat : Nat) : Int) t) s)
    (hsub : subscripted slice false (.ref a) (.int e u) = operate [.ref a, .int e u] (getItem (.ref a) (.int e u)) := by with_unfolding_all rfl) :
    wpAny (model PG w) A (subscriptTail value slice (.ref a) (.int e u)) Q E s := by
  refine ksa_sub N hm hi h0 h1 h2 (fun t => ?_) hsub
  have := h t
  rw [Int.toNat_of_nonneg (natL_getD hn e.toNat).1] at this
  exact this
theorem toNat3 (i : Nat) : ((i : Int)).toNat = i ∧ ((i : Int) + 1).toNat = i + 1 ∧ ((i : Int) + 2).toNat = i + 2 := by omega
theorem idx_ok {j k len : Nat} (h : j < (k + 2) / 3) (hl : len = k + 2) (hk : k ≤ 11) : ((0 : Int) ≤ ((3 * j : Nat) : Int) ∧ ((3 * j : Nat) : Int) < (len : Int) ∧ ((3 * j : Nat) : Int) < 2 ^ 63) ∧
    ((0 : Int) ≤ ((3 * j : Nat) : Int) + 1 ∧ ((3 * j : Nat) : Int) + 1 < (len : Int) ∧ ((3 * j : Nat) : Int) + 1 < 2 ^ 63) ∧ ((0 : Int) ≤ ((3 * j : Nat) : Int) + 2 ∧ ((3 * j : Nat) : Int) + 2 < (len : Int) ∧ ((3 * j : Nat) : Int) + 2 < 2 ^ 63) := by
  have h1 : 3 * j + 2 < len := by omega
  have h2 : len ≤ 13 := by omega
  clear h hl hk
  generalize 3 * j = i at *
  have h3 : ((i : Int) + 2) < (len : Int) := by omega
  have h4 : (len : Int) ≤ 13 := by omega
  have h5 : (0 : Int) ≤ (i : Int) := Int.natCast_nonneg i
  clear h1 h2
  generalize (i : Int) = x at *
  generalize (len : Int) = y at *
  refine ⟨⟨h5, ?_, ?_⟩, ⟨?_, ?_, ?_⟩, ⟨?_, h3, ?_⟩⟩ <;> omega
theorem natL_lt (hn : NatL cs) (i : Nat) : (cs.getD i 0).toNat < 12 := by have := natL_getD hn i; omega
theorem eq_lamps {ls : List (Addr × Obj)} {tk d : Nat} {Z : Addr} {zs : List Value} {b1 b2 b3 : Tok} (hb : NoneBooked h₀) (F : Fr h₀ L s.heap m) (N : News h₀ L s.heap news) (h1 : (a, PySem.W.listOf ys.toArray n1) ∈ news) (h2 : (b, PySem.W.listOf zs.toArray n2) ∈ news)
    (hZ : (Z, tup3 (.float 0 b1) (.float 0 b2) (.float (fr d 64) b3)) ∈ news) (hl : Lamps cs n ys ls tk) (hz : zs = List.replicate n (.ref Z)) (s1 : ∀ p ∈ ls, p ∈ news) (hne : ∀ p ∈ ls, p.1 ≠ Z) (hn : NatL cs) (hd : d < 12) (hu : A.units + 2 < cLine)
    (l1 : @LT.lt Nat _ 0 b1) (l2 : @LE.le Nat _ tk b2) (l3 : @LE.le Nat _ tk b3) (h : Q (.bool ((List.range n).all (dueAt cs (d : Int)))) s) : wpAny (model PG w) A (compareOp .Eq (.ref a) (.ref b)) Q E s := by
  subst hz
  refine eq_listAt (e := dueAt cs (d : Int)) (PySem.IsL.isList (n := n1) (N _ h1).1) (PySem.IsL.isList (n := n2) (N _ h2).1) (by simp [hl.1]) (by omega) (fun j q1 q2 => ?_) (by simp only [List.size_toArray, hl.1]; exact h)
  simp only [List.size_toArray] at q1
  rw [hl.1] at q1
  obtain ⟨D, x, y, z, a1, a2, a3, e1, e2, e3⟩ := hl.2 j q1
  have v1 : ys.toArray[j] = .ref D := by
    rw [List.getElem_toArray]
    exact Option.some.inj ((List.getElem?_eq_getElem _).symm.trans e1)
  have v2 : (List.replicate n (Value.ref Z)).toArray[j] = .ref Z := by simp
  rw [v1, v2]
  exact lamp_eq hn hd e3 (N _ (s1 _ e2)).1 (N _ hZ).1 (hne _ e2) (nb_keep F.keep hb) (by show A.units + 1 < cLine; omega) l1 l2 l3
theorem eq_ints {ns ms : List Int} (N : News h₀ L s.heap news) (h1 : (a, PySem.W.listOf xs.toArray n1) ∈ news) (h2 : (b, PySem.W.listOf ys.toArray n2) ∈ news) (hi : IntsAre xs ns) (hj : IntsAre ys ms) (hlen : ns.length = ms.length) (hu : A.units < cLine)
    (h : Q (.bool (decide (ns = ms))) s) : wpAny (model PG w) A (compareOp .Eq (.ref a) (.ref b)) Q E s := by
  refine eq_listAt (e := fun j => decide (ns.getD j 0 = ms.getD j 0)) (PySem.IsL.isList (n := n1) (N _ h1).1) (PySem.IsL.isList (n := n2) (N _ h2).1) (by simp [hi.length, hj.length, hlen]) hu (fun j q1 q2 => ?_) ?_
  · obtain ⟨x, t, e1, f1⟩ := ints_nth hi (i := j) (v := xs.toArray[j]) (by simp only [List.size_toArray] at q1; simp [q1])
    obtain ⟨y, u, e2, f2⟩ := ints_nth hj (i := j) (v := ys.toArray[j]) (by simp only [List.size_toArray] at q2; simp [q2])
    rw [e1, e2]
    have := EqAt.int_int (A := A.in1) (s := s) x t y u
    have g1 : ns.getD j 0 = x := by rw [List.getD_eq_getElem?_getD, f1]; rfl
    have g2 : ms.getD j 0 = y := by rw [List.getD_eq_getElem?_getD, f2]; rfl
    rw [g1, g2]
    first | exact this | (have e : (x == y) = decide (x = y) := rfl; rw [← e]; exact this)
  · have e : (List.range xs.toArray.size).all (fun j => decide (ns.getD j 0 = ms.getD j 0)) = decide (ns = ms) := by
      rw [List.size_toArray, hi.length]
      by_cases q : ns = ms
      · subst q; simp
      · rw [decide_eq_false q]
        cases r : (List.range ns.length).all (fun j => decide (ns.getD j 0 = ms.getD j 0)) with
        | false => rfl
        | true =>
          exfalso
          apply q
          apply List.ext_getElem hlen
          intro j h1 h2
          have := List.all_eq_true.mp r j (List.mem_range.mpr h1)
          have := of_decide_eq_true this
          simpa [List.getD_eq_getElem?_getD, h1, h2] using this
    rw [e]; exact h
theorem len_N {k tk0 : Nat} {ls : List (Addr × Obj)} (hl : Lamps cs k ws ls tk0) (N : News h₀ L s.heap news) (hm : (a, PySem.W.listOf ws.toArray n) ∈ news) (hs : k ≤ 1000) (h : ∀ t tk, Q (.int (k : Int) t) { s with toks := tk }) :
    wpAny (model PG w) A (call (.builtin "len") [.ref a]) Q E s := by
  have e : ws.toArray.size = k := by rw [List.size_toArray]; exact hl.1
  exact len_list (PySem.IsL.isList (n := n) (N _ hm).1) (by rw [e]; omega) (by rw [e]; exact h _ _)
theorem stopE {l r : Addr} (h : StopW (wpAny (model PG w) A (compareOp .Eq (.ref l) (.ref r)) Q E s)) : wpAny (model PG w) A (compareOp .Eq (.ref l) (.ref r)) Q E s := h.out
theorem flat_one {z : Value} (k : Nat) : (List.replicate k [z]).flatten = List.replicate k z := by
  induction k with
  | zero => rfl
  | succ k ih => rw [List.replicate_succ, List.flatten_cons, ih]; rfl
theorem mul_one_E {k : Nat} {z : Value} (F : Fr h₀ L s.heap m) (N : News h₀ L s.heap news) (hm : (a, PySem.W.listOf [z].toArray n) ∈ news) (hk : k ≤ 256)
    (h : ∀ D h', Fr h₀ L h' m → News h₀ L h' ((D, PySem.W.listOf (List.replicate k z).toArray 0) :: news) → (∀ p ∈ news, p.1 < D) → Q (.ref D) { s with heap := h' }) : wpAny (model PG w) A (binaryOp .Mult (.ref a) (.int (k : Int) u)) Q E s :=
  KMa.mul F N (vs := [z]) (PySem.IsL.isList (n := n) (N _ hm).1) (by omega) (by omega) (by rw [Int.toNat_natCast]; simp; omega) (by rw [Int.toNat_natCast]; exact flat_one k) h
theorem allLt_ne {d : Addr} : ∀ {l : List (Addr × Obj)}, AllLt d l → ∀ p ∈ l, p.1 ≠ d
  | [], _, _, hp => nomatch hp
  | _ :: _, h, p, hp => by
    rcases List.mem_cons.mp hp with rfl | hp
    · exact Nat.ne_of_lt h.1
    · exact allLt_ne h.2 p hp
end
end Mine
end
section
set_option Elab.async false
set_option maxRecDepth 100000
set_option maxHeartbeats 40000000
namespace Mine
def SL : List Int → (Int → Int) → Int
  | [], _ => 0
  | a :: l, f => f a + SL l f
def SR : Nat → (Int → Int) → Int
  | 0, _ => 0
  | n + 1, f => SR n f + f (n : Int)

theorem SL_congr {f g : Int → Int} : ∀ {l : List Int}, (∀ a ∈ l, f a = g a) → SL l f = SL l g
  | [], _ => rfl
  | a :: l, h => by
    show f a + SL l f = g a + SL l g
    rw [h a List.mem_cons_self, SL_congr fun b hb => h b (List.mem_cons_of_mem _ hb)]
theorem SL_add (f g : Int → Int) : ∀ l : List Int, SL l (fun a => f a + g a) = SL l f + SL l g
  | [] => rfl
  | a :: l => by
    show f a + g a + SL l _ = f a + SL l f + (g a + SL l g)
    rw [SL_add f g l]; omega
theorem SL_mul (c : Int) (f : Int → Int) : ∀ l : List Int, SL l (fun a => c * f a) = c * SL l f
  | [] => by simp [SL]
  | a :: l => by
    show c * f a + SL l _ = c * (f a + SL l f)
    rw [SL_mul c f l, Int.mul_add]
theorem SL_const (c : Int) : ∀ l : List Int, SL l (fun _ => c) = l.length * c
  | [] => by simp [SL]
  | a :: l => by
    show c + SL l _ = _
    rw [SL_const c l, List.length_cons, Int.natCast_add, Int.add_mul]; omega
theorem SL_swap (f : Int → Int → Int) (m : List Int) : ∀ l : List Int, SL l (fun a => SL m (fun b => f a b)) = SL m (fun b => SL l (fun a => f a b))
  | [] => by
    show 0 = SL m (fun _ => 0)
    rw [SL_const]; omega
  | a :: l => by
    show SL m (fun b => f a b) + SL l _ = SL m (fun b => f a b + SL l (fun a => f a b))
    rw [SL_swap f m l, SL_add]
theorem SL_map (g f : Int → Int) : ∀ l : List Int, SL (l.map g) f = SL l (fun a => f (g a))
  | [] => rfl
  | a :: l => by
    show f (g a) + SL (l.map g) f = _
    rw [SL_map g f l]; rfl
theorem SL_append (f : Int → Int) (m : List Int) : ∀ l : List Int, SL (l ++ m) f = SL l f + SL m f
  | [] => by show SL m f = 0 + SL m f; omega
  | a :: l => by
    show f a + SL (l ++ m) f = f a + SL l f + SL m f
    rw [SL_append f m l]; omega
theorem SL_perm {f : Int → Int} {l m : List Int} (p : l.Perm m) : SL l f = SL m f := by
  induction p with
  | nil => rfl
  | cons a _ ih => show f a + _ = f a + _; rw [ih]
  | swap a b l => show f b + (f a + SL l f) = f a + (f b + SL l f); omega
  | trans _ _ h1 h2 => rw [h1, h2]
theorem SL_dvd {c : Int} {f : Int → Int} : ∀ {l : List Int}, (∀ a ∈ l, c ∣ f a) → c ∣ SL l f
  | [], _ => ⟨0, by simp [SL]⟩
  | a :: l, h => Int.dvd_add (h a List.mem_cons_self) (SL_dvd fun b hb => h b (List.mem_cons_of_mem _ hb))
theorem SL_nonneg {f : Int → Int} : ∀ {l : List Int}, (∀ a ∈ l, 0 ≤ f a) → 0 ≤ SL l f
  | [], _ => Int.le_refl _
  | a :: l, h => Int.add_nonneg (h a List.mem_cons_self) (SL_nonneg fun b hb => h b (List.mem_cons_of_mem _ hb))
theorem SL_sum : ∀ l : List Int, SL l (fun a => a) = l.sum
  | [] => rfl
  | a :: l => by show a + SL l _ = _; rw [SL_sum l, List.sum_cons]

theorem SR_congr {f g : Int → Int} : ∀ {n : Nat}, (∀ i : Nat, i < n → f i = g i) → SR n f = SR n g
  | 0, _ => rfl
  | n + 1, h => by
    show SR n f + f n = SR n g + g n
    rw [h n (Nat.lt_succ_self _), SR_congr fun i hi => h i (Nat.lt_succ_of_lt hi)]
theorem SR_add (f g : Int → Int) : ∀ n : Nat, SR n (fun a => f a + g a) = SR n f + SR n g
  | 0 => rfl
  | n + 1 => by
    show SR n _ + (f n + g n) = SR n f + f n + (SR n g + g n)
    rw [SR_add f g n]; omega
theorem SR_mul (c : Int) (f : Int → Int) : ∀ n : Nat, SR n (fun a => c * f a) = c * SR n f
  | 0 => by simp [SR]
  | n + 1 => by
    show SR n _ + c * f n = c * (SR n f + f n)
    rw [SR_mul c f n, Int.mul_add]
theorem SR_const (c : Int) : ∀ n : Nat, SR n (fun _ => c) = n * c
  | 0 => by simp [SR]
  | n + 1 => by
    show SR n _ + c = _
    rw [SR_const c n, Int.natCast_add, Int.add_mul]; omega
theorem SR_SL (f : Int → Int → Int) (l : List Int) : ∀ n : Nat, SR n (fun i => SL l (fun b => f i b)) = SL l (fun b => SR n (fun i => f i b))
  | 0 => by
    show 0 = SL l (fun _ => 0)
    rw [SL_const]; omega
  | n + 1 => by
    show SR n _ + SL l (fun b => f n b) = SL l (fun b => SR n (fun i => f i b) + f n b)
    rw [SR_SL f l n, SL_add]
theorem SR_swap (f : Int → Int → Int) (m : Nat) : ∀ n : Nat, SR n (fun i => SR m (fun b => f i b)) = SR m (fun b => SR n (fun i => f i b))
  | 0 => by
    show 0 = SR m (fun _ => 0)
    rw [SR_const]; omega
  | n + 1 => by
    show SR n _ + SR m (fun b => f n b) = SR m (fun b => SR n (fun i => f i b) + f n b)
    rw [SR_swap f m n, SR_add]

def dl (v : Nat) (y : Int) : Int := if y % (v : Int) = 0 then 1 else 0
def Per (v : Nat) (f : Int → Int) : Prop := ∀ x y : Int, x % (v : Int) = y % (v : Int) → f x = f y
theorem dl_01 (v : Nat) (y : Int) : 0 ≤ dl v y ∧ dl v y ≤ 1 := by unfold dl; split <;> omega
theorem dl_per (v : Nat) : Per v (dl v) := fun x y h => by unfold dl; rw [h]
theorem Per.shift {v : Nat} {f : Int → Int} (h : Per v f) (c : Int) : Per v (fun y => f (y + c)) := fun x y e => h _ _ (by rw [Int.add_emod, e, ← Int.add_emod])
theorem Per.shiftl {v : Nat} {f : Int → Int} (h : Per v f) (c : Int) : Per v (fun y => f (c + y)) := fun x y e => h _ _ (by rw [Int.add_emod, e, ← Int.add_emod])
theorem Per.mulc {v : Nat} {f : Int → Int} (h : Per v f) (c : Int) : Per v (fun y => f (c * y)) := fun x y e => h _ _ (by rw [Int.mul_emod, e, ← Int.mul_emod])
theorem dl_sub {v : Nat} {x y : Int} : dl v (x - y) = if x % (v : Int) = y % (v : Int) then 1 else 0 := by
  unfold dl
  by_cases h : x % (v : Int) = y % (v : Int)
  · rw [if_pos h, if_pos (Int.emod_eq_emod_iff_emod_sub_eq_zero.mp h)]
  · rw [if_neg h, if_neg (fun e => h (Int.emod_eq_emod_iff_emod_sub_eq_zero.mpr e))]
theorem dl_comm {v : Nat} {x y : Int} : dl v (x - y) = dl v (y - x) := by
  rw [dl_sub, dl_sub]
  by_cases h : x % (v : Int) = y % (v : Int)
  · rw [if_pos h, if_pos h.symm]
  · rw [if_neg h, if_neg (fun e => h e.symm)]
theorem dl_neg {v : Nat} {y : Int} : dl v (-y) = dl v y := by
  have := dl_comm (v := v) (x := 0) (y := y)
  rw [Int.zero_sub, Int.sub_zero] at this; exact this
theorem SR_delta {v : Nat} (hv : 0 < v) {g : Int → Int} (hg : Per v g) (y : Int) : SR v (fun i => dl v (y - i) * g i) = g y := by
  have h0 : 0 ≤ y % (v : Int) := Int.emod_nonneg _ (by omega)
  have h1 : y % (v : Int) < v := Int.emod_lt_of_pos _ (by omega)
  obtain ⟨r, hr⟩ : ∃ r : Nat, y % (v : Int) = (r : Int) := ⟨(y % (v : Int)).toNat, by omega⟩
  have key : ∀ n : Nat, n ≤ v → SR n (fun i => dl v (y - i) * g i) = if r < n then g r else 0 := by
    intro n
    induction n with
    | zero => intro _; rfl
    | succ n ih =>
      intro hn
      show SR n _ + dl v (y - n) * g n = _
      rw [ih (by omega), dl_sub, hr, Int.emod_eq_of_lt (by omega : (0 : Int) ≤ (n : Int)) (by omega : (n : Int) < (v : Int))]
      by_cases e : r = n
      · subst e
        rw [if_neg (by omega), if_pos rfl, if_pos (by omega)]; omega
      · rw [if_neg (show ¬((r : Int) = (n : Int)) by omega)]
        by_cases e2 : r < n
        · rw [if_pos e2, if_pos (by omega)]; omega
        · rw [if_neg e2, if_neg (by omega)]; omega
  rw [key v (Nat.le_refl _), if_pos (by omega)]
  exact hg _ _ (by rw [← hr, Int.emod_emod_of_dvd _ (Int.dvd_refl _)])
theorem SR_one {v : Nat} (hv : 0 < v) (y : Int) : SR v (fun i => dl v (y - i)) = 1 := by
  have := SR_delta hv (g := fun _ => 1) (fun _ _ _ => rfl) y
  rw [← this]; exact SR_congr fun i _ => by omega
theorem SR_shift {v : Nat} (hv : 0 < v) {f : Int → Int} (hf : Per v f) (c : Int) : SR v (fun i => f (c + i)) = SR v f := by
  have e1 : SR v (fun i => f (c + i)) = SR v (fun i => SR v (fun j => f j * dl v (j - c - i))) := SR_congr fun i _ => by
    rw [← SR_delta hv hf (c + i)]
    refine SR_congr fun j _ => ?_
    rw [dl_comm, show (j : Int) - (c + i) = j - c - i by omega, Int.mul_comm]
  rw [e1, SR_swap]
  refine SR_congr fun j _ => ?_
  rw [SR_mul, SR_one hv]; omega
theorem SR_dl {v : Nat} (hv : 0 < v) : SR v (dl v) = 1 := by
  rw [← SR_one hv 0]
  exact SR_congr fun i _ => by rw [Int.zero_sub, dl_neg]

/-- how often a difference comes -/
def R (v : Nat) (H : List Int) (d : Int) : Int := SL H fun a => SL H fun b => dl v (b - a - d)
def Dif (v : Nat) (n la : Int) (H : List Int) : Prop := ∀ d : Int, R v H d = if d % (v : Int) = 0 then n else la
theorem base {v : Nat} (hv : 0 < v) {n la : Int} {H : List Int} (hD : Dif v n la H) {g : Int → Int} (hg : Per v g) : SL H (fun a => SL H fun b => g (b - a)) = (n - la) * g 0 + la * SR v g := by
  have e1 : SL H (fun a => SL H fun b => g (b - a)) = SL H (fun a => SL H fun b => SR v fun i => g i * dl v (b - a - i)) :=
    SL_congr fun a _ => SL_congr fun b _ => by
      rw [← SR_delta hv hg (b - a)]
      exact SR_congr fun i _ => Int.mul_comm _ _
  have e2 : ∀ a : Int, SL H (fun b => SR v fun i => g i * dl v (b - a - i)) = SR v fun i => SL H fun b => g i * dl v (b - a - i) := fun a => (SR_SL _ H v).symm
  rw [e1, SL_congr (fun a _ => e2 a), ← SR_SL]
  have e3 : ∀ i : Nat, SL H (fun a => SL H fun b => g i * dl v (b - a - i)) = la * g i + (n - la) * (dl v (0 - i) * g i) := by
    intro i
    rw [SL_congr (fun a _ => SL_mul (g i) (fun b => dl v (b - a - i)) H), SL_mul]
    have := hD i
    unfold R at this
    rw [this, Int.zero_sub, dl_neg]
    unfold dl
    split
    · rw [Int.one_mul, Int.sub_mul, Int.mul_comm]; omega
    · rw [Int.zero_mul, Int.mul_zero, Int.mul_comm]; omega
  rw [SR_congr (g := fun i => la * g i + (n - la) * (dl v (0 - i) * g i)) (fun i _ => e3 i), SR_add, SR_mul, SR_mul, SR_delta hv hg 0]; omega

theorem frob2 (φ : Int → Int) : ∀ l : List Int, (2 : Int) ∣ SL l (fun b => SL l fun c => φ (b + c)) - SL l (fun b => φ (2 * b))
  | [] => ⟨0, by simp [SL]⟩
  | x :: l => by
    obtain ⟨k, hk⟩ := frob2 φ l
    have e1 : SL (x :: l) (fun b => SL (x :: l) fun c => φ (b + c)) = φ (x + x) + SL l (fun c => φ (x + c)) + (SL l (fun b => φ (b + x)) + SL l (fun b => SL l fun c => φ (b + c))) := by
      show φ (x + x) + SL l (fun c => φ (x + c)) + SL l (fun b => φ (b + x) + SL l fun c => φ (b + c)) = _
      rw [SL_add]
    have e2 : SL l (fun b => φ (b + x)) = SL l (fun c => φ (x + c)) := SL_congr fun b _ => by rw [Int.add_comm]
    have e3 : SL (x :: l) (fun b => φ (2 * b)) = φ (x + x) + SL l (fun b => φ (2 * b)) := by
      show φ (2 * x) + _ = _
      rw [show 2 * x = x + x by omega]
    rw [e1, e2, e3]
    exact ⟨SL l (fun c => φ (x + c)) + k, by omega⟩
theorem frob3 (φ : Int → Int) : ∀ l : List Int, (3 : Int) ∣ SL l (fun b => SL l fun c => SL l fun e => φ (b + c + e)) - SL l (fun b => φ (3 * b))
  | [] => ⟨0, by simp [SL]⟩
  | x :: l => by
    obtain ⟨k, hk⟩ := frob3 φ l
    have i1 : ∀ b c : Int, SL (x :: l) (fun e => φ (b + c + e)) = φ (b + c + x) + SL l (fun e => φ (b + c + e)) := fun b c => rfl
    have i2 : ∀ b : Int, SL (x :: l) (fun c => SL (x :: l) fun e => φ (b + c + e)) = φ (b + x + x) + SL l (fun e => φ (b + x + e)) + (SL l (fun c => φ (b + c + x)) + SL l (fun c => SL l fun e => φ (b + c + e))) := fun b => by
      show φ (b + x + x) + SL l (fun e => φ (b + x + e)) + SL l (fun c => φ (b + c + x) + SL l fun e => φ (b + c + e)) = _
      rw [SL_add]
    have e1 : SL (x :: l) (fun b => SL (x :: l) fun c => SL (x :: l) fun e => φ (b + c + e)) =
        (φ (x + x + x) + SL l (fun e => φ (x + x + e)) + (SL l (fun c => φ (x + c + x)) + SL l (fun c => SL l fun e => φ (x + c + e)))) +
        (SL l (fun b => φ (b + x + x)) + SL l (fun b => SL l (fun e => φ (b + x + e))) + (SL l (fun b => SL l (fun c => φ (b + c + x))) + SL l (fun b => SL l (fun c => SL l fun e => φ (b + c + e))))) := by
      show SL (x :: l) (fun c => SL (x :: l) fun e => φ (x + c + e)) + SL l (fun b => SL (x :: l) (fun c => SL (x :: l) fun e => φ (b + c + e))) = _
      rw [i2 x, SL_congr (fun b _ => i2 b), SL_add, SL_add, SL_add]
    have j1 : SL l (fun c => φ (x + c + x)) = SL l (fun e => φ (x + x + e)) := SL_congr fun c _ => by rw [show x + c + x = x + x + c by omega]
    have j2 : SL l (fun b => φ (b + x + x)) = SL l (fun e => φ (x + x + e)) := SL_congr fun c _ => by rw [show c + x + x = x + x + c by omega]
    have j3 : SL l (fun b => SL l (fun e => φ (b + x + e))) = SL l (fun c => SL l fun e => φ (x + c + e)) := SL_congr fun b _ => SL_congr fun e _ => by rw [show b + x + e = x + b + e by omega]
    have j4 : SL l (fun b => SL l (fun c => φ (b + c + x))) = SL l (fun c => SL l fun e => φ (x + c + e)) := SL_congr fun b _ => SL_congr fun e _ => by rw [show b + e + x = x + b + e by omega]
    have e3 : SL (x :: l) (fun b => φ (3 * b)) = φ (x + x + x) + SL l (fun b => φ (3 * b)) := by
      show φ (3 * x) + _ = _
      rw [show 3 * x = x + x + x by omega]
    rw [e1, j1, j2, j3, j4, e3]
    exact ⟨SL l (fun e => φ (x + x + e)) + SL l (fun c => SL l fun e => φ (x + c + e)) + k, by omega⟩
end Mine
end
section
set_option Elab.async false
set_option maxRecDepth 100000
set_option maxHeartbeats 40000000
namespace Mine
/-- the shared places of `t` times the list and the list turned by `x` -/
def Gt (v : Nat) (H : List Int) (t x : Int) : Int := SL H fun a => SL H fun b => dl v (x + t * b - a)
section
variable {v : Nat} {n la : Int} {H : List Int}
theorem SL_sub_dvd {c : Int} {f g : Int → Int} {l : List Int} (h : ∀ a ∈ l, c ∣ f a - g a) : c ∣ SL l f - SL l g := by
  have e : SL l (fun a => f a - g a) + SL l g = SL l f := by
    rw [← SL_add]; exact SL_congr fun a _ => by omega
  rw [← e, Int.add_sub_cancel]
  exact SL_dvd h
theorem claim2 (hv : 0 < v) (hD : Dif v n la H) (hn : n = H.length) (o1 : (2 : Int) ∣ n - la) (o2 : (2 : Int) ∣ la - 1) (o3 : (2 : Int) ∣ n - 1) :
    ∀ (k : Nat) (f : Int → Int) (x : Int), Per v f → (2 : Int) ∣ SL H (fun a => SL H fun b => f (x + 2 ^ k * b - a)) - SR v f
  | 0, f, x, hf => by
    have e : SL H (fun a => SL H fun b => f (x + 2 ^ 0 * b - a)) = SL H (fun a => SL H fun b => (fun y => f (x + y)) (b - a)) :=
      SL_congr fun a _ => SL_congr fun b _ => by show f _ = f _; congr 1; omega
    rw [e, base hv hD (hf.shiftl x), SR_shift hv hf]
    obtain ⟨p, hp⟩ := o1
    obtain ⟨q, hq⟩ := o2
    have e2 : (n - la) * f (x + 0) + la * SR v f - SR v f = 2 * (p * f (x + 0) + q * SR v f) := by
      have : la * SR v f = (la - 1) * SR v f + SR v f := by rw [Int.sub_mul, Int.one_mul]; omega
      rw [this, hp, hq, Int.mul_assoc, Int.mul_assoc, Int.mul_add]; omega
    exact ⟨_, e2⟩
  | k + 1, f, x, hf => by
    have hpow : (2 : Int) ^ (k + 1) = 2 ^ k * 2 := Int.pow_succ 2 k
    -- first the square
    have s1 : (2 : Int) ∣ SL H (fun a => SL H fun b => SL H fun c => f (x + 2 ^ k * (b + c) - a)) - SL H (fun a => SL H fun b => f (x + 2 ^ (k + 1) * b - a)) := by
      refine SL_sub_dvd fun a _ => ?_
      have := frob2 (fun m => f (x + 2 ^ k * m - a)) H
      have e : SL H (fun b => f (x + 2 ^ k * (2 * b) - a)) = SL H (fun b => f (x + 2 ^ (k + 1) * b - a)) := SL_congr fun b _ => by rw [hpow, Int.mul_assoc]
      rw [e] at this; exact this
    have s2 : SL H (fun a => SL H fun b => SL H fun c => f (x + 2 ^ k * (b + c) - a)) = SL H (fun c => SL H fun a => SL H fun b => (fun y => f (y + 2 ^ k * c)) (x + 2 ^ k * b - a)) := by
      have e1 : ∀ a : Int, SL H (fun b => SL H fun c => f (x + 2 ^ k * (b + c) - a)) = SL H (fun c => SL H fun b => (fun y => f (y + 2 ^ k * c)) (x + 2 ^ k * b - a)) := fun a => by
        rw [SL_swap]
        exact SL_congr fun c _ => SL_congr fun b _ => by
          show f _ = f _
          congr 1; rw [Int.mul_add]; omega
      rw [SL_congr fun a _ => e1 a, SL_swap]
    have s3 : (2 : Int) ∣ SL H (fun c => SL H fun a => SL H fun b => (fun y => f (y + 2 ^ k * c)) (x + 2 ^ k * b - a)) - SL H (fun _ => SR v f) := by
      refine SL_sub_dvd fun c _ => ?_
      have := claim2 hv hD hn o1 o2 o3 k (fun y => f (y + 2 ^ k * c)) x (hf.shift _)
      have e : SR v (fun y => f (y + 2 ^ k * c)) = SR v f := by
        rw [← SR_shift hv hf (2 ^ k * c)]
        exact SR_congr fun i _ => by rw [Int.add_comm]
      rw [e] at this; exact this
    rw [SL_const, ← hn, ← s2] at s3
    obtain ⟨p, hp⟩ := s1
    obtain ⟨q, hq⟩ := s3
    obtain ⟨r, hr⟩ := o3
    refine ⟨q - p + r * SR v f, ?_⟩
    have : n * SR v f = (n - 1) * SR v f + SR v f := by rw [Int.sub_mul, Int.one_mul]; omega
    rw [this, hr, Int.mul_assoc] at hq
    rw [Int.mul_add, Int.mul_sub]; omega
theorem claim3 (hv : 0 < v) (hD : Dif v 11 5 H) (hn : H.length = 11) (f : Int → Int) (x : Int) (hf : Per v f) : (3 : Int) ∣ SL H (fun a => SL H fun b => f (x + 3 * b - a)) - 2 * SR v f := by
  have s1 : (3 : Int) ∣ SL H (fun a => SL H fun b => SL H fun c => SL H fun e => f (x + (b + c + e) - a)) - SL H (fun a => SL H fun b => f (x + 3 * b - a)) :=
    SL_sub_dvd fun a _ => frob3 (fun m => f (x + m - a)) H
  have s2 : SL H (fun a => SL H fun b => SL H fun c => SL H fun e => f (x + (b + c + e) - a)) = SL H (fun a => SL H fun b => (fun y => SL H fun c => SL H fun e => f (x + (y + (c + e)))) (b - a)) :=
    SL_congr fun a _ => SL_congr fun b _ => SL_congr fun c _ => SL_congr fun e _ => by congr 1; omega
  have hp : Per v (fun y => SL H fun c => SL H fun e => f (x + (y + (c + e)))) := fun y z h => SL_congr fun c _ => SL_congr fun e _ => ((hf.shiftl x).shift (c + e)) y z h
  have s3 : SR v (fun y => SL H fun c => SL H fun e => f (x + (y + (c + e)))) = 121 * SR v f := by
    rw [SR_SL]
    have e1 : ∀ c : Int, SR v (fun y => SL H fun e => f (x + (y + (c + e)))) = 11 * SR v f := fun c => by
      rw [SR_SL]
      have e2 : ∀ e : Int, SR v (fun y => f (x + (y + (c + e)))) = SR v f := fun e => by
        rw [← SR_shift hv hf (x + c + e)]
        exact SR_congr fun i _ => by congr 1; omega
      rw [SL_congr fun e _ => e2 e, SL_const, hn]; rfl
    rw [SL_congr fun c _ => e1 c, SL_const, hn]; omega
  rw [s2, base hv hD hp, s3] at s1
  obtain ⟨p, hp'⟩ := s1
  exact ⟨2 * SL H (fun c => SL H fun e => f (x + (0 + (c + e)))) + 201 * SR v f - p, by omega⟩

theorem G_nonneg (t x : Int) : 0 ≤ Gt v H t x := SL_nonneg fun a _ => SL_nonneg fun b _ => (dl_01 v _).1
theorem G_sum (hv : 0 < v) (t : Int) : SR v (Gt v H t) = H.length * H.length := by
  have e0 : SR v (Gt v H t) = SR v (fun x => SL H fun a => SL H fun b => dl v (x + t * b - a)) := rfl
  rw [e0, SR_SL]
  have e1 : ∀ a : Int, SR v (fun x => SL H fun b => dl v (x + t * b - a)) = H.length := fun a => by
    rw [SR_SL]
    have e2 : ∀ b : Int, SR v (fun x => dl v (x + t * b - a)) = 1 := fun b => by
      rw [← SR_dl hv, ← SR_shift hv (dl_per v) (t * b - a)]
      exact SR_congr fun i _ => by congr 1; omega
    rw [SL_congr fun b _ => e2 b, SL_const]; omega
  rw [SL_congr fun a _ => e1 a, SL_const]
theorem SR_sq (hv : 0 < v) (hD : Dif v n la H) (t : Int) : SR v (fun x => Gt v H t x * Gt v H t x) = (n - la) * ((n - la) * 1 + la * SR v (fun i => dl v (t * i))) + la * (H.length * H.length) := by
  have gp : Per v (Gt v H t) := fun x y h => SL_congr fun a _ => SL_congr fun b _ => dl_per v _ _ (by
    rw [show x + t * b - a = x + (t * b - a) by omega, show y + t * b - a = y + (t * b - a) by omega, Int.add_emod, h, ← Int.add_emod])
  have e1 : ∀ x : Int, Gt v H t x * Gt v H t x = SL H (fun a => SL H fun b => dl v ((a - t * b) - x) * Gt v H t x) := fun x => by
    have : ∀ c : Int, Gt v H t x * c = SL H (fun a => SL H fun b => dl v ((a - t * b) - x) * c) := fun c => by
      have q : SL H (fun a => SL H fun b => dl v ((a - t * b) - x) * c) = SL H (fun a => c * SL H fun b => dl v (x + t * b - a)) := SL_congr fun a _ => by
        rw [← SL_mul]
        exact SL_congr fun b _ => by rw [Int.mul_comm, ← dl_neg, show -(a - t * b - x) = x + t * b - a by omega]
      rw [q, SL_mul, Int.mul_comm]; rfl
    exact this _
  have e2 : SR v (fun x => Gt v H t x * Gt v H t x) = SL H (fun a => SL H fun b => Gt v H t (a - t * b)) := by
    rw [SR_congr (g := fun x => SL H (fun a => SL H fun b => dl v ((a - t * b) - x) * Gt v H t x)) (fun i _ => e1 i), SR_SL]
    refine SL_congr fun a _ => ?_
    rw [SR_SL]
    exact SL_congr fun b _ => SR_delta hv gp _
  have e3 : SL H (fun a => SL H fun b => Gt v H t (a - t * b)) = SL H (fun b => SL H fun b' => SL H fun a' => SL H fun a => (fun y => dl v (t * (b' - b) + y)) (a - a')) := by
    rw [SL_swap]
    refine SL_congr fun b _ => ?_
    have : ∀ a : Int, Gt v H t (a - t * b) = SL H (fun b' => SL H fun a' => (fun y => dl v (t * (b' - b) + y)) (a - a')) := fun a => by
      unfold Gt
      rw [SL_swap]
      exact SL_congr fun b' _ => SL_congr fun a' _ => by
        show dl v _ = dl v _
        congr 1; rw [Int.mul_sub]; omega
    rw [SL_congr fun a _ => this a, SL_swap]
    exact SL_congr fun b' _ => SL_swap _ _ _
  have e4 : ∀ b b' : Int, SL H (fun a' => SL H fun a => (fun y => dl v (t * (b' - b) + y)) (a - a')) = (n - la) * (fun y => dl v (t * y)) (b' - b) + la := fun b b' => by
    rw [base hv hD ((dl_per v).shiftl _), SR_shift hv (dl_per v), SR_dl hv]
    show (n - la) * dl v (t * (b' - b) + 0) + la * 1 = (n - la) * dl v (t * (b' - b)) + la
    rw [Int.add_zero]; omega
  have e5 : ∀ b : Int, SL H (fun b' => SL H (fun a' => SL H fun a => (fun y => dl v (t * (b' - b) + y)) (a - a'))) = (n - la) * SL H (fun b' => (fun y => dl v (t * y)) (b' - b)) + H.length * la := fun b => by
    rw [SL_congr fun b' _ => e4 b b', SL_add, SL_mul, SL_const]
  rw [e2, e3, SL_congr fun b _ => e5 b, SL_add, SL_mul, SL_const, base hv hD ((dl_per v).mulc t)]
  have z : dl v (t * 0) = 1 := by rw [Int.mul_zero]; rfl
  show (n - la) * ((n - la) * dl v (t * 0) + la * SR v fun i => dl v (t * i)) + _ = _
  rw [z]
  congr 1
  rw [Int.mul_comm la, Int.mul_assoc]

theorem SL_le_len {f : Int → Int} : ∀ {l : List Int}, (∀ a ∈ l, f a ≤ 1) → SL l f ≤ l.length
  | [], _ => Int.le_refl _
  | a :: l, h => by
    have := h a List.mem_cons_self
    have := SL_le_len fun b hb => h b (List.mem_cons_of_mem _ hb)
    show f a + SL l f ≤ _
    rw [List.length_cons]; omega
theorem SL_all1 {f : Int → Int} : ∀ {l : List Int}, (∀ a ∈ l, f a ≤ 1) → (l.length : Int) ≤ SL l f → ∀ a ∈ l, f a = 1
  | [], _, _, a, ha => nomatch ha
  | x :: l, h, hs, a, ha => by
    have h1 := h x List.mem_cons_self
    have h2 := SL_le_len fun b hb => h b (List.mem_cons_of_mem _ hb)
    have hs' : ((l.length : Int) + 1) ≤ f x + SL l f := by have := hs; rw [List.length_cons] at this; exact this
    rcases List.mem_cons.mp ha with rfl | ha
    · omega
    · exact SL_all1 (fun b hb => h b (List.mem_cons_of_mem _ hb)) (by omega) a ha
theorem SL_ex {h : Int → Int} : ∀ {l : List Int}, SL l (fun b => dl v (h b)) = 1 → ∃ b ∈ l, h b % (v : Int) = 0
  | [], e => by simp [SL] at e
  | x :: l, e => by
    by_cases q : h x % (v : Int) = 0
    · exact ⟨x, List.mem_cons_self, q⟩
    · have : dl v (h x) = 0 := by unfold dl; rw [if_neg q]
      have e' : dl v (h x) + SL l (fun b => dl v (h b)) = 1 := e
      obtain ⟨b, hb, hq⟩ := SL_ex (l := l) (h := h) (by omega)
      exact ⟨b, List.mem_cons_of_mem _ hb, hq⟩
theorem SL_one {h : Int → Int} : ∀ {l : List Int}, l.Nodup → (∀ b ∈ l, ∀ b' ∈ l, h b % (v : Int) = 0 → h b' % (v : Int) = 0 → b = b') → SL l (fun b => dl v (h b)) ≤ 1
  | [], _, _ => by simp [SL]
  | x :: l, nd, inj => by
    rw [List.nodup_cons] at nd
    have ih := SL_one (l := l) nd.2 fun b hb b' hb' => inj b (List.mem_cons_of_mem _ hb) b' (List.mem_cons_of_mem _ hb')
    show dl v (h x) + SL l (fun b => dl v (h b)) ≤ 1
    by_cases q : h x % (v : Int) = 0
    · have z : SL l (fun b => dl v (h b)) = SL l (fun _ => 0) := SL_congr fun b hb => by
        unfold dl
        rw [if_neg]
        intro e
        exact nd.1 (inj x List.mem_cons_self b (List.mem_cons_of_mem _ hb) q e ▸ hb)
      rw [z, SL_const]
      have := (dl_01 v (h x)).2
      omega
    · have : dl v (h x) = 0 := by unfold dl; rw [if_neg q]
      omega
theorem nodup_map_inj {f : Int → Int} : ∀ {l : List Int}, l.Nodup → (∀ p ∈ l, ∀ q ∈ l, f p = f q → p = q) → (l.map f).Nodup
  | [], _, _ => by simp
  | x :: l, nd, inj => by
    rw [List.nodup_cons] at nd
    rw [List.map_cons, List.nodup_cons]
    refine ⟨fun hm => ?_, nodup_map_inj nd.2 fun p hp q hq => inj p (List.mem_cons_of_mem _ hp) q (List.mem_cons_of_mem _ hq)⟩
    obtain ⟨p, hp, e⟩ := List.mem_map.mp hm
    exact nd.1 (inj p (List.mem_cons_of_mem _ hp) x List.mem_cons_self e ▸ hp)
theorem perm_of_sub {l m : List Int} (h1 : l.Nodup) (h2 : m.Nodup) (hs : ∀ a ∈ l, a ∈ m) (hl : m.length ≤ l.length) : l.Perm m := by
  refine (List.perm_ext_iff_of_nodup h1 h2).mpr fun a => ⟨hs a, fun ha => ?_⟩
  by_cases q : a ∈ l
  · exact q
  · have := List.Nodup.length_le_of_subset (l₁ := a :: l) (l₂ := m) (List.nodup_cons.mpr ⟨q, h1⟩) (fun b hb => by
      rcases List.mem_cons.mp hb with rfl | hb
      · exact ha
      · exact hs b hb)
    rw [List.length_cons] at this; omega
theorem sum_mod {f : Int → Int} (l : List Int) : (v : Int) ∣ SL l f - SL l (fun a => f a % (v : Int)) :=
  SL_sub_dvd fun a _ => Int.dvd_self_sub_emod
end
end Mine
end
section
set_option Elab.async false
set_option maxRecDepth 100000
set_option maxHeartbeats 40000000
namespace Mine
section
variable {v : Nat} {n la : Int} {H : List Int}
theorem SR_all {f : Int → Int} {c : Int} {n : Nat} (h : ∀ i : Nat, i < n → f i = c) : SR n f = n * c := by
  rw [SR_congr (g := fun _ => c) h, SR_const]
/-- some turn shares all -/
theorem full23 (hD : Dif 23 11 5 H) (hn : H.length = 11) : ∃ x : Nat, x < 23 ∧ 11 ≤ Gt 23 H 3 x := by
  have hm : ∀ x : Int, ∃ k : Int, 0 ≤ k ∧ Gt 23 H 3 x = 5 + 6 * k := fun x => by
    have h0 := G_nonneg (v := 23) (H := H) 3 x
    obtain ⟨p, hp⟩ := claim3 (by decide) hD hn (dl 23) x (dl_per 23)
    obtain ⟨q, hq⟩ := claim2 (by decide) hD (by rw [hn]; rfl) ⟨3, rfl⟩ ⟨2, rfl⟩ ⟨5, rfl⟩ 8 (dl 23) x (dl_per 23)
    rw [SR_dl (by decide)] at hp hq
    have e : SL H (fun a => SL H fun b => dl 23 (x + 2 ^ 8 * b - a)) = Gt 23 H 3 x := SL_congr fun a _ => SL_congr fun b _ => dl_per 23 _ _ (by omega)
    rw [e] at hq
    have e' : SL H (fun a => SL H fun b => dl 23 (x + 3 * b - a)) = Gt 23 H 3 x := rfl
    rw [e'] at hp
    exact ⟨(Gt 23 H 3 x - 5) / 6, by omega, by omega⟩
  refine Classical.byContradiction fun hc => ?_
  have all : ∀ i : Nat, i < 23 → Gt 23 H 3 i = 5 := fun i hi => by
    obtain ⟨k, h0, hk⟩ := hm i
    have : ¬ 11 ≤ Gt 23 H 3 i := fun h => hc ⟨i, hi, h⟩
    omega
  have s := G_sum (v := 23) (H := H) (by decide) 3
  rw [SR_all all, hn] at s
  exact absurd s (by decide)
theorem odd2 (hv : 0 < v) (hD : Dif v n la H) (hn : n = H.length) (o1 : (2 : Int) ∣ n - la) (o2 : (2 : Int) ∣ la - 1) (o3 : (2 : Int) ∣ n - 1) (x : Int) : ∃ k : Int, 0 ≤ k ∧ Gt v H 2 x = 1 + 2 * k := by
  have h0 := G_nonneg (v := v) (H := H) 2 x
  obtain ⟨q, hq⟩ := claim2 hv hD hn o1 o2 o3 1 (dl v) x (dl_per v)
  rw [SR_dl hv] at hq
  have e : SL H (fun a => SL H fun b => dl v (x + 2 ^ 1 * b - a)) = Gt v H 2 x := rfl
  rw [e] at hq
  exact ⟨q, by omega, by omega⟩
theorem full7 (hD : Dif 7 3 1 H) (hn : H.length = 3) : ∃ x : Nat, x < 7 ∧ 3 ≤ Gt 7 H 2 x := by
  refine Classical.byContradiction fun hc => ?_
  have all : ∀ i : Nat, i < 7 → Gt 7 H 2 i = 1 := fun i hi => by
    obtain ⟨k, h0, hk⟩ := odd2 (by decide) hD (by rw [hn]; rfl) ⟨1, rfl⟩ ⟨0, rfl⟩ ⟨1, rfl⟩ i
    have : ¬ 3 ≤ Gt 7 H 2 i := fun h => hc ⟨i, hi, h⟩
    omega
  have s := G_sum (v := 7) (H := H) (by decide) 2
  rw [SR_all all, hn] at s
  exact absurd s (by decide)
theorem full21 (hD : Dif 21 5 1 H) (hn : H.length = 5) : ∃ x : Nat, x < 21 ∧ 5 ≤ Gt 21 H 2 x := by
  refine Classical.byContradiction fun hc => ?_
  have all : ∀ i : Nat, i < 21 → Gt 21 H 2 i * Gt 21 H 2 i = 4 * Gt 21 H 2 i + (-3) := fun i hi => by
    obtain ⟨k, h0, hk⟩ := odd2 (by decide) hD (by rw [hn]; rfl) ⟨2, rfl⟩ ⟨0, rfl⟩ ⟨2, rfl⟩ i
    have : ¬ 5 ≤ Gt 21 H 2 i := fun h => hc ⟨i, hi, h⟩
    have : k = 0 ∨ k = 1 := by omega
    rcases this with rfl | rfl <;> rw [hk] <;> rfl
  have s := G_sum (v := 21) (H := H) (by decide) 2
  have q := SR_sq (v := 21) (by decide) hD 2
  rw [SR_congr (g := fun i => 4 * Gt 21 H 2 i + (-3)) all, SR_add, SR_mul, s, SR_const, hn] at q
  exact absurd q (by decide)
end
/-- a full turn moves the list -/
theorem turn_of_full {v : Nat} {H : List Int} {t x : Int} (hnd : H.Nodup) (hb : ∀ a ∈ H, 0 ≤ a ∧ a < v) (inj : ∀ b b' c d : Int, 0 ≤ b → b < v → 0 ≤ b' → b' < v → (c + t * b - d) % (v : Int) = 0 → (c + t * b' - d) % (v : Int) = 0 → b = b')
    (hf : (H.length : Int) ≤ Gt v H t x) : ∀ a ∈ H, ∃ b ∈ H, (x + t * b - a) % (v : Int) = 0 := by
  have le : ∀ a ∈ H, SL H (fun b => dl v (x + t * b - a)) ≤ 1 := fun a _ => SL_one (h := fun b => x + t * b - a) hnd fun b hb1 b' hb2 e1 e2 => inj b b' x a (hb b hb1).1 (hb b hb1).2 (hb b' hb2).1 (hb b' hb2).2 e1 e2
  intro a ha
  have := SL_all1 le hf a ha
  exact SL_ex (h := fun b => x + t * b - a) this
theorem sum_turn_eq {v : Nat} {H : List Int} {t x : Int} (hv : 0 < v) (hnd : H.Nodup) (hb : ∀ a ∈ H, 0 ≤ a ∧ a < v) (inj : ∀ b b' : Int, 0 ≤ b → b < v → 0 ≤ b' → b' < v → (x + t * b) % (v : Int) = (x + t * b') % (v : Int) → b = b')
    (hc : ∀ a ∈ H, ∃ b ∈ H, (x + t * b - a) % (v : Int) = 0) : (v : Int) ∣ H.length * x + t * H.sum - H.sum := by
  have hm : (H.map fun b => (x + t * b) % (v : Int)).Nodup := nodup_map_inj hnd fun p hp q hq e => inj p q (hb p hp).1 (hb p hp).2 (hb q hq).1 (hb q hq).2 e
  have hp : H.Perm (H.map fun b => (x + t * b) % (v : Int)) := perm_of_sub hnd hm (fun a ha => by
    obtain ⟨b, hb', e⟩ := hc a ha
    refine List.mem_map.mpr ⟨b, hb', ?_⟩
    have := Int.emod_eq_emod_iff_emod_sub_eq_zero.mpr e
    rw [this, Int.emod_eq_of_lt (hb a ha).1 (hb a ha).2]) (by rw [List.length_map]; exact Nat.le_refl _)
  have e1 := SL_perm (f := fun a => a) hp
  rw [SL_map, SL_sum] at e1
  have e2 := sum_mod (v := v) (f := fun b => x + t * b) H
  rw [← e1, SL_add, SL_const, SL_mul, SL_sum] at e2
  exact e2
/-- a list of zero sum with even differences is its own double -/
theorem double7 {H : List Int} (hD : Dif 7 3 1 H) (hn : H.length = 3) (hnd : H.Nodup) (hb : ∀ a ∈ H, 0 ≤ a ∧ a < (7 : Nat)) (hz : H.sum % 7 = 0) : ∀ a ∈ H, ∃ b ∈ H, (2 * b - a) % 7 = 0 := by
  obtain ⟨x, hx, hf⟩ := full7 hD hn
  have ht := turn_of_full (t := 2) (x := (x : Int)) hnd hb (fun b b' c d h1 h2 h3 h4 e1 e2 => by omega) (by rw [hn]; exact hf)
  obtain ⟨k, hk⟩ := sum_turn_eq (t := 2) (x := (x : Int)) (by decide) hnd hb (fun b b' h1 h2 h3 h4 e => by omega) ht
  rw [hn] at hk
  intro a ha
  obtain ⟨b, hb', e⟩ := ht a ha
  exact ⟨b, hb', by omega⟩
theorem double21 {H : List Int} (hD : Dif 21 5 1 H) (hn : H.length = 5) (hnd : H.Nodup) (hb : ∀ a ∈ H, 0 ≤ a ∧ a < (21 : Nat)) (hz : H.sum % 21 = 0) : ∀ a ∈ H, ∃ b ∈ H, (2 * b - a) % 21 = 0 := by
  obtain ⟨x, hx, hf⟩ := full21 hD hn
  have ht := turn_of_full (t := 2) (x := (x : Int)) hnd hb (fun b b' c d h1 h2 h3 h4 e1 e2 => by omega) (by rw [hn]; exact hf)
  obtain ⟨k, hk⟩ := sum_turn_eq (t := 2) (x := (x : Int)) (by decide) hnd hb (fun b b' h1 h2 h3 h4 e => by omega) ht
  rw [hn] at hk
  intro a ha
  obtain ⟨b, hb', e⟩ := ht a ha
  exact ⟨b, hb', by omega⟩
theorem double23 {H : List Int} (hD : Dif 23 11 5 H) (hn : H.length = 11) (hnd : H.Nodup) (hb : ∀ a ∈ H, 0 ≤ a ∧ a < (23 : Nat)) (hz : H.sum % 23 = 0) : ∀ a ∈ H, ∃ b ∈ H, (2 * b - a) % 23 = 0 := by
  obtain ⟨x, hx, hf⟩ := full23 hD hn
  have ht := turn_of_full (t := 3) (x := (x : Int)) hnd hb (fun b b' c d h1 h2 h3 h4 e1 e2 => by omega) (by rw [hn]; exact hf)
  obtain ⟨k, hk⟩ := sum_turn_eq (t := 3) (x := (x : Int)) (by decide) hnd hb (fun b b' h1 h2 h3 h4 e => by omega) ht
  rw [hn] at hk
  have x0 : x = 0 := by omega
  subst x0
  have th : ∀ a ∈ H, ∃ b ∈ H, (3 * b - a) % 23 = 0 := fun a ha => by
    obtain ⟨b, hb', e⟩ := ht a ha
    exact ⟨b, hb', by omega⟩
  intro a ha
  obtain ⟨b1, m1, e1⟩ := th a ha
  obtain ⟨b2, m2, e2⟩ := th b1 m1
  obtain ⟨b3, m3, e3⟩ := th b2 m2
  obtain ⟨b4, m4, e4⟩ := th b3 m3
  obtain ⟨b5, m5, e5⟩ := th b4 m4
  obtain ⟨b6, m6, e6⟩ := th b5 m5
  obtain ⟨b7, m7, e7⟩ := th b6 m6
  exact ⟨b7, m7, by omega⟩
end Mine
end
section
set_option Elab.async false
set_option maxRecDepth 100000
set_option maxHeartbeats 40000000
namespace Mine
theorem R_perm {v : Nat} {H K : List Int} (p : H.Perm K) (d : Int) : R v H d = R v K d := by
  unfold R
  rw [SL_perm p]
  exact SL_congr fun a _ => SL_perm p
theorem R_per {v : Nat} (H : List Int) : Per v (R v H) := fun x y h => SL_congr fun a _ => SL_congr fun b _ => dl_per v _ _ (by
  rw [show b - a - x = (b - a) - x by omega, Int.sub_emod, h, ← Int.sub_emod])
theorem R_neg {v : Nat} (H : List Int) (d : Int) : R v H (-d) = R v H d := by
  unfold R
  rw [SL_swap]
  exact SL_congr fun a _ => SL_congr fun b _ => by rw [← dl_neg]; congr 1; omega
theorem R_append {v : Nat} (l : List Int) (c d : Int) : R v (l ++ [c]) d = R v l d + SL l (fun b => dl v (c - b - d) + dl v (b - c - d)) + dl v (-d) := by
  have e1 : ∀ a : Int, SL (l ++ [c]) (fun b => dl v (b - a - d)) = SL l (fun b => dl v (b - a - d)) + dl v (c - a - d) := fun a => by
    rw [SL_append]
    show _ + (dl v (c - a - d) + 0) = _
    omega
  unfold R
  rw [SL_congr fun a _ => e1 a, SL_append]
  show _ + ((SL l (fun b => dl v (b - c - d)) + dl v (c - c - d)) + 0) = _
  rw [SL_add, SL_add, show c - c - d = -d by omega]; omega
def indB (v : Nat) : Bool := (List.range (2 * v)).all fun p => p == v || ((List.range (v / 2)).all fun k =>
  dl v ((p : Int) - (v : Int) - ((k : Int) + 1)) + dl v (-((p : Int) - (v : Int)) - ((k : Int) + 1)) == if (stepI (v : Int) ((p : Int) - (v : Int)) 0).toNat = k then 1 else 0) || p == 0
theorem ind_look : indB 21 = true ∧ indB 7 = true ∧ indB 23 = true := by decide +kernel
theorem step_ind {v b : Nat} {ps : List Int} (hW : Wheel v b ps) {x y : Int} (h1 : 0 ≤ x) (h2 : x < v) (h3 : 0 ≤ y) (h4 : y < v) (hne : x ≠ y) {k : Nat} (hk : k < v / 2) :
    dl v (x - y - (k + 1)) + dl v (y - x - (k + 1)) = if (stepI (v : Int) x y).toNat = k then 1 else 0 := by
  have h : indB v = true := by
    cases hW with
    | a => exact ind_look.1
    | b => exact ind_look.2.1
    | c => exact ind_look.2.2
  obtain ⟨p, hp⟩ : ∃ p : Nat, x - y + v = (p : Int) := ⟨(x - y + v).toNat, by omega⟩
  have e : x - y = (p : Int) - (v : Int) := by omega
  have e' : y - x = -((p : Int) - (v : Int)) := by omega
  have := List.all_eq_true.mp h p (List.mem_range.mpr (by omega))
  rw [Bool.or_eq_true, Bool.or_eq_true] at this
  rw [stepI_sub, e, e']
  rcases this with (e1 | e1) | e1
  · exact absurd (eq_of_beq e1) (by omega)
  · exact eq_of_beq (List.all_eq_true.mp e1 k (List.mem_range.mpr hk))
  · exact absurd (eq_of_beq e1) (by omega)
theorem set_getD {l : List Int} {i k : Nat} {z : Int} (hk : k < l.length) : (l.set i z).getD k 0 = if i = k then z else l.getD k 0 := by
  rw [List.getD_eq_getElem?_getD, List.getD_eq_getElem?_getD, List.getElem?_set]
  by_cases e : i = k
  · subst e; simp [hk]
  · simp [e]
section
variable {v b : Nat} {ps hs : List Int}
theorem inner_R (hW : Wheel v b ps) (hb : ∀ a ∈ hs, 0 ≤ a ∧ a < v) (hnd : hs.Nodup) {i : Nat} (hi : i < hs.length) {k : Nat} (hk : k < v / 2) : ∀ (j : Nat) (cs : List Int), j ≤ i → cs.length = v / 2 →
    (inner hs (v : Int) i j cs).getD k 0 = cs.getD k 0 + SL (hs.take j) (fun y => dl v (hs.getD i 0 - y - (k + 1)) + dl v (y - hs.getD i 0 - (k + 1)))
  | 0, cs, _, _ => by show cs.getD k 0 = cs.getD k 0 + 0; omega
  | j + 1, cs, hj, hc => by
    have ih := inner_R hW hb hnd hi hk j cs (by omega) hc
    show (bump (inner hs (v : Int) i j cs) v (hs.getD i 0) (hs.getD j 0)).getD k 0 = _
    have hjl : j < hs.length := by omega
    have gi : hs.getD i 0 = hs[i] := by rw [List.getD_eq_getElem?_getD, List.getElem?_eq_getElem hi]; rfl
    have gj : hs.getD j 0 = hs[j] := by rw [List.getD_eq_getElem?_getD, List.getElem?_eq_getElem hjl]; rfl
    have bi := hb _ (List.getElem_mem hi)
    have bj := hb _ (List.getElem_mem hjl)
    have hne : hs[i] ≠ hs[j] := fun e => by
      have := (List.nodup_iff_pairwise_ne.mp hnd)
      have := List.pairwise_iff_getElem.mp this j i hjl hi (by omega)
      exact this e.symm
    have hst := step_ind hW bi.1 bi.2 bj.1 bj.2 hne hk
    have tk : hs.take (j + 1) = hs.take j ++ [hs[j]] := by rw [List.take_add_one, List.getElem?_eq_getElem hjl]; rfl
    rw [tk, SL_append]
    show _ = _ + (_ + ((dl v (hs.getD i 0 - hs[j] - (k + 1)) + dl v (hs[j] - hs.getD i 0 - (k + 1))) + 0))
    unfold bump
    rw [set_getD (by rw [inner_len, hc]; exact hk), gi, gj, hst]
    rw [gi] at ih
    by_cases e : (stepI (v : Int) hs[i] hs[j]).toNat = k
    · rw [if_pos e, if_pos e, e, ih]; omega
    · rw [if_neg e, if_neg e, ih]; omega
theorem outer_R (hW : Wheel v b ps) (hb : ∀ a ∈ hs, 0 ≤ a ∧ a < v) (hnd : hs.Nodup) {k : Nat} (hk : k < v / 2) : ∀ i : Nat, i ≤ hs.length → (outer hs v i).getD k 0 = R v (hs.take i) (k + 1)
  | 0, _ => by
    show (List.replicate (v / 2) (0 : Int)).getD k 0 = 0
    rw [List.getD_eq_getElem?_getD, List.getElem?_replicate, if_pos hk]; rfl
  | i + 1, hi => by
    have ih := outer_R hW hb hnd hk i (by omega)
    have hil : i < hs.length := by omega
    show (inner hs v i i (outer hs v i)).getD k 0 = _
    rw [inner_R hW hb hnd hil hk i _ (Nat.le_refl _) outer_len, ih]
    have tk : hs.take (i + 1) = hs.take i ++ [hs[i]] := by rw [List.take_add_one, List.getElem?_eq_getElem hil]; rfl
    have gi : hs.getD i 0 = hs[i] := by rw [List.getD_eq_getElem?_getD, List.getElem?_eq_getElem hil]; rfl
    rw [tk, R_append, gi]
    have z : dl v (-((k : Int) + 1)) = 0 := by
      rw [dl_neg]; unfold dl
      rw [if_neg]
      rw [Int.emod_eq_of_lt (by omega) (by omega)]; omega
    rw [z]; omega
theorem counts_R (hW : Wheel v b ps) (hg : Good v ps.length hs) {k : Nat} (hk : k < v / 2) : (countsF hs v).getD k 0 = R v hs (k + 1) := by
  have := outer_R hW hg.bnd hg.nodup hk hs.length (Nat.le_refl _)
  rw [List.take_length] at this
  exact this
theorem R_rng (hW : Wheel v b ps) (hg : Good v ps.length hs) (d : Int) : 0 ≤ R v hs d ∧ R v hs d ≤ hs.length := by
  refine ⟨SL_nonneg fun a _ => SL_nonneg fun b _ => (dl_01 v _).1, SL_le_len fun a _ => SL_one (h := fun b => b - a - d) hg.nodup fun x hx y hy e1 e2 => ?_⟩
  have b1 := hg.bnd x hx
  have b2 := hg.bnd y hy
  have e1' : (x - a - d) % (v : Int) = 0 := e1
  have e2' : (y - a - d) % (v : Int) = 0 := e2
  clear hg
  cases hW <;> omega
theorem R_zero (hW : Wheel v b ps) (hg : Good v ps.length hs) : R v hs 0 = hs.length := by
  have : ∀ a ∈ hs, SL hs (fun b => dl v (b - a - 0)) = 1 := fun a ha => by
    have h1 := SL_one (v := v) (h := fun b => b - a - 0) hg.nodup (fun x hx y hy e1 e2 => by
      have b1 := hg.bnd x hx
      have b2 := hg.bnd y hy
      have e1' : (x - a - 0) % (v : Int) = 0 := e1
      have e2' : (y - a - 0) % (v : Int) = 0 := e2
      clear hg
      cases hW <;> omega)
    have h2 : 1 ≤ SL hs (fun b => dl v (b - a - 0)) := by
      clear h1 hg
      induction hs with
      | nil => cases ha
      | cons x l ih =>
        show 1 ≤ dl v (x - a - 0) + SL l _
        have n1 := (dl_01 v (x - a - 0)).1
        have n2 : 0 ≤ SL l (fun b => dl v (b - a - 0)) := SL_nonneg fun b _ => (dl_01 v _).1
        rcases List.mem_cons.mp ha with rfl | ha
        · have : dl v (a - a - 0) = 1 := by rw [show a - a - 0 = 0 by omega]; rfl
          omega
        · have := ih ha
          omega
    omega
  show SL hs _ = _
  rw [SL_congr (g := fun _ => 1) this, SL_const]; omega
theorem counts_nat (hW : Wheel v b ps) (hg : Good v ps.length hs) : NatL (countsF hs v) := by
  intro x hx
  obtain ⟨k, hk, rfl⟩ := List.mem_iff_getElem.mp hx
  have hk' : k < v / 2 := by have : (countsF hs v).length = v / 2 := outer_len; omega
  have e := counts_R hW hg hk'
  rw [List.getD_eq_getElem?_getD, List.getElem?_eq_getElem hk] at e
  have e' : (countsF hs v)[k] = R v hs (k + 1) := e
  have r := R_rng hW hg ((k : Int) + 1)
  rw [e']
  have := hg.len
  have := hW.kv
  omega
/-- counts that are due make a difference set -/
theorem dif_of (hW : Wheel v b ps) (hg : Good v ps.length hs) {la : Int} (h : ∀ k : Nat, k < v / 2 → (countsF hs v).getD k 0 = la) : Dif v (hs.length) la hs := by
  have hv : 0 < v := by have := hW.kv; omega
  have ho := hW.odd
  have small : ∀ k : Nat, k < v / 2 → R v hs ((k : Int) + 1) = la := fun k hk => (counts_R hW hg hk).symm.trans (h k hk)
  intro d
  have h0 : 0 ≤ d % (v : Int) := Int.emod_nonneg _ (by omega)
  have h1 : d % (v : Int) < v := Int.emod_lt_of_pos _ (by omega)
  obtain ⟨r, hr⟩ : ∃ r : Nat, d % (v : Int) = (r : Int) := ⟨(d % (v : Int)).toNat, by omega⟩
  have e : R v hs d = R v hs r := R_per hs _ _ (by rw [← hr, Int.emod_emod_of_dvd _ (Int.dvd_refl _)])
  rw [e, hr]
  by_cases z : r = 0
  · subst z
    rw [if_pos (show ((0 : Nat) : Int) = 0 from rfl)]
    exact R_zero hW hg
  · rw [if_neg (by omega)]
    by_cases q : r ≤ v / 2
    · have := small (r - 1) (by omega)
      rw [show ((r - 1 : Nat) : Int) + 1 = (r : Int) by omega] at this
      exact this
    · have := small (v - r - 1) (by omega)
      rw [show ((v - r - 1 : Nat) : Int) + 1 = (v : Int) - (r : Int) by omega] at this
      rw [← this, ← R_neg hs (r : Int)]
      exact R_per hs _ _ (by rw [show (v : Int) - r = -r + v by omega, Int.add_emod_right])
end
end Mine
end
section
set_option Elab.async false
set_option maxRecDepth 100000
set_option maxHeartbeats 40000000
open PySem PySem.W
namespace Mine
def dueN (v : Nat) : Nat := if v = 23 then 5 else 1
theorem due_ok {v b : Nat} {ps qs : List Int} (hW : Wheel v b ps) (hl : qs.length = ps.length) : ∃ d : Nat, ((qs.length : Int) * ((qs.length : Int) - 1)).fdiv ((v : Int) - 1) = (d : Int) ∧ d < 12 ∧ d = dueN v := by
  rw [hl]; cases hW <;> exact ⟨_, rfl, by decide, by decide⟩
theorem range3_ok {v b : Nat} {ps : List Int} (hW : Wheel v b ps) : Builtin.Range.small 0 ((v : Int).fdiv 2) 3 = true ∧ Builtin.Range.rangeSize 0 ((v : Int).fdiv 2) 3 = (((v / 2 + 2) / 3 : Nat) : Int) ∧ (v / 2 + 2) / 3 ≤ 4 ∧ v / 2 ≤ 11 ∧ 0 < (v / 2 + 2) / 3 := by
  cases hW <;> decide
def orb (v n : Nat) (a : Int) : List Int := match n with
  | 0 => []
  | n + 1 => a :: orb v n ((2 * a) % (v : Int))
def nodupB : List Int → Bool
  | [] => true
  | a :: l => !l.contains a && nodupB l
theorem nodupB_ok : ∀ {l : List Int}, nodupB l = true → l.Nodup
  | [], _ => by simp
  | a :: l, h => by
    have h' : (!l.contains a && nodupB l) = true := h
    rw [Bool.and_eq_true] at h'
    rw [List.nodup_cons]
    refine ⟨fun hm => ?_, nodupB_ok h'.2⟩
    have := h'.1
    simp [hm] at this
def goodB (v : Nat) (la : Int) (l : List Int) : Bool := (List.range (v / 2)).all fun k => R v l ((k : Int) + 1) == la
theorem goodB_at {v : Nat} {la : Int} {l : List Int} (h : goodB v la l = true) {k : Nat} (hk : k < v / 2) : R v l ((k : Int) + 1) = la := eq_of_beq (List.all_eq_true.mp h k (List.mem_range.mpr hk))
theorem orb7 : (List.range 7).all (fun a => a == 0 || (nodupB (orb 7 3 a) && goodB 7 1 (orb 7 3 a))) = true := by decide +kernel
theorem orb23 : (List.range 23).all (fun a => a == 0 || (nodupB (orb 23 11 a) && goodB 23 5 (orb 23 11 a))) = true := by decide +kernel
theorem orb21a : goodB 21 1 [7, 14, 3, 6, 12] = true ∧ goodB 21 1 [7, 14, 9, 18, 15] = true := by decide +kernel
def bits21 (b0 b7 b3 b9 : Bool) (x : Int) : Bool := if x = 0 then b0 else if x = 7 then b7 else if x = 14 then b7 else if x = 3 then b3 else if x = 6 then b3 else if x = 12 then b3 else b9
theorem good21 (b0 b7 b3 b9 : Bool) : (([0, 7, 14, 3, 6, 12, 9, 18, 15] : List Int).filter (bits21 b0 b7 b3 b9)).length = 5 → goodB 21 1 (([0, 7, 14, 3, 6, 12, 9, 18, 15] : List Int).filter (bits21 b0 b7 b3 b9)) = true := by
  revert b0 b7 b3 b9; decide +kernel
theorem cover21 : ((List.range 21).all fun p => decide (((p : Nat) : Int) ∈ ([0, 7, 14, 3, 6, 12, 9, 18, 15] : List Int)) || decide (((p : Nat) : Int) ∈ ([1, 2, 4, 8, 16, 11, 5, 10, 20, 19, 17, 13] : List Int))) = true := by decide +kernel
theorem orb21b : [1, 2, 4, 8, 16, 11, 5, 10, 20, 19, 17, 13].all (fun a => nodupB (orb 21 6 a)) = true := by decide +kernel
theorem orb_in {v : Nat} {H : List Int} (hc : ∀ a ∈ H, (2 * a) % (v : Int) ∈ H) : ∀ (n : Nat) (a : Int), a ∈ H → ∀ x ∈ orb v n a, x ∈ H
  | 0, _, _, x, hx => nomatch hx
  | n + 1, a, ha, x, hx => by
    rcases List.mem_cons.mp hx with rfl | hx
    · exact ha
    · exact orb_in hc n _ (hc a ha) x hx
theorem orb_len {v : Nat} : ∀ (n : Nat) (a : Int), (orb v n a).length = n
  | 0, _ => rfl
  | n + 1, a => by show (orb v n _).length + 1 = _; rw [orb_len]
theorem nonzero_in {H : List Int} (hnd : H.Nodup) (hl : 2 ≤ H.length) : ∃ a ∈ H, a ≠ 0 := by
  match H, hl with
  | a :: b :: l, _ =>
    by_cases e : a = 0
    · refine ⟨b, by simp, fun e2 => ?_⟩
      rw [List.nodup_cons] at hnd
      exact hnd.1 (by simp [e, e2])
    · exact ⟨a, by simp, e⟩
/-- a list that doubling keeps is even -/
theorem even_of {v b : Nat} {ps H : List Int} (hW : Wheel v b ps) (hg : Good v ps.length H) (hc : ∀ a ∈ H, (2 * a) % (v : Int) ∈ H) {k : Nat} (hk : k < v / 2) : R v H ((k : Int) + 1) = (dueN v : Int) := by
  obtain ⟨hl, hnd, hb⟩ := hg
  have one : ∀ (n : Nat) (la : Int), (List.range v).all (fun a => a == 0 || (nodupB (orb v n a) && goodB v la (orb v n a))) = true → H.length = n → 2 ≤ n → R v H ((k : Int) + 1) = la := by
    intro n la ho hn h2
    obtain ⟨a, ha, hz⟩ := nonzero_in hnd (by omega)
    have hb' := hb a ha
    obtain ⟨p, rfl⟩ : ∃ p : Nat, a = (p : Int) := ⟨a.toNat, by omega⟩
    have := List.all_eq_true.mp ho p (List.mem_range.mpr (by omega))
    rw [Bool.or_eq_true, Bool.and_eq_true] at this
    rcases this with h | ⟨h1, h2⟩
    · have := eq_of_beq h
      exact absurd (by omega : (p : Int) = 0) hz
    · have hp : (orb v n (p : Int)).Perm H := perm_of_sub (nodupB_ok h1) hnd (orb_in hc n _ ha) (by rw [orb_len]; omega)
      rw [← R_perm hp]
      exact goodB_at h2 hk
  cases hW with
  | b => exact one 3 1 orb7 hl (by decide)
  | c => exact one 11 5 orb23 hl (by decide)
  | a =>
    have hl5 : H.length = 5 := hl
    have no6 : ∀ a ∈ ([1, 2, 4, 8, 16, 11, 5, 10, 20, 19, 17, 13] : List Int), a ∉ H := fun a ha hm => by
      have h1 := nodupB_ok (List.all_eq_true.mp orb21b a ha)
      have := List.Nodup.length_le_of_subset h1 (orb_in hc 6 a hm)
      rw [orb_len, hl5] at this
      exact absurd this (by decide)
    have c7 : (14 : Int) ∈ H ↔ (7 : Int) ∈ H := ⟨fun h => hc 14 h, fun h => hc 7 h⟩
    have c6 : (6 : Int) ∈ H ↔ (3 : Int) ∈ H := ⟨fun h => hc 12 (hc 6 h), fun h => hc 3 h⟩
    have c12 : (12 : Int) ∈ H ↔ (3 : Int) ∈ H := ⟨fun h => hc 12 h, fun h => hc 6 (hc 3 h)⟩
    have c18 : (18 : Int) ∈ H ↔ (9 : Int) ∈ H := ⟨fun h => hc 15 (hc 18 h), fun h => hc 9 h⟩
    have c15 : (15 : Int) ∈ H ↔ (9 : Int) ∈ H := ⟨fun h => hc 15 h, fun h => hc 18 (hc 9 h)⟩
    have hK : H.Perm (([0, 7, 14, 3, 6, 12, 9, 18, 15] : List Int).filter fun x => decide (x ∈ H)) := by
      refine (List.perm_ext_iff_of_nodup hnd (List.Nodup.sublist List.filter_sublist (by decide))).mpr fun a => ?_
      rw [List.mem_filter]
      refine ⟨fun ha => ⟨?_, decide_eq_true ha⟩, fun h => of_decide_eq_true h.2⟩
      have hb' := hb a ha
      obtain ⟨p, rfl⟩ := Int.eq_ofNat_of_zero_le hb'.1
      have := List.all_eq_true.mp cover21 p (List.mem_range.mpr (Int.ofNat_lt.mp hb'.2))
      rw [Bool.or_eq_true] at this
      rcases this with h | h
      · exact of_decide_eq_true h
      · exact absurd ha (no6 _ (of_decide_eq_true h))
    have hf : (([0, 7, 14, 3, 6, 12, 9, 18, 15] : List Int).filter fun x => decide (x ∈ H)) = ([0, 7, 14, 3, 6, 12, 9, 18, 15] : List Int).filter (bits21 (decide ((0 : Int) ∈ H)) (decide ((7 : Int) ∈ H)) (decide ((3 : Int) ∈ H)) (decide ((9 : Int) ∈ H))) := by
      show (([0, 7, 14, 3, 6, 12, 9, 18, 15] : List Int).filter fun x => decide (x ∈ H)) = _
      refine List.filter_congr fun x hx => ?_
      simp only [List.mem_cons, List.not_mem_nil, or_false] at hx
      rcases hx with rfl | rfl | rfl | rfl | rfl | rfl | rfl | rfl | rfl
      · rfl
      · rfl
      · exact decide_eq_decide.mpr c7
      · rfl
      · exact decide_eq_decide.mpr c6
      · exact decide_eq_decide.mpr c12
      · rfl
      · exact decide_eq_decide.mpr c18
      · exact decide_eq_decide.mpr c15
    rw [hf] at hK
    show R 21 H ((k : Int) + 1) = 1
    rw [R_perm hK]
    exact goodB_at (good21 _ _ _ _ (hK.length_eq.symm.trans hl5)) hk
theorem half_sum {v b : Nat} {ps qs : List Int} (hW : Wheel v b ps) (hb : ∀ q ∈ qs, 0 ≤ q ∧ q < v) (hz : qs.sum % (v : Int) = 0) : (qs.map fun q => (halfN q.toNat v : Int)).sum % (v : Int) = 0 := by
  have e1 : (v : Int) ∣ 2 * (qs.map fun q => (halfN q.toNat v : Int)).sum - qs.sum := by
    rw [← SL_sum, ← SL_sum, SL_map, ← SL_mul]
    refine SL_sub_dvd fun q hq => ?_
    have b1 := hb q hq
    have h := half_back hW b1.1 b1.2
    rw [Int.fmod_eq_emod_of_nonneg _ (by omega)] at h
    have e2 : q % (v : Int) = q := Int.emod_eq_of_lt b1.1 b1.2
    exact Int.dvd_of_emod_eq_zero (Int.emod_eq_emod_iff_emod_sub_eq_zero.mp (h.trans e2.symm))
  obtain ⟨m, hm⟩ := e1
  generalize (qs.map fun q => (halfN q.toNat v : Int)).sum = S at *
  generalize qs.sum = T at *
  clear hb
  cases hW <;> omega
theorem getD_due {cs : List Int} {d : Int} (i : Nat) (h : i < cs.length + 2) : (cs ++ [d, d]).getD i 0 = if i < cs.length then cs.getD i 0 else d := by
  rw [List.getD_eq_getElem?_getD, List.getD_eq_getElem?_getD]
  by_cases e : i < cs.length
  · rw [if_pos e, List.getElem?_append_left e]
  · rw [if_neg e, List.getElem?_append_right (by omega)]
    have : i - cs.length = 0 ∨ i - cs.length = 1 := by omega
    rcases this with h | h <;> rw [h] <;> rfl
/-- the whole plain law -/
theorem plain {v b : Nat} {ps qs : List Int} (hW : Wheel v b ps) (hg : Good v ps.length qs) (hz : qs.sum % (v : Int) = 0) {ns ms : List Int} (h1 : ns.Perm (qs.map fun q => (halfN q.toNat v : Int))) (h2 : ms.Perm qs)
    (h3 : ns.Pairwise (· ≤ ·)) (h4 : ms.Pairwise (· ≤ ·)) :
    ((List.range ((v / 2 + 2) / 3)).all (dueAt (countsF (qs.map fun q => (halfN q.toNat v : Int)) v ++ [(dueN v : Int), (dueN v : Int)]) (dueN v : Int)) == decide (ns = ms)) = true := by
  have hgh := half_good hW hg
  have hzh := half_sum hW hg.bnd hz
  have mem_half : ∀ q ∈ qs, (halfN q.toNat v : Int) ∈ qs.map fun q => (halfN q.toNat v : Int) := fun q hq => List.mem_map.mpr ⟨q, hq, rfl⟩
  have back : ∀ a ∈ qs.map (fun q => (halfN q.toNat v : Int)), (2 * a) % (v : Int) ∈ qs := fun a ha => by
    obtain ⟨q, hq, rfl⟩ := List.mem_map.mp ha
    have b1 := hg.bnd q hq
    have h := half_back hW b1.1 b1.2
    rw [Int.fmod_eq_emod_of_nonneg _ (by omega)] at h
    rw [h]; exact hq
  generalize hH : (qs.map fun q => (halfN q.toNat v : Int)) = H at *
  have hc : (countsF H v).length = v / 2 := outer_len
  have hL : ((List.range ((v / 2 + 2) / 3)).all (dueAt (countsF H v ++ [(dueN v : Int), (dueN v : Int)]) (dueN v : Int))) = true ↔ ∀ k : Nat, k < v / 2 → (countsF H v).getD k 0 = (dueN v : Int) := by
    rw [List.all_eq_true]
    constructor
    · intro h k hk
      have := of_decide_eq_true (h (k / 3) (List.mem_range.mpr (by omega)))
      obtain ⟨a1, a2, a3⟩ := this
      have ek : k = 3 * (k / 3) ∨ k = 3 * (k / 3) + 1 ∨ k = 3 * (k / 3) + 2 := by omega
      have g : (countsF H v ++ [(dueN v : Int), (dueN v : Int)]).getD k 0 = (countsF H v).getD k 0 := by rw [getD_due k (by omega), if_pos (by omega)]
      rw [← g]
      rcases ek with e | e | e <;> (rw [e]; assumption)
    · intro h j hj
      have hj' := List.mem_range.mp hj
      have g : ∀ i : Nat, i < v / 2 + 2 → (countsF H v ++ [(dueN v : Int), (dueN v : Int)]).getD i 0 = (dueN v : Int) := fun i hi => by
        rw [getD_due i (by omega)]
        by_cases q : i < (countsF H v).length
        · rw [if_pos q]; exact h i (by omega)
        · rw [if_neg q]
      exact decide_eq_true ⟨g _ (by omega), g _ (by omega), g _ (by omega)⟩
  have hR : ns = ms ↔ H.Perm qs := by
    constructor
    · intro e
      subst e
      exact h1.symm.trans h2
    · intro p
      exact ksm_same ((h1.trans p).trans h2.symm) h3 h4
  have hLR : (∀ k : Nat, k < v / 2 → (countsF H v).getD k 0 = (dueN v : Int)) ↔ H.Perm qs := by
    constructor
    · intro h
      have hD := dif_of hW hgh h
      have hlen := hgh.len
      have dbl : ∀ a ∈ H, ∃ b ∈ H, (2 * b - a) % (v : Int) = 0 := by
        have hb := hgh.bnd
        have hn := hgh.nodup
        clear hL hR h1 h2 h3 h4 hH mem_half back hgh hg hz hc h
        cases hW with
        | a => rw [hlen] at hD; exact double21 hD hlen hn hb hzh
        | b => rw [hlen] at hD; exact double7 hD hlen hn hb hzh
        | c => rw [hlen] at hD; exact double23 hD hlen hn hb hzh
      refine perm_of_sub hgh.nodup hg.nodup (fun a ha => ?_) (by rw [hlen, hg.len]; exact Nat.le_refl _)
      obtain ⟨b', hb', e⟩ := dbl a ha
      have ba := hgh.bnd a ha
      have : (2 * b') % (v : Int) = a := by
        rw [Int.emod_eq_emod_iff_emod_sub_eq_zero.mpr e, Int.emod_eq_of_lt ba.1 ba.2]
      rw [← this]
      exact back b' hb'
    · intro p k hk
      rw [counts_R hW hgh hk]
      exact even_of hW hgh (fun a ha => p.mem_iff.mpr (back a ha)) hk
  rw [beq_iff_eq]
  by_cases q : H.Perm qs
  · rw [decide_eq_true (hR.mpr q)]; exact hL.mpr (hLR.mpr q)
  · rw [decide_eq_false (fun e => q (hR.mp e))]
    cases t : (List.range ((v / 2 + 2) / 3)).all (dueAt (countsF H v ++ [(dueN v : Int), (dueN v : Int)]) (dueN v : Int)) with
    | false => rfl
    | true => exact absurd (hLR.mp (hL.mp t)) q
end Mine
end
section
open PySem PySem.W PyProof.Rows PySem.Calls
set_option Elab.async false
set_option maxRecDepth 100000
set_option maxHeartbeats 40000000
namespace Mine
theorem nb_of_in {w : World} {h : Heap} (X : (hd.heap_39 w.params).In h) : NoneBooked h := by
  refine ⟨_, ⟨_, _, _, X cStatics _ rfl, rfl, ?_, fun _ => rfl⟩, ?_⟩
  · intro e he
    simp only [List.mem_toArray, List.mem_cons, List.not_mem_nil, or_false] at he
    rcases he with h | h <;> (rw [h]; exact ⟨_, _, rfl⟩)
  · rfl
end Mine
end
section
open PySem PySem.W PyProof.Rows PySem.Calls
namespace Mine
theorem anew_W1t {w : World} {A : Around} {E : Value → Shared → Prop} {Q : Bool → Shared → Prop} {s : Shared} (h : Q true s) : wpAny (model PG w) A (truthy (.bool true)) Q E s := by
  w_top off
  k_with_none
  first | (walk1; exact h) | exact wpAny_truthy_bool h
end Mine
end
section
open PySem PySem.W PyProof.Rows PySem.Calls PySem.Flt PySem.SeqAt
set_option Elab.async false
set_option maxRecDepth 100000
set_option maxHeartbeats 40000000
namespace Mine
theorem law_t : ∀ (w : World) (l : Addr) (vs : List Value) (xs : List Int) (_ : PySem.Challenge.rw_tr0033_01 = PySem.Challenge.rw_tr0033_01 ∧ hd.heap_39 = hd.heap_39) (hi : IntsAre vs xs) (hlen : xs.length ≤ 63),
    FnP w 112 [.ref l] 30 200 (fun h => h.IsList l vs.toArray) (fun _ r _ => r = .bool true) := by
  k_with_none
  k_with "call ref" => (k_here; (with_reducible show wpAny _ _ (call (Value.ref 93) [_]) _ _ _); k_dflt (apply places_use; (case _ => assumption); (case _ => assumption); (case _ => assumption); (case _ => k_asm); (case _ => k_asm); (case _ => k_asm); (case _ => k_asm); (case _ => k_asm); (case _ => exact Around.frames_deeper (Below.stack (by assumption))); (case _ => exact rfl); (case _ => exact rfl); (case _ => exact rfl); (case _ => ktr_room); (case _ => ktr_units); (case _ => assumption)))
  k_with "eval ListComp" => (k_here; k_dflt (apply comp_eval; (case _ => k_asm); (case _ => with_unfolding_all rfl); (case _ => decide); (case _ => exact rfl); (case _ => decide); (case _ => exact rfl)))
  k_with "exec Assign cons ListComp" => (k_here; k_dflt (apply comp_assign; (case _ => k_asm); (case _ => with_unfolding_all rfl); (case _ => with_unfolding_all rfl); (case _ => decide); (case _ => exact rfl); (case _ => decide); (case _ => exact rfl); (case _ => exact rfl); (case _ => exact rfl)))
  k_with "call ref" => (k_here; (with_reducible show wpAny _ _ (call (Value.ref 100) [_, _]) _ _ _); k_dflt (apply half_use; (case _ => assumption); (case _ => assumption); (case _ => assumption); (case _ => k_asm); (case _ => k_asm); (case _ => k_asm); (case _ => k_asm); (case _ => k_asm); (case _ => exact Around.frames_deeper (Below.stack (by assumption))); (case _ => exact rfl); (case _ => exact rfl); (case _ => exact rfl); (case _ => ktr_room); (case _ => ktr_units); (case _ => assumption)); intros)
  k_with "binaryOp Mult str int" => (k_here; k_dflt (apply mulq_E; (case _ => omega)); intro _ _)
  k_with "binaryOp Add str str" => (k_here; k_dflt (apply sadd_E; (case _ => with_reducible first | exact qs_k _); (case _ => (simp only [qs_len, out_len]; omega))); intro _ _)
  k_with "call builtin:len" => (k_here; k_dflt (apply lenO_E; (case _ => assumption)); intro _ _)
  k_with "compareOp NotEq ref ref" => (k_here; k_dflt (first | (apply ne_strs; (case _ => k_asm); (case _ => k_mem); (case _ => k_mem); (case _ => assumption); (case _ => assumption); (case _ => ktr_units)) | (apply ne_ints; (case _ => k_asm); (case _ => k_mem); (case _ => k_mem); (case _ => assumption); (case _ => assumption); (case _ => ktr_units)) | (apply ne_pts; (case _ => assumption); (case _ => k_asm); (case _ => k_asm); (case _ => k_mem); (case _ => k_mem); (case _ => assumption); (case _ => assumption); (case _ => assumption); (case _ => (intro _ hp; simp [hp])); (case _ => (intro _ hp; simp [hp])); (case _ => ktr_units))))
  k_with "binaryOp Div int int" => (k_here; (with_reducible show wpAny _ _ (binaryOp _ _ (Value.int 32 _)) _ _ _); k_dflt (apply idiv_E (d := 32); (case _ => decide); (case _ => assumption)); (try dsimp only))
  k_with "call ref" => (k_here; (with_reducible show wpAny _ _ (call (Value.ref 35) [_, _, _]) _ _ _); k_dflt (apply hsv_use; (case _ => assumption); (case _ => assumption); (case _ => assumption); (case _ => assumption); (case _ => k_asm); (case _ => k_asm); (case _ => k_asm); (case _ => k_asm); (case _ => k_asm); (case _ => exact Around.frames_deeper (Below.stack (by assumption))); (case _ => exact rfl); (case _ => exact rfl); (case _ => exact rfl); (case _ => ktr_room); (case _ => ktr_units); (case _ => assumption)); intros)
  k_with "call ref" => (k_here; (with_reducible show wpAny _ _ (call (Value.ref 21) [_, _, _]) _ _ _); k_dflt (apply hls_use; (case _ => assumption); (case _ => assumption); (case _ => k_asm); (case _ => k_asm); (case _ => k_asm); (case _ => k_asm); (case _ => k_asm); (case _ => exact Around.frames_deeper (Below.stack (by assumption))); (case _ => exact rfl); (case _ => exact rfl); (case _ => exact rfl); (case _ => ktr_room); (case _ => ktr_units); (case _ => assumption)); intros)
  k_with "call ref" => (k_here; (with_reducible show wpAny _ _ (call (Value.ref 107) [_, _]) _ _ _); k_dflt (apply counts_use; (case _ => assumption); (case _ => assumption); (case _ => assumption); rotate_left 1; (case _ => k_asm); rotate_right 1; rotate_left 1; (case _ => k_asm); rotate_right 1; rotate_left 1; (case _ => k_asm); rotate_right 1; rotate_left 1; (case _ => k_asm); rotate_right 1; (case _ => k_mem); (case _ => k_asm); (case _ => exact Around.frames_deeper (Below.stack (by assumption))); (case _ => exact rfl); (case _ => exact rfl); (case _ => exact rfl); (case _ => ktr_room); (case _ => ktr_units); (case _ => assumption)))
  k_with "binaryOp Add ref ref" => (k_here; k_dflt (apply kmk_add_ints; (case _ => k_asm); (case _ => k_asm); (case _ => kmk_list); (case _ => kmk_list); (case _ => assumption); (case _ => exact .cons _ _ (.cons _ _ .nil)); rotate_left 1; (case _ => assumption); rotate_right 1); intro _ _ _ _ _ l1 _; (try k_lt l1); revert l1; intro _)
  k_with "subscriptTail Name Name ref int" => (k_here; k_dflt (apply cs_item; (case _ => assumption); (case _ => k_asm); (case _ => k_mem); (case _ => assumption); (case _ => with_reducible assumption); (case _ => with_reducible assumption); (case _ => with_reducible assumption); rotate_left 1; (case _ => with_unfolding_all rfl); rotate_right 1); intro _)
  k_with "subscriptTail Name BinOp ref int" => (k_here; k_dflt (apply cs_item; (case _ => assumption); (case _ => k_asm); (case _ => k_mem); (case _ => assumption); (case _ => with_reducible assumption); (case _ => with_reducible assumption); (case _ => with_reducible assumption); rotate_left 1; (case _ => with_unfolding_all rfl); rotate_right 1); intro _)
  k_with "binaryOp Div int int" => (k_here; (with_reducible show wpAny _ _ (binaryOp _ _ (Value.int 64 _)) _ _ _); k_dflt (apply idiv_E (d := 64); (case _ => decide); (case _ => first | assumption | exact fr_inf64 (natL_lt (by assumption) _))); (try dsimp only))
  k_with "call ref" => (k_here; (with_reducible show wpAny _ _ (call (Value.ref 28) [_, _, _]) _ _ _); k_dflt (apply lamp_use; (case _ => exact natL_lt (by assumption) _); (case _ => exact natL_lt (by assumption) _); (case _ => exact natL_lt (by assumption) _); (case _ => (refine ⟨⟨?_, ?_, ?_⟩, ?_, ?_, ?_⟩ <;> ((try dsimp only); show @LT.lt Nat _ _ _; omega))); (case _ => k_asm); (case _ => k_asm); (case _ => k_asm); (case _ => k_asm); (case _ => k_asm); (case _ => exact Around.frames_deeper (Below.stack (by assumption))); (case _ => exact rfl); (case _ => exact rfl); (case _ => exact rfl); (case _ => ktr_room); (case _ => ktr_units); (case _ => assumption)); intros)
  k_with "call builtin:len" => (k_here; k_dflt (apply len_N; (case _ => with_reducible assumption); (case _ => k_asm); (case _ => k_mem); (case _ => omega)); intro _ _)
  k_with "binaryOp Mult ref int" => (k_here; k_dflt (apply mul_one_E; (case _ => k_asm); (case _ => k_asm); (case _ => k_mem); (case _ => omega)); intro _ _ _ _ l1; (try k_lt l1); revert l1; intro _)
  k_with "compareOp Eq ref ref" => (k_here; k_dflt (first | (apply eq_lamps; (case _ => assumption); (case _ => k_asm); (case _ => k_asm); (case _ => k_mem); (case _ => k_mem); rotate_left 1; (case _ => assumption); rotate_right 1; rotate_left 1; (case _ => exact rfl); rotate_right 1; (case _ => k_mem); (case _ => (intro _ hp; simp [hp])); (case _ => exact allLt_ne (by assumption : _ ∧ _ ∧ _ ∧ _ ∧ _ ∧ _ ∧ AllLt _ _).2.2.2.2.2.2); (case _ => assumption); (case _ => assumption); (case _ => ktr_units); (case _ => (show @LT.lt Nat _ _ _; omega)); (case _ => (show @LE.le Nat _ _ _; omega)); (case _ => (show @LE.le Nat _ _ _; omega))) | (apply eq_ints; (case _ => k_asm); (case _ => k_mem); (case _ => k_mem); (case _ => assumption); (case _ => assumption); (case _ => omega); (case _ => ktr_units)) | (apply stopE)))
  k_fill
  intro w l vs xs _ hi hlen
  refine' FnP.enterC (binds := [(Str.ofString "script", Value.ref l)]) ?k6 ?k7 ?k9 ?kB ?kD ?c2 ?c3 ?c4 ?_
  case k6 => k_dflt k_is
  case k7 => k_dflt k_is
  case k9 => exact rfl
  case kB => exact rfl
  case kD => decide +kernel
  case c2 => exact rfl
  case c3 => exact rfl
  case c4 => exact rfl
  intro A base outer s mean mg mb L h₁ tk cells B F X N Y T hh hdp hun hg hq
  obtain ⟨oc2, oc1, hE, e2, e1⟩ := CellsAre.two Y
  subst hE
  clear Y
  have hnb := nb_of_in X
  cases A
  dsimp only at hh hdp hun
  subst hh
  try dsimp only
  w_strict (
    k_steps
    constructor
    intro D Pl tv n v pv qs h2 g2 tk2 F2 N2 of1 of2 ne12 hb2 hi2 hz
    simp only [OffN, and_true] at of1 of2
    k_steps
    rename_i _ _ o1 d1 h3 F3 N3
    obtain ⟨b, ps, hW, hg', hsum⟩ := hz
    have g1 := hW.kv
    have g2 := hg'.len
    have g3 := hi2.length
    have godd := hW.odd
    have gv : v ≤ 24 := by omega
    refine csrc_list (ax := Pl) (ws := pv) (k := n) (news := [(Pl, PySem.W.listOf pv.toArray n), (L + 1 + 1, oc2), (L + 1, o1)]) (J := fun i ys nw => StrsAre ys ((qs.take i).map fun q => outS (halfN q.toNat v)) ∧ nw = [(Pl, PySem.W.listOf pv.toArray n), (L + 1 + 1, oc2), (L + 1, o1)]) rfl (by k_asm) (by k_asm) (by assumption) (fun p hp => .tail _ hp) (.head _) (by rw [g3, g2]; exact Nat.le_trans g1.2.2.1 (by decide)) ?a1 ⟨.nil, rfl⟩ ?a2 ?a3
    case a1 =>
      rintro i ys nw ⟨_, rfl⟩
      exact .head _
    case a2 =>
      rintro j vj ys nw I' C' D' oI' oC' m7 h7 g7 tk7 E7 hj hv7 ⟨hys, rfl⟩ hC7 hx7 hb7 F7 N7 off7 n1 n2 n3
      obtain ⟨num, tn, rfl, hnum⟩ := ints_nth hi2 hv7
      have hb' := hg'.bnd num (List.mem_of_getElem? hnum)
      obtain ⟨p, rfl⟩ : ∃ p : Nat, num = (p : Int) := ⟨num.toNat, by omega⟩
      have gp : p ≤ 24 := by omega
      refine wpAny_tests_nil ?_
      simp only [if_true]
      k_steps
      refine CEnd.intro (nw := [(Pl, PySem.W.listOf pv.toArray n), (L + 1 + 1, oc2), (L + 1, o1)]) (by assumption) (by k_asm) (by k_asm) (.head _) (.tail _ (.head _)) (.tail _ (.tail _ (.head _))) (fun p hp => .tail _ (.tail _ (.tail _ hp))) off7 ⟨?_, rfl⟩
      rw [take_snoc hnum]
      exact strs_snoc hys
    case a3 =>
      rintro ys1 nw ⟨hys1, rfl⟩ tzD1 D1 h7 g7 tk7 htzD1 hb7 F7 N7 off7
      rw [List.take_of_length_le (by omega)] at hys1
      have of3 := OffN.of off7
      simp only [OffN, and_true] at of3
      have y1 : ys1.length = ps.length := by have := hys1.length; rw [List.length_map] at this; omega
      k_steps
      refine csrc_list (ax := D1) (ws := ys1) (k := ys1.length) (news := [(D1, PyProof.Rows.LCg.lst ys1), (Pl, PySem.W.listOf pv.toArray n), (L + 1 + 1, oc2), (L + 1, o1)]) (J := fun i ys nw => IntsAre ys ((qs.take i).map fun q => (halfN q.toNat v : Int)) ∧ nw = [(D1, PyProof.Rows.LCg.lst ys1), (Pl, PySem.W.listOf pv.toArray n), (L + 1 + 1, oc2), (L + 1, o1)]) rfl (by k_asm) (by k_asm) (by assumption) (fun p hp => hp) (.head _) (by rw [y1]; exact Nat.le_trans g1.2.2.1 (by decide)) ?b1 ⟨.nil, rfl⟩ ?b2 ?b3
      case b1 =>
        rintro i ys nw ⟨_, rfl⟩
        exact .head _
      case b2 =>
        rintro j vj ys nw I' C' D' oI' oC' m7 h7 g7 tk7 E7 hj hv7 ⟨hys, rfl⟩ hC7 hx7 hb7 F7 N7 off7 n1 n2 n3
        obtain ⟨nm, tn, rfl, hnm⟩ := strs_nth hys1 hv7
        rw [List.getElem?_map, Option.map_eq_some_iff] at hnm
        obtain ⟨num, hnum, rfl⟩ := hnm
        have hb' := hg'.bnd num (List.mem_of_getElem? hnum)
        have gh : halfN num.toNat v ≤ 24 := halfN_le (by omega) gv
        refine wpAny_tests_nil ?_
        simp only [if_true]
        k_steps
        refine CEnd.intro (nw := [(D1, PyProof.Rows.LCg.lst ys1), (Pl, PySem.W.listOf pv.toArray n), (L + 1 + 1, oc2), (L + 1, o1)]) (by assumption) (by k_asm) (by k_asm) (.head _) (.tail _ (.head _)) (.tail _ (.tail _ (.head _))) (fun p hp => .tail _ (.tail _ (.tail _ hp))) off7 ⟨?_, rfl⟩
        rw [take_snoc hnum]
        have e7 : (halfN num.toNat v : Int) + 1 - 1 = (halfN num.toNat v : Int) := by omega
        rw [e7]; exact ints_snoc hys
      case b3 =>
        rintro ys2 nw ⟨hys2, rfl⟩ tzD2 D2 h7 g7 tk7 htzD2 hb7 F7 N7 off7
        rw [List.take_of_length_le (by omega)] at hys2
        have of4 := OffN.of off7
        simp only [OffN, and_true] at of4
        have y2 : ys2.length = ps.length := by have := hys2.length; rw [List.length_map] at this; omega
        k_steps
        refine csrc_list (ax := D2) (ws := ys2) (k := ys2.length) (news := [(D2, PyProof.Rows.LCg.lst ys2), (D1, PyProof.Rows.LCg.lst ys1), (Pl, PySem.W.listOf pv.toArray n), (L + 1 + 1, oc2), (L + 1, o1)]) (J := fun i ys nw => StrsAre ys ((qs.take i).map fun q => outS (halfN q.toNat v)) ∧ nw = [(D2, PyProof.Rows.LCg.lst ys2), (D1, PyProof.Rows.LCg.lst ys1), (Pl, PySem.W.listOf pv.toArray n), (L + 1 + 1, oc2), (L + 1, o1)]) rfl (by k_asm) (by k_asm) (by assumption) (fun p hp => hp) (.head _) (by rw [y2]; exact Nat.le_trans g1.2.2.1 (by decide)) ?c1 ⟨.nil, rfl⟩ ?c2 ?c3
        case c1 =>
          rintro i ys nw ⟨_, rfl⟩
          exact .head _
        case c2 =>
          rintro j vj ys nw I' C' D' oI' oC' m7 h7 g7 tk7 E7 hj hv7 ⟨hys, rfl⟩ hC7 hx7 hb7 F7 N7 off7 n1 n2 n3
          obtain ⟨nm, tn, rfl, hnm⟩ := ints_nth hys2 hv7
          rw [List.getElem?_map, Option.map_eq_some_iff] at hnm
          obtain ⟨num, hnum, rfl⟩ := hnm
          have hb' := hg'.bnd num (List.mem_of_getElem? hnum)
          have gh : halfN num.toNat v ≤ 24 := halfN_le (by omega) gv
          refine wpAny_tests_nil ?_
          simp only [if_true]
          k_steps
          refine CEnd.intro (nw := [(D2, PyProof.Rows.LCg.lst ys2), (D1, PyProof.Rows.LCg.lst ys1), (Pl, PySem.W.listOf pv.toArray n), (L + 1 + 1, oc2), (L + 1, o1)]) (by assumption) (by k_asm) (by k_asm) (.head _) (.tail _ (.head _)) (.tail _ (.tail _ (.head _))) (fun p hp => .tail _ (.tail _ (.tail _ hp))) off7 ⟨?_, rfl⟩
          rw [take_snoc hnum]
          exact strs_snoc hys
        case c3 =>
          rintro ys3 nw ⟨hys3, rfl⟩ tzD3 D3 h7 g7 tk7 htzD3 hb7 F7 N7 off7
          rw [List.take_of_length_le (by omega)] at hys3
          k_steps
          have N7' : News _ _ _ [(D2, PyProof.Rows.LCg.lst ys2), (D1, PyProof.Rows.LCg.lst ys1), (Pl, PySem.W.listOf pv.toArray n), (L + 1 + 1, oc2), (L + 1, o1)] := news_sub (by k_asm) (fun p hp => .tail _ hp)
          clear off7
          clear N7
          refine csrc_list (ax := D2) (ws := ys2) (k := ys2.length) (news := [(D2, PyProof.Rows.LCg.lst ys2), (D1, PyProof.Rows.LCg.lst ys1), (Pl, PySem.W.listOf pv.toArray n), (L + 1 + 1, oc2), (L + 1, o1)]) (J := fun i ys nw => IntsAre ys ((qs.take i).map fun q => (2 * (halfN q.toNat v : Int)).fmod (v : Int)) ∧ nw = [(D2, PyProof.Rows.LCg.lst ys2), (D1, PyProof.Rows.LCg.lst ys1), (Pl, PySem.W.listOf pv.toArray n), (L + 1 + 1, oc2), (L + 1, o1)]) rfl (by k_asm) (by k_asm) (by assumption) (fun p hp => hp) (.head _) (by rw [y2]; exact Nat.le_trans g1.2.2.1 (by decide)) ?d1 ⟨.nil, rfl⟩ ?d2 ?d3
          case d1 =>
            rintro i ys nw ⟨_, rfl⟩
            exact .head _
          case d2 =>
            rintro j vj ys nw I' C' D' oI' oC' m7 h8 g8 tk8 E8 hj hv7 ⟨hys, rfl⟩ hC7 hx7 hb8 F8 N8 off8 n1 n2 n3
            obtain ⟨nm, tn, rfl, hnm⟩ := ints_nth hys2 hv7
            rw [List.getElem?_map, Option.map_eq_some_iff] at hnm
            obtain ⟨num, hnum, rfl⟩ := hnm
            refine wpAny_tests_nil ?_
            simp only [if_true]
            k_steps
            refine CEnd.intro (nw := [(D2, PyProof.Rows.LCg.lst ys2), (D1, PyProof.Rows.LCg.lst ys1), (Pl, PySem.W.listOf pv.toArray n), (L + 1 + 1, oc2), (L + 1, o1)]) (by assumption) (by k_asm) (by k_asm) (.head _) (.tail _ (.head _)) (.tail _ (.tail _ (.head _))) (fun p hp => .tail _ (.tail _ (.tail _ hp))) off8 ⟨?_, rfl⟩
            rw [take_snoc hnum]
            exact ints_snoc hys
          case d3 =>
            rintro ys4 nw ⟨hys4, rfl⟩ tzD4 D4 h8 g8 tk8 htzD4 hb8 F8 N8 off8
            have e4 : ((qs.take ys2.length).map fun q => (2 * (halfN q.toNat v : Int)).fmod (v : Int)) = qs := by
              rw [List.take_of_length_le (by omega)]
              conv => rhs; rw [← List.map_id qs]
              exact List.map_congr_left fun q hq => half_back hW (hg'.bnd q hq).1 (hg'.bnd q hq).2
            rw [e4] at hys4
            k_steps
            have N8' : News _ _ _ [(D2, PyProof.Rows.LCg.lst ys2), (D1, PyProof.Rows.LCg.lst ys1), (Pl, PySem.W.listOf pv.toArray n), (L + 1 + 1, oc2), (L + 1, o1)] := news_sub (by k_asm) (fun p hp => .tail _ hp)
            clear off8
            clear N8
            refine csrc_list (ax := D2) (ws := ys2) (k := ys2.length) (news := [(D2, PyProof.Rows.LCg.lst ys2), (D1, PyProof.Rows.LCg.lst ys1), (Pl, PySem.W.listOf pv.toArray n), (L + 1 + 1, oc2), (L + 1, o1)]) (J := fun i ys nw => ∃ ts, Pts ((qs.take i).map fun q => halfN q.toNat v) ys ts ∧ nw = (D2, PyProof.Rows.LCg.lst ys2) :: (D1, PyProof.Rows.LCg.lst ys1) :: (Pl, PySem.W.listOf pv.toArray n) :: (L + 1 + 1, oc2) :: (L + 1, o1) :: ts) rfl (by k_asm) (by k_asm) (by assumption) (fun p hp => hp) (.head _) (by rw [y2]; exact Nat.le_trans g1.2.2.1 (by decide)) ?f1 ⟨[], ⟨rfl, fun j h e => by simp at e⟩, rfl⟩ ?f2 ?f3
            case f1 =>
              rintro i ys nw ⟨ts, _, rfl⟩
              exact .head _
            case f2 =>
              rintro j vj ys nw I' C' D' oI' oC' m7 h8 g8 tk8 E8 hj hv7 ⟨ts, hys, rfl⟩ hC7 hx7 hb8 F8 N8 off8 n1 n2 n3
              obtain ⟨nm, tn, rfl, hnm⟩ := ints_nth hys2 hv7
              rw [List.getElem?_map, Option.map_eq_some_iff] at hnm
              obtain ⟨num, hnum, rfl⟩ := hnm
              have hb' := hg'.bnd num (List.mem_of_getElem? hnum)
              have gh : halfN num.toNat v < 24 := halfN_lt hW hb'.1 hb'.2
              generalize hgen : halfN num.toNat v = hf at gh hx7 ⊢
              have f1 := (fr_inf hf (by omega)).1
              obtain ⟨c1, c2⟩ := col_a hf gh
              obtain ⟨c3, c4⟩ := col_b hf gh
              have c5 := col_c hf gh
              obtain ⟨c6, c7⟩ := sect_rng gh
              refine wpAny_tests_nil ?_
              simp only [if_true]
              k_steps
              rename_i Dt a1 a2 a3 h9 g9 tk9 F9 N9 of9 nz9 hb9
              rw [c5] at N9
              have z1 : @Ne Nat Dt I' := Ne.symm (of9 _ (.tail _ (.head _)))
              have z2 : @Ne Nat Dt C' := Ne.symm (of9 _ (.tail _ (.tail _ (.head _))))
              have z3 : @Ne Nat Dt D' := Ne.symm (of9 _ (.tail _ (.tail _ (.tail _ (.head _)))))
              obtain ⟨q1, q2, q3, q4, q5, q6⟩ := off8
              refine CEnd.intro (nw := (D2, PyProof.Rows.LCg.lst ys2) :: (D1, PyProof.Rows.LCg.lst ys1) :: (Pl, PySem.W.listOf pv.toArray n) :: (L + 1 + 1, oc2) :: (L + 1, o1) :: (Dt, tup3 (.float (fr hf 32) a1) (.float 4602678819172646912 a2) (.float 4607182418800017408 a3)) :: ts) hb9 F9 N9 (.tail _ (.tail _ (.head _))) (.tail _ (.tail _ (.tail _ (.head _)))) (.tail _ (.tail _ (.tail _ (.tail _ (.head _))))) ?u1 ⟨q1, q2, q3, q4, q5, ⟨z1, z2, z3⟩, q6⟩ ⟨_, ?u2, rfl⟩
              case u1 =>
                intro p hp
                simp only [List.mem_cons] at hp ⊢
                rcases hp with h | h | h | h | h | h | h <;> simp [h]
              case u2 =>
                rw [take_snoc hnum, hgen]
                exact pts_snoc hys nz9
            case f3 =>
              rintro ys5 nw ⟨ts, hys5, rfl⟩ tz5 D5 h8 g8 tk8 htz5 hb8 F8 N8 off8
              rw [List.take_of_length_le (by omega)] at hys5
              k_steps
              refine csrc_list (ax := D2) (ws := ys2) (k := ys2.length) (news := (D5, PyProof.Rows.LCg.lst ys5) :: (D2, PyProof.Rows.LCg.lst ys2) :: (Pl, PySem.W.listOf pv.toArray n) :: (L + 1 + 1, oc2) :: (L + 1, o1) :: ([] ++ ts)) (J := fun i ys nw => ∃ us, Pts ((qs.take i).map fun q => halfN q.toNat v) ys us ∧ nw = (D5, PyProof.Rows.LCg.lst ys5) :: (D2, PyProof.Rows.LCg.lst ys2) :: (Pl, PySem.W.listOf pv.toArray n) :: (L + 1 + 1, oc2) :: (L + 1, o1) :: (us ++ ts)) rfl (by k_asm) (by k_asm) (by assumption) ?g0 (.tail _ (.head _)) (by rw [y2]; exact Nat.le_trans g1.2.2.1 (by decide)) ?g1 ⟨[], ⟨rfl, fun j h e => by simp at e⟩, rfl⟩ ?g2 ?g3
              case g0 =>
                intro p hp
                simp only [List.mem_cons, List.nil_append] at hp ⊢
                rcases hp with h | h | h | h | h | h <;> simp [h]
              case g1 =>
                rintro i ys nw ⟨us, _, rfl⟩
                exact .tail _ (.head _)
              case g2 =>
                rintro j vj ys nw I' C' D' oI' oC' m7 h9 g9 tk9 E9 hj hv7 ⟨us, hys, rfl⟩ hC7 hx7 hb9 F9 N9 off9 n1 n2 n3
                obtain ⟨nm, tn, rfl, hnm⟩ := ints_nth hys2 hv7
                rw [List.getElem?_map, Option.map_eq_some_iff] at hnm
                obtain ⟨num, hnum, rfl⟩ := hnm
                have hb' := hg'.bnd num (List.mem_of_getElem? hnum)
                have gh : halfN num.toNat v < 24 := halfN_lt hW hb'.1 hb'.2
                generalize hgen : halfN num.toNat v = hf at gh hx7 ⊢
                have f1 := (fr_inf hf (by omega)).1
                refine wpAny_tests_nil ?_
                simp only [if_true]
                k_steps
                rename_i Dn hn Fn Nn ln
                obtain ⟨q1, q2, q3, q4, q5, q6⟩ := off9
                refine CEnd.intro (nw := (D5, PyProof.Rows.LCg.lst ys5) :: (D2, PyProof.Rows.LCg.lst ys2) :: (Pl, PySem.W.listOf pv.toArray n) :: (L + 1 + 1, oc2) :: (L + 1, o1) :: (((Dn, tup3 (.float (fr hf 32) (tk9 + 1)) (.float 4602678819172646912 (tk9 + 1 + 1)) (.float 4607182418800017408 (tk9 + 1 + 1 + 1))) :: us) ++ ts)) hb9 Fn Nn (.tail _ (.head _)) (.tail _ (.tail _ (.head _))) (.tail _ (.tail _ (.tail _ (.head _)))) ?u1 ⟨q1, q2, q3, q4, q5, ⟨Nat.ne_of_gt ln.1, Nat.ne_of_gt ln.2.1, Nat.ne_of_gt ln.2.2.1⟩, q6⟩ ⟨_, ?u2, rfl⟩
                case u1 =>
                  intro p hp
                  simp only [List.mem_cons, List.cons_append] at hp ⊢
                  rcases hp with h | h | h | h | h | h | h <;> simp [h]
                case u2 =>
                  rw [take_snoc hnum, hgen]
                  exact pts_snoc hys ⟨Nat.succ_ne_zero _, Nat.succ_ne_zero _, Nat.succ_ne_zero _⟩
              case g3 =>
                rintro ys6 nw ⟨us, hys6, rfl⟩ tz6 D6 h9 g9 tk9 htz6 hb9 F9 N9 off9
                rw [List.take_of_length_le (by omega)] at hys6
                have hlt : ∀ h ∈ qs.map fun q => halfN q.toNat v, h < 64 := by
                  intro h hm
                  obtain ⟨q, hq, rfl⟩ := List.mem_map.mp hm
                  exact Nat.lt_of_lt_of_le (halfN_lt hW (hg'.bnd q hq).1 (hg'.bnd q hq).2) (by decide)
                k_steps
                refine csrc_list (ax := D5) (ws := ys5) (k := ys5.length) (news := (D5, PyProof.Rows.LCg.lst ys5) :: (D2, PyProof.Rows.LCg.lst ys2) :: (Pl, PySem.W.listOf pv.toArray n) :: (L + 1 + 1, oc2) :: (L + 1, o1) :: ts) (J := fun i ys nw => FlAre ys ((qs.take i).map fun q => (halfN q.toNat v : Int)) ∧ nw = (D5, PyProof.Rows.LCg.lst ys5) :: (D2, PyProof.Rows.LCg.lst ys2) :: (Pl, PySem.W.listOf pv.toArray n) :: (L + 1 + 1, oc2) :: (L + 1, o1) :: ts) rfl (by k_asm) (by k_asm) (by assumption) ?i0 (.head _) (by rw [hys5.1, List.length_map, g2]; exact Nat.le_trans g1.2.2.1 (by decide)) ?i1 ⟨⟨rfl, fun j h e => by simp at e⟩, rfl⟩ ?i2 ?i3
                case i0 =>
                  intro p hp
                  simp only [List.mem_cons, List.mem_append] at hp ⊢
                  rcases hp with h | h | h | h | h | h <;> simp [h]
                case i1 =>
                  rintro i ys nw ⟨_, rfl⟩
                  exact .head _
                case i2 =>
                  rintro j vj ys nw I' C' D' oI' oC' m7 h10 g10 tk10 E10 hj hv7 ⟨hys, rfl⟩ hC7 hx7 hb10 F10 N10 off10 n1 n2 n3
                  have hj' : j < (qs.map fun q => halfN q.toNat v).length := by rw [← hys5.1]; exact hj
                  obtain ⟨Dq, a1, a2, a3, p1, p2, _⟩ := hys5.2 j _ (List.getElem?_eq_getElem hj')
                  rw [hv7] at p1
                  cases p1
                  rw [List.length_map] at hj'
                  have hnum : qs[j]? = some qs[j] := List.getElem?_eq_getElem hj'
                  rw [List.getElem_map] at p2
                  generalize qs[j] = num at p2 hnum
                  have hb' := hg'.bnd num (List.mem_of_getElem? hnum)
                  have gh : halfN num.toNat v < 24 := halfN_lt hW hb'.1 hb'.2
                  generalize hgen : halfN num.toNat v = hf at gh p2 ⊢
                  have N11 : News _ _ _ ((Dq, tup3 (.float (fr hf 32) a1) (.float 4602678819172646912 a2) (.float 4607182418800017408 a3)) :: (I', oI') :: (C', oC') :: (D', PyProof.Rows.LCg.lst ys) :: (D5, PyProof.Rows.LCg.lst ys5) :: (D2, PyProof.Rows.LCg.lst ys2) :: (Pl, PySem.W.listOf pv.toArray n) :: (L + 1 + 1, oc2) :: (L + 1, o1) :: ts) := news_sub N10 (by
                    intro p hp
                    rcases List.mem_cons.mp hp with h | h
                    · rw [h]; simp [p2]
                    · exact h)
                  clear N10
                  refine wpAny_tests_nil ?_
                  simp only [if_true]
                  k_steps
                  obtain ⟨q1, q2, q3, q4, q5, q6⟩ := off10
                  refine CEnd.intro (nw := (D5, PyProof.Rows.LCg.lst ys5) :: (D2, PyProof.Rows.LCg.lst ys2) :: (Pl, PySem.W.listOf pv.toArray n) :: (L + 1 + 1, oc2) :: (L + 1, o1) :: ts) hb10 F10 N11 (.tail _ (.head _)) (.tail _ (.tail _ (.head _))) (.tail _ (.tail _ (.tail _ (.head _)))) (fun p hp => .tail _ (.tail _ (.tail _ (.tail _ hp)))) ⟨q1, q2, q3, q4, q5, q6⟩ ⟨?_, rfl⟩
                  rw [take_snoc hnum, hgen]
                  exact flare_snoc hys (col_d hf gh)
                case i3 =>
                  rintro ys7 nw ⟨hys7, rfl⟩ tz7 D7 h10 g10 tk10 htz7 hb10 F10 N10 off10
                  rw [List.take_of_length_le (by rw [hys5.1, List.length_map]; exact Nat.le_refl _)] at hys7
                  have hgh := half_good hW hg'
                  have N12 : News _ _ _ [(D7, PyProof.Rows.LCg.lst ys7), (L + 1 + 1, oc2), (L + 1, o1), (D2, PyProof.Rows.LCg.lst ys2), (Pl, PySem.W.listOf pv.toArray n)] := news_sub (by k_asm) (by
                    intro p hp
                    simp only [List.mem_cons, List.not_mem_nil, or_false] at hp ⊢
                    rcases hp with h | h | h | h | h <;> simp [h])
                  have c7 : @Ne Nat D7 (L + 1 + 1) := Ne.symm (off10 (L + 1 + 1, oc2) (by simp))
                  have hPl2 := of2.1
                  have hD22 := of4.2.2.1
                  clear N10
                  clear off10
                  clear of1 of2 of3 of4 ne12
                  k_steps
                  constructor
                  intro Ct nt cv h11 g11 tk11 F11 N11 of11 hb11 hi11
                  dsimp only at F11
                  have hcl : (countsF (qs.map fun q => (halfN q.toNat v : Int)) v).length + 2 ≤ sizeLine := by
                    have : (countsF (qs.map fun q => (halfN q.toNat v : Int)) v).length = v / 2 := outer_len
                    rw [this]; exact Nat.le_trans (show v / 2 + 2 ≤ 14 by omega) (by decide)
                  have cC : @Ne Nat Ct (L + 1 + 1) := Ne.symm (of11 (L + 1 + 1, oc2) (.tail _ (.head _)))
                  clear of11
                  k_steps
                  rename_i Dd hd1 ld1 Dc wc hc1 hIc lc1 hs1 oc FS NS dc hR tkR ta tb tc IR FR NR KR
                  obtain ⟨d, ed, hd12, hdN⟩ := due_ok hW g2
                  have hfd : Float64.isInf (fr d 64) = false := fr_inf64 hd12
                  clear FS NS
                  rw [ed] at hIc FR NR
                  rw [ed]
                  have hcn := counts_nat hW hgh
                  have hcs0 : (countsF (qs.map fun q => (halfN q.toNat v : Int)) v).length = v / 2 := outer_len
                  generalize hcs : countsF (qs.map fun q => (halfN q.toNat v : Int)) v ++ [(d : Int), (d : Int)] = cs at hIc
                  have hcl2 : cs.length = v / 2 + 2 := by rw [← hcs, List.length_append, hcs0]; rfl
                  have hnat : NatL cs := by
                    rw [← hcs]
                    intro x hx
                    rcases List.mem_append.mp hx with h | h
                    · exact hcn x h
                    · simp only [List.mem_cons, List.not_mem_nil, or_false, or_self] at h
                      subst h; omega
                  obtain ⟨r1, r2, r3, r4, r5⟩ := range3_ok hW
                  refine csrc_rangeT (n := (v / 2 + 2) / 3) (news := (Dc, PySem.W.listOf wc.toArray 0) :: (L + 1 + 1, oc) :: (L + 1, o1) :: (D2, PyProof.Rows.LCg.lst ys2) :: (Pl, PySem.W.listOf pv.toArray n) :: []) (J := fun i ys nw t => ∃ ls, Lamps cs i ys ls t ∧ nw = (Dc, PySem.W.listOf wc.toArray 0) :: (L + 1 + 1, oc) :: (L + 1, o1) :: (D2, PyProof.Rows.LCg.lst ys2) :: (Pl, PySem.W.listOf pv.toArray n) :: ls) rfl (by k_asm) (by k_asm) hb11 ?j0 IR r1 r2 (Nat.le_trans r3 (by decide)) ?jm ⟨[], Lamps.nil, rfl⟩ ?j3 ?j4
                  case j0 =>
                    intro p hp
                    simp only [List.mem_cons, List.not_mem_nil, or_false] at hp ⊢
                    rcases hp with h | h | h | h | h <;> simp [h]
                  case jm =>
                    rintro i ys nw t t' le ⟨ls, hl, e⟩
                    exact ⟨ls, hl.mono le, e⟩
                  case j3 =>
                    rintro j vj ys nw I' C' D' oI' oC' m7 h13 g13 tk13 E13 hj ⟨tj, rfl⟩ ⟨ls, hls, rfl⟩ hC7 hx7 hb13 F13 N13 off13 n1 n2 n3
                    have ej : (0 : Int) + (j : Int) * 3 = ((3 * j : Nat) : Int) := by omega
                    rw [ej] at hx7
                    obtain ⟨⟨x0, x1, x2⟩, ⟨y0, y1, y2⟩, z0, z1, z2⟩ := idx_ok hj hcl2 r4
                    refine wpAny_tests_nil ?_
                    simp only [if_true]
                    k_steps
                    rename_i Dt x y z a1 a2 a3 h14 g14 tk14 F14 N14 of14 lm14 le14 hb14
                    dsimp only at le14
                    obtain ⟨i0, i1, i2⟩ := toNat3 (3 * j)
                    rw [i0, i1, i2] at lm14
                    obtain ⟨q1, q2, q3, q4, q5, q6⟩ := off13
                    refine CEnd.intro (nw := (Dc, PySem.W.listOf wc.toArray 0) :: (L + 1 + 1, oc) :: (L + 1, o1) :: (D2, PyProof.Rows.LCg.lst ys2) :: (Pl, PySem.W.listOf pv.toArray n) :: ((Dt, tup3 (.float x a1) (.float y a2) (.float z a3)) :: ls)) hb14 F14 N14 (.tail _ (.head _)) (.tail _ (.tail _ (.head _))) (.tail _ (.tail _ (.tail _ (.head _)))) ?u1 ⟨q1, q2, q3, q4, q5, ⟨Ne.symm (of14 _ (.head _)), Ne.symm (of14 _ (.tail _ (.head _))), Ne.symm (of14 _ (.tail _ (.tail _ (.head _))))⟩, q6⟩ ⟨_, ?u2, rfl⟩
                    case u1 =>
                      intro p hp
                      simp only [List.mem_cons] at hp ⊢
                      rcases hp with h | h | h | h | h | h | h <;> simp [h]
                    case u2 => exact hls.snoc (by omega) lm14
                  case j4 =>
                    rintro ys8 nw t8 ⟨ls, hls, rfl⟩ D8 h13 g13 tk13 ht13 hb13 F13 N13 off13
                    have t8p : 0 < t8 := by
                      obtain ⟨_, _, _, _, _, _, a3, _, _, q⟩ := hls.2 0 r5
                      exact Nat.lt_of_le_of_lt (Nat.zero_le _) q.2.2.2.1
                    k_steps
                    constructor
                    refine' eq_ints ?N ?h1 ?h2 ?hi ?hj ?hl ?hu ?_
                    case N => k_asm
                    case h1 => k_mem
                    case h2 => k_mem
                    case hi => assumption
                    case hj => assumption
                    case hl => exact (List.Perm.length_eq (by assumption : List.Perm _ (qs.map fun q => (halfN q.toNat v : Int)))).trans ((List.length_map ..).trans (List.Perm.length_eq (by assumption : List.Perm _ qs)).symm)
                    case hu => ktr_units
                    k_steps
                    refine FnEnd.intro (by k_asm) (fun _ => hb13) rfl rfl (congrArg Value.bool ?_)
                    rw [← hcs, hdN]
                    exact plain hW hg' hsum (by assumption) (by assumption) (by assumption) (by assumption))
end Mine
end
section
open PySem PySem.W PyProof.Rows PySem.Calls
set_option Elab.async false
set_option maxRecDepth 100000
set_option maxHeartbeats 40000000
namespace Mine
theorem law_at {w : World} {mg mb : Str → Option Value} {mean : ExcName → Option Value} {h : Heap} {fa : Addr} (KX : (hd.heap_39 w.params).In h) (T : Top hd.view_39 (looseW hd.view_39 []) mean mg mb h) (hmg : mg (Str.ofString "law") = some (.ref fa)) : fa = 112 := by
  obtain ⟨o, es, ep, e1, e2, _, e4⟩ := T.g
  have k := KX mainGlobals _ rfl
  rw [k] at e1
  cases e1
  cases e2
  have := e4 (Str.ofString "law")
  rw [hmg] at this
  have q : some (Value.ref fa) = some (Value.ref 112) := this.symm.trans (by with_unfolding_all rfl)
  exact Value.ref.inj (Option.some.inj q)
end Mine
theorem PySem.Challenge.cw_tr0033_01_holds : PySem.Challenge.rw_tr0033_01.Holds := by
  refine Mine.hd ?_
  k_fill
  intro w s₀ s₁ mg mb G Y fa o pm cd doc dV kV ho hd hcd hD hmg hg args vals as hpre hlay hrd hwl hlo
  have KX := kIn_of Y
  refine Ground.open G ?_
  intro T B D TE TW
  have e := Mine.law_at KX T hmg
  clear ho hd hcd hD hmg TE TW D B
  subst e
  wrow_args hpre hlay hrd hwl hlo
  rename_i xs _ _ _ _ _ _ _ l vs _ hL _ _ _ hI _ hc1 _
  refine wpAny_mono (Mine.law_t w l vs xs ⟨rfl, rfl⟩ hI (by omega) callerA s₁.heap [] s₁ (ExcName.means s₀.heap) mg mb _ (below_caller _) KX T rfl (by decide +kernel) (by decide +kernel) (AllBare.of_eq hg) hL) (fun v s' h => ?_) (fun _ _ h => h)
  obtain ⟨g, rfl⟩ := h
  exact ⟨.inl ⟨_, .bool true, [], rfl, fun _ => rfl, .bool _, (by wrow_post), fun _ => ⟨.nil, fun _ h => nomatch h⟩⟩, .of_keep g.keep, g.os, g.bare (AllBare.of_eq hg)⟩
end
