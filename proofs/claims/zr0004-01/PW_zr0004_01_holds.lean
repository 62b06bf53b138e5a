import PyProof.Rows.All
import Wide.All
import OpenK.AllK
import Wide.FinOn
import PySem.Challenge.RW_zr0004_01
open PySem PySem.W PySem.Spec PySem.Calls PyProof.Rows
set_option Elab.async false
set_option maxRecDepth 100000
set_option maxHeartbeats 8000000
set_option autoImplicit false
set_option linter.all false

namespace Mine
open_top hd for PySem.Challenge.rw_zr0004_01
/-- the head leaves the lines for the top on; the parts below walk with them off -/
theorem lines_off : True := by
  w_top off
  trivial
end Mine

/-! part Base -/

namespace Mine

def q37 : Str := Str.ofString "_int2digits.<locals>.inner"
def q44 : Str := Str.ofString "_digits2int.<locals>.inner"

/-- a table of codes, or one of the two code objects -/
def TabKind (o : Obj) : Prop := ∃ fs, o.data = .fields fs ∧ (o.cls = .none ∨ ∃ t, fs[1]? = some (.str q37 t) ∨ fs[1]? = some (.str q44 t))

/-- an object that is no table of codes and no code -/
def NotTab (o : Obj) : Prop := ¬ TabKind o

theorem notTab_cell {o : Obj} {v : Option Value} (h : o.data = .cell v) : NotTab o := fun ⟨fs, e, _⟩ => by rw [h] at e; cases e
theorem notTab_lit {o : Obj} (h : (match o.data with | .fields _ => true | _ => false) = false) : NotTab o := fun ⟨fs, e, _⟩ => by rw [e] at h; cases h
theorem notTab_iter {o : Obj} {c : String} {a : Value} {i : Int} {t : Tok} (hc : o.cls = .type c) (hd : o.data = .fields #[a, .int i t]) : NotTab o := fun ⟨fs, e, h⟩ => by
  rw [hd] at e
  injection e with e
  subst e
  rcases h with h | ⟨t', h | h⟩
  · rw [hc] at h; cases h
  · simp at h
  · simp at h

/-- the table at P: empty, or with the one code object in it -/
def TabAtP (P ln col : Nat) (q : Str) (tb : List (Addr × Obj)) : Prop :=
  ((P, tabObj #[]) ∈ tb) ∨ ∃ c' oc vs t, (P, tabObj #[rawInt ln, rawInt col, .ref c']) ∈ tb ∧ (c', oc) ∈ tb ∧ oc.data = .fields vs ∧ vs[1]? = some (.str q t)

structure TabsIn (tb : List (Addr × Obj)) : Prop where
  kind : ∀ p ∈ tb, TabKind p.2
  t37 : TabAtP 37 46 4 q37 tb
  t44 : TabAtP 44 61 4 q44 tb

/-- what a call leaves of the heap: all that is no table stands; the new tables are the old ones' places, or new -/
structure Stp (tb tb' : List (Addr × Obj)) (h h' : Heap) : Prop where
  keep : ∀ b o, h.get? b = some o → (∀ p ∈ tb, p.1 ≠ b) → h'.get? b = some o
  fresh : ∀ p ∈ tb', (∃ q ∈ tb, q.1 = p.1) ∨ h.get? p.1 = none

inductive Led (tb : List (Addr × Obj)) : List (Addr × Obj) → List (Addr × Obj) → Prop
  | tail : Led tb tb []
  | cons {p : Addr × Obj} {l nw : List (Addr × Obj)} : NotTab p.2 → Led tb l nw → Led tb (p :: l) (p :: nw)

theorem Led.split {tb l nw : List (Addr × Obj)} (h : Led tb l nw) : l = nw ++ tb ∧ ∀ p ∈ nw, NotTab p.2 := by
  induction h with
  | tail => exact ⟨rfl, fun _ h => nomatch h⟩
  | cons hn _ ih =>
    refine ⟨by rw [ih.1]; rfl, fun p hp => ?_⟩
    rcases List.mem_cons.mp hp with rfl | hp
    · exact hn
    · exact ih.2 p hp

theorem hideAll_of {h : Heap} {tb : List (Addr × Obj)} {b : Addr} {o : Obj} (e : h.get? b = some o) (hn : ∀ p ∈ tb, p.1 ≠ b) : (hideAll h (tb.map (·.1))).get? b = some o :=
  hideAll_get _ e fun hm => by
    obtain ⟨p, hp, e'⟩ := List.mem_map.mp hm
    exact hn p hp e'

theorem tb_apart {h₀ h : Heap} {L : Addr} {tb nw : List (Addr × Obj)} (N : News h₀ L h (nw ++ tb)) (K : TabsIn tb) (hn : ∀ p ∈ nw, NotTab p.2) : ∀ p ∈ nw, ∀ q ∈ tb, q.1 ≠ p.1 := fun p hp q hq e => by
  have e1 := (N p (List.mem_append_left _ hp)).1
  have e2 := (N q (List.mem_append_right _ hq)).1
  rw [e, e1] at e2
  exact hn p hp (by rw [Option.some.inj e2]; exact K.kind q hq)

theorem tb_ne {h₀ h : Heap} {L D : Addr} {led tb : List (Addr × Obj)} {o : Obj} (N : News h₀ L h led) (hm : (D, o) ∈ led) (hs : ∀ p ∈ tb, p ∈ led) (K : TabsIn tb) (hn : NotTab o) : ∀ p ∈ tb, p.1 ≠ D := fun q hq e => by
  have e1 := (N _ hm).1
  have e2 := (N q (hs q hq)).1
  rw [e] at e2
  rw [show h.get? D = some o from e1] at e2
  exact hn (by rw [Option.some.inj e2]; exact K.kind q hq)

/-- the end of a called def -/
def EndT (h₀ : Heap) (L : Addr) (m : Str → Option Value) (g : Heap) (L' : Addr) (nw tb : List (Addr × Obj)) (h1 : Heap) (R : Result → Shared → Prop) (v : Value) (s' : Shared) : Prop :=
  ∃ m' ex tb', Fr g L' s'.heap m' ∧ News g L' s'.heap (ex ++ tb') ∧ TabsIn tb' ∧
    (Fr h₀ L s'.heap m → News h₀ L s'.heap (ex ++ (nw ++ tb')) → Stp tb tb' h1 s'.heap → R (.ok (.ret v)) s')

section
variable {prog : Program} {w : World} {A₀ A : Around} {s : Shared} {base h₀ : Heap} {outer : List Env} {L : Addr} {m : Str → Option Value} {env : Env} {led nw tb : List (Addr × Obj)}
  {R : Result → Shared → Prop} {name qual : Str} {params : Arguments} {body : List Stmt} {scope : Scope} {cl : List (Str × Addr)} {dV kV doc pm cdv ct : Value} {an : Option Addr} {fo : Obj} {f : Addr} {args : Args} {binds : List (Str × Value)}

theorem groundT (B : Below A₀ base outer h₀) (F : Fr h₀ L s.heap m) (N : News h₀ L s.heap led) (hl : Led tb led nw) (K : TabsIn tb) (hA : A.frames = some (env :: outer)) (hf : env.frame = some L) (hke : env.scope.kind = .function) :
    Fr h₀ L (hideAll s.heap (tb.map (·.1))) m ∧ Below A base (env :: outer) (hideAll s.heap (tb.map (·.1))) ∧ h₀.StaysIn (hideAll s.heap (tb.map (·.1))) ∧
      ∀ L' v s', EndT h₀ L m (hideAll s.heap (tb.map (·.1))) L' nw tb s.heap R v s' → R (.ok (.ret v)) s' := by
  obtain ⟨rfl, hn⟩ := hl.split
  have Nt : News h₀ L s.heap tb := fun p hp => N p (List.mem_append_right _ hp)
  have hap := tb_apart N K hn
  obtain ⟨FG, BG, st, _⟩ := groundX (R := R) B F Nt hA hf hke
  refine ⟨FG, BG, st, fun L' v s' he => ?_⟩
  obtain ⟨m', ex, tb', F', N', K', k⟩ := he
  have nL : ∀ p ∈ tb, p.1 ≠ L := fun p hp => (Nt p hp).2.1
  have keep : ∀ b o, s.heap.get? b = some o → (∀ p ∈ tb, p.1 ≠ b) → s'.heap.get? b = some o := fun b o e hb => F'.keep b o (hideAll_of e hb)
  have low : ∀ p, (hideAll s.heap (tb.map (·.1))).get? p = none → (∃ q ∈ tb, q.1 = p) ∨ s.heap.get? p = none := fun p hp => by
    by_cases hx : ∃ q ∈ tb, q.1 = p
    · exact .inl hx
    · right
      cases q : s.heap.get? p with
      | none => rfl
      | some o =>
        have := hideAll_of q (tb := tb) fun r hr e => hx ⟨r, hr, e⟩
        rw [hp] at this; cases this
  have h0 : ∀ p : Addr, (hideAll s.heap (tb.map (·.1))).get? p = none → h₀.get? p = none := fun p hp => by
    cases q : h₀.get? p with
    | none => rfl
    | some o => have := st _ _ q; rw [hp] at this; cases this
  obtain ⟨oL, es, ep, hL, hLd, hLk, hLf⟩ := F.ns
  have hL' := keep L oL hL nL
  have hLg := hideAll_of hL nL
  have nLx : ∀ p ∈ ex ++ tb', p.1 ≠ L := fun p hp e => by
    have := (N' p hp).2.2
    rw [e, hLg] at this; cases this
  refine k ⟨⟨oL, es, ep, hL', hLd, hLk, hLf⟩, fun b o e => F'.keep b o (st b o e), F.above⟩ (fun p hp => ?_) ⟨keep, fun p hp => low _ (N' p (List.mem_append_right _ hp)).2.2⟩
  rcases List.mem_append.mp hp with hp | hp
  · have q := N' p (List.mem_append_left _ hp)
    exact ⟨q.1, nLx p (List.mem_append_left _ hp), h0 _ q.2.2⟩
  · rcases List.mem_append.mp hp with hp | hp
    · have q := N p (List.mem_append_left _ hp)
      exact ⟨keep _ _ q.1 (hap p hp), q.2⟩
    · have q := N' p (List.mem_append_right _ hp)
      exact ⟨q.1, nLx p (List.mem_append_right _ hp), h0 _ q.2.2⟩

/-- a def without cells of its own is entered; its ledger is the tables alone -/
theorem enterT (B : Below A₀ base outer h₀) (F : Fr h₀ L s.heap m) (N : News h₀ L s.heap led) (hl : Led tb led nw) (K : TabsIn tb) (hlim : h₀.NoLimit) (hA : A.frames = some (env :: outer)) (hf : env.frame = some L) (hke : env.scope.kind = .function)
    (ho : s.heap.get? f = some fo) (hd : fo.data = .func (fnX name qual params body scope cl dV kV doc pm an cdv ct)) (hcd : s.heap.CodeRec cdv qual) (hroom : A.depth < recursionLimit)
    (hbind : BindsTo s (fnX name qual params body scope cl dV kV doc pm an cdv ct) args binds) (hloc : ∀ y ∈ binds, scope.names.lookup y.1 = some .local)
    (h : ∀ g L' h₁, (∀ b o, s.heap.get? b = some o → (∀ p ∈ tb, p.1 ≠ b) → g.get? b = some o) → Fr h₀ L g m → Fr g L' h₁ (fun y => binds.reverse.lookup y) → News g L' h₁ tb → Below A base (env :: outer) g → h₀.StaysIn g → (∀ p ∈ tb, p.1 < L') →
      wpAny (model prog w) (A.deeper (envX qual scope L' f cdv cl)) (execs body (envX qual scope L' f cdv cl))
        (fun fl s' => EndT h₀ L m g L' nw tb s.heap R (match fl with | .ret v => v | _ => .none) s')
        (fun e s' => wpAny (model prog w) (A.deeper (envX qual scope L' f cdv cl)) (leaving (envX qual scope L' f cdv cl) e) (fun _ s'' => R (.error e) s'') (fun e' s'' => R (.error e') s'') s')
        { s with heap := h₁, toks := s.toks + binds.length })
    (hcell : ∀ x ∈ scope.names, x.2 ≠ .cell) (hco : scope.isCoroutine = false := by rfl) (hgen : scope.isGenerator = false := by rfl) (hk : scope.kind = .function := by rfl) : codeAny (model prog w) A (.call (.ref f) args) R s := by
  obtain ⟨FG, BG, st, lv⟩ := groundT (R := R) B F N hl K hA hf hke
  obtain ⟨rfl, hn⟩ := hl.split
  have Nt : News h₀ L s.heap tb := fun p hp => N p (List.mem_append_right _ hp)
  refine codeAny_call_def (fd := fnX name qual params body scope cl dV kV doc pm an cdv ct) (body := body) (binds := binds) hroom ho hd (hlim.keeps F.keep) hcd rfl hbind hcell hloc (fun h₁ hns hk₁ => ?_) hco hgen hk
  exact wpAny_mono (h _ s.heap.objs.size h₁ (fun b o e hb => hideAll_of e hb) FG ⟨hns, fun b o e => hk₁ b o (of_hideAll _ e), Nat.le_of_eq (hideAll_size _ _)⟩
    (fun p hp => ⟨hk₁ _ _ (Nt p hp).1, Nat.ne_of_lt (Heap.lt_size (Nt p hp).1), hideAll_none _ (List.mem_map_of_mem hp)⟩) BG st (fun p hp => Heap.lt_size (Nt p hp).1)) (fun fl s' hl => lv _ _ _ hl) fun _ _ y => y

/-- a def with cells of its own is entered -/
theorem enterC (B : Below A₀ base outer h₀) (F : Fr h₀ L s.heap m) (N : News h₀ L s.heap led) (hl : Led tb led nw) (K : TabsIn tb) (hlim : h₀.NoLimit) (hA : A.frames = some (env :: outer)) (hf : env.frame = some L) (hke : env.scope.kind = .function)
    (ho : s.heap.get? f = some fo) (hd : fo.data = .func (fnX name qual params body scope [] dV kV doc pm an cdv ct)) (hcd : s.heap.CodeRec cdv qual) (hroom : A.depth < recursionLimit)
    (hbind : BindsTo s (fnX name qual params body scope [] dV kV doc pm an cdv ct) args binds)
    (hkind : ∀ n, ∀ x ∈ binds, scope.names.lookup x.1 = some .local ∨ (scope.names.lookup x.1 = some .cell ∧ ((cellsFrom n scope.names []).lookup x.1).isSome = true))
    (hnd : ((cellsFrom 0 scope.names []).map (·.1)).Nodup)
    (h : ∀ g L' h₁ tk cells, (∀ b o, s.heap.get? b = some o → (∀ p ∈ tb, p.1 ≠ b) → g.get? b = some o) → Fr h₀ L g m → Fr g L' h₁ (bindL (envOfC qual scope L' f cdv).kindOf binds fun _ => none) → News g L' h₁ (cells ++ tb) →
      CellsAre (bindC (envOfC qual scope L' f cdv).kindOf binds fun _ => none) (cellsFrom (L' + 1) scope.names []) cells → Below A base (env :: outer) g → h₀.StaysIn g → (∀ p ∈ tb, p.1 < L') →
      wpAny (model prog w) (A.deeper (envOfC qual scope L' f cdv)) (execs body (envOfC qual scope L' f cdv))
        (fun fl s' => EndT h₀ L m g L' nw tb s.heap R (match fl with | .ret v => v | _ => .none) s')
        (fun e s' => wpAny (model prog w) (A.deeper (envOfC qual scope L' f cdv)) (leaving (envOfC qual scope L' f cdv) e) (fun _ s'' => R (.error e) s'') (fun e' s'' => R (.error e') s'') s')
        { s with heap := h₁, toks := tk })
    (hco : scope.isCoroutine = false := by rfl) (hgen : scope.isGenerator = false := by rfl) (hk : scope.kind = .function := by rfl) : codeAny (model prog w) A (.call (.ref f) args) R s := by
  obtain ⟨FG, BG, st, lv⟩ := groundT (R := R) B F N hl K hA hf hke
  obtain ⟨rfl, hn⟩ := hl.split
  have Nt : News h₀ L s.heap tb := fun p hp => N p (List.mem_append_right _ hp)
  refine codeAny_call_function hroom ho hd hco hgen rfl hcd (hbind _ _ _ _ ?_)
  refine wpAny_newFunctionEnv_cells hk (hkind _) fun env' he s' x => ?_
  subst he
  refine ⟨(hlim.keeps F.keep).keeps x.toInCall.keep, codeAny_func ?_⟩
  obtain ⟨h₁, tk, rfl, _⟩ := x.done
  have hk₁ := x.toInCall.keep
  obtain ⟨cells, NC, Y⟩ := Cl.news (h₀ := s.heap) (Nat.le_refl _) fun n c hm => ⟨x.cell n c (lookup_of_mem_nodup (cellsFrom_names scope.names 0 (s.heap.objs.size + 1) [] [] rfl ▸ hnd) hm), x.above n c hm⟩
  refine wpAny_mono (h _ s.heap.objs.size h₁ tk cells (fun b o e hb => hideAll_of e hb) FG ⟨x.toInCall.ns, fun b o e => hk₁ b o (of_hideAll _ e), Nat.le_of_eq (hideAll_size _ _)⟩ (fun p hp => ?_) Y BG st (fun p hp => Heap.lt_size (Nt p hp).1)) (fun fl s' hl => lv _ _ _ hl) fun _ _ y => y
  rcases List.mem_append.mp hp with hp | hp
  · refine ⟨(NC p hp).1, (NC p hp).2.1, ?_⟩
    cases q : (hideAll s.heap (tb.map (·.1))).get? p.1 with
    | none => rfl
    | some o => have := of_hideAll _ q; rw [(NC p hp).2.2] at this; cases this
  · exact ⟨hk₁ _ _ (Nt p hp).1, Nat.ne_of_lt (Heap.lt_size (Nt p hp).1), hideAll_none _ (List.mem_map_of_mem hp)⟩

variable {K : Frag} {p : Program} {loose : List Str} {mean : ExcName → Option Value} {mg mb : Str → Option Value} {oc : Value} {od : Option Addr} {osl : Array (Option Value)}
theorem enterK (B : Below A₀ base outer h₀) (F : Fr h₀ L s.heap m) (X₀ : K.In h₀) (N : News h₀ L s.heap led) (hl : Led tb led nw) (hK : TabsIn tb) (T : Top p loose mean mg mb h₀) (hA : A.frames = some (env :: outer)) (hf : env.frame = some L) (hke : env.scope.kind = .function)
    (ho : K.lookup f = some ⟨oc, od, .func (fnOf name qual params body scope dV kV doc pm an cdv ct), osl⟩) (hcd : codeIn K cdv qual = true) (hroom : A.depth < recursionLimit)
    (hbind : BindsTo s (fnOf name qual params body scope dV kV doc pm an cdv ct) args binds) (hloc : ∀ y ∈ binds, scope.names.lookup y.1 = some .local)
    (h : ∀ g L' h₁, (∀ b o, s.heap.get? b = some o → (∀ p ∈ tb, p.1 ≠ b) → g.get? b = some o) → Fr h₀ L g m → Fr g L' h₁ (fun y => binds.reverse.lookup y) → News g L' h₁ tb → Below A base (env :: outer) g → K.In g → Top p loose mean mg mb g → (∀ p ∈ tb, p.1 < L') →
      wpAny (model prog w) (A.deeper (envOf qual scope L' f cdv)) (execs body (envOf qual scope L' f cdv))
        (fun fl s' => EndT h₀ L m g L' nw tb s.heap R (match fl with | .ret v => v | _ => .none) s')
        (fun e s' => wpAny (model prog w) (A.deeper (envOf qual scope L' f cdv)) (leaving (envOf qual scope L' f cdv) e) (fun _ s'' => R (.error e) s'') (fun e' s'' => R (.error e') s'') s')
        { s with heap := h₁, toks := s.toks + binds.length })
    (hco : scope.isCoroutine = false) (hgen : scope.isGenerator = false) (hk : scope.kind = .function)
    (hcell : ∀ x ∈ scope.names, x.2 ≠ .cell) : codeAny (model prog w) A (.call (.ref f) args) R s :=
  enterT (cl := []) B F N hl hK T.nolimit hA hf hke ((X₀.keeps F.keep) _ _ ho) rfl (codeRec_of (X₀.keeps F.keep) hcd) hroom hbind hloc (fun g L' h₁ hkp FG F' N' B' st hlt => h g L' h₁ hkp FG F' N' B' (X₀.keeps st) (T.keeps st) hlt) hcell hco hgen hk

theorem enterKC (B : Below A₀ base outer h₀) (F : Fr h₀ L s.heap m) (X₀ : K.In h₀) (N : News h₀ L s.heap led) (hl : Led tb led nw) (hK : TabsIn tb) (T : Top p loose mean mg mb h₀) (hA : A.frames = some (env :: outer)) (hf : env.frame = some L) (hke : env.scope.kind = .function)
    (ho : K.lookup f = some ⟨oc, od, .func (fnOf name qual params body scope dV kV doc pm an cdv ct), osl⟩) (hcd : codeIn K cdv qual = true) (hroom : A.depth < recursionLimit)
    (hbind : BindsTo s (fnOf name qual params body scope dV kV doc pm an cdv ct) args binds) (hkind : (binds.all fun y => scope.names.lookup y.1 == some .local || scope.names.lookup y.1 == some .cell) = true)
    (hnd : ((cellsFrom 0 scope.names []).map (·.1)).Nodup)
    (h : ∀ g L' h₁ tk cells, (∀ b o, s.heap.get? b = some o → (∀ p ∈ tb, p.1 ≠ b) → g.get? b = some o) → Fr h₀ L g m → Fr g L' h₁ (bindL (envOfC qual scope L' f cdv).kindOf binds fun _ => none) → News g L' h₁ (cells ++ tb) →
      CellsAre (bindC (envOfC qual scope L' f cdv).kindOf binds fun _ => none) (cellsFrom (L' + 1) scope.names []) cells → Below A base (env :: outer) g → K.In g → Top p loose mean mg mb g → (∀ p ∈ tb, p.1 < L') →
      wpAny (model prog w) (A.deeper (envOfC qual scope L' f cdv)) (execs body (envOfC qual scope L' f cdv))
        (fun fl s' => EndT h₀ L m g L' nw tb s.heap R (match fl with | .ret v => v | _ => .none) s')
        (fun e s' => wpAny (model prog w) (A.deeper (envOfC qual scope L' f cdv)) (leaving (envOfC qual scope L' f cdv) e) (fun _ s'' => R (.error e) s'') (fun e' s'' => R (.error e') s'') s')
        { s with heap := h₁, toks := tk })
    (hco : scope.isCoroutine = false) (hgen : scope.isGenerator = false) (hk : scope.kind = .function) : codeAny (model prog w) A (.call (.ref f) args) R s :=
  enterC B F N hl hK T.nolimit hA hf hke ((X₀.keeps F.keep) _ _ ho) rfl (codeRec_of (X₀.keeps F.keep) hcd) hroom hbind (kindsX hkind) hnd (fun g L' h₁ tk cells hkp FG F' N' Y B' st hlt => h g L' h₁ tk cells hkp FG F' N' Y B' (X₀.keeps st) (T.keeps st) hlt) hco hgen hk
end
end Mine

/-! part Nest -/
namespace Mine

theorem updF_own {P : Addr} {o : Obj} : ∀ {own r : List (Addr × Obj)}, (∀ p ∈ own, p.1 ≠ P) → (∀ p ∈ r, p.1 ≠ P) → UpdF P o (own ++ (P, o) :: r) (fun o' => own ++ (P, o') :: r)
  | [], _, _, h2 => .head h2
  | _ :: _, _, h1, h2 => .tail (h1 _ (.head _)) (updF_own (fun q hq => h1 q (.tail _ hq)) h2)

/-- one table's entries, picked out -/
theorem tab_pick {P ln col : Nat} {q : Str} {tb : List (Addr × Obj)} (h : TabAtP P ln col q tb) : ∃ r : List (Addr × Obj), (∀ p ∈ r, p ∈ tb) ∧ TabAtP P ln col q r ∧
    ((r = [(P, tabObj #[])]) ∨ ∃ c' oc vs t, r = [(P, tabObj #[rawInt ln, rawInt col, .ref c']), (c', oc)] ∧ oc.data = .fields vs ∧ vs[1]? = some (.str q t)) := by
  rcases h with h | ⟨c', oc, vs, t, h1, h2, hd, hv⟩
  · refine ⟨[(P, tabObj #[])], fun p hp => ?_, .inl (.head _), .inl rfl⟩
    rcases List.mem_cons.mp hp with rfl | hp
    · exact h
    · exact nomatch hp
  · refine ⟨[(P, tabObj #[rawInt ln, rawInt col, .ref c']), (c', oc)], fun p hp => ?_, .inr ⟨c', oc, vs, t, .head _, .tail _ (.head _), hd, hv⟩, .inr ⟨c', oc, vs, t, rfl, hd, hv⟩⟩
    rcases List.mem_cons.mp hp with rfl | hp
    · exact h1
    · rcases List.mem_cons.mp hp with rfl | hp
      · exact h2
      · exact nomatch hp

theorem TabAtP.mono {P ln col : Nat} {q : Str} {tb tb' : List (Addr × Obj)} (h : TabAtP P ln col q tb) (hs : ∀ p ∈ tb, p ∈ tb') : TabAtP P ln col q tb' := by
  rcases h with h | ⟨c', oc, vs, t, h1, h2, r⟩
  · exact .inl (hs _ h)
  · exact .inr ⟨c', oc, vs, t, hs _ h1, hs _ h2, r⟩

section
variable {M : Model} {A : Around} {E : Value → Shared → Prop} {s : Shared} {h₀ : Heap} {L a : Addr} {m mg mb : Str → Option Value} {cn : Str} {cs : Scope} {ccd : Value} {cl : List (Str × Addr)} {own tb : List (Addr × Obj)}
  {p : Program} {loose : List Str} {mean : ExcName → Option Value} {name qual : Str} {params : Arguments} {body : List Stmt} {scope : Scope} {pos : Pos} {clos : List (Str × Addr)}

theorem nest_one {Q : Value → Shared → Prop} {c P : Addr} {r : List (Addr × Obj)} (F : Fr h₀ L s.heap m) (N : News h₀ L s.heap (own ++ tb)) (hP : TabAtP P pos.line pos.col qual tb) (hr : ∀ p ∈ r, p ∈ tb ∧ p.1 ≠ P) (hko : ∀ p ∈ own, p.1 ≠ P)
    (hkt : ∀ p ∈ tb, TabKind p.2) (hqual : qual = q37 ∨ qual = q44) (T : Top p loose mean mg mb h₀) (C : CodeHd h₀ c P) (hcd : ccd = .ref c) (hcl : closureFor scope (envX cn cs L a ccd cl) = pure clos)
    (h : ∀ f c' oc vs t ctv doc h' tk tb', Fr h₀ L h' m → News h₀ L h' ((f, fnMade name qual params body scope clos doc ((mg "__name__").getD .none) c' ctv) :: (own ++ tb')) → TabAtP P pos.line pos.col qual tb' → (∀ p ∈ r, p ∈ tb') →
      (∀ p ∈ tb', TabKind p.2) → (c', oc) ∈ tb' → oc.data = .fields vs → vs[1]? = some (.str qual t) → (∀ q ∈ own, q.1 < f) → (∀ q ∈ tb', q.1 < f) → Q (.ref f) { s with heap := h', toks := tk }) :
    wpAny M A (makeFunction name qual params (.stmts body) scope (envX cn cs L a ccd cl) [] [] [] pos pos.line) Q E s := by
  obtain ⟨l, hl, _, hcase⟩ := tab_pick hP
  rcases hcase with rfl | ⟨c', oc, vs, t, rfl, hd, hv⟩
  · have N1 : News h₀ L s.heap (own ++ (P, tabObj #[]) :: r) := fun q hq => by
      rcases List.mem_append.mp hq with hq | hq
      · exact N q (List.mem_append_left _ hq)
      · rcases List.mem_cons.mp hq with rfl | hq
        · exact N _ (List.mem_append_right _ (hl _ (.head _)))
        · exact N _ (List.mem_append_right _ (hr q hq).1)
    refine nest_K F N1 T C hcd (updF_own hko fun q hq => (hr q hq).2) trivial rfl hcl fun f c' oc vs t ctv doc h' tk F' N' hd hv hlt hcf => ?_
    refine h f c' oc vs t ctv doc h' tk ((P, tabObj #[rawInt pos.line, rawInt pos.col, .ref c']) :: (c', oc) :: r) F' (fun q hq => N' q ?_) (.inr ⟨c', oc, vs, t, .head _, .tail _ (.head _), hd, hv⟩) (fun q hq => .tail _ (.tail _ hq)) (fun q hq => ?_) (.tail _ (.head _)) hd hv
      (fun q hq => Nat.lt_trans (hlt q (List.mem_append_left _ hq)) hcf) (fun q hq => ?_)
    · rcases List.mem_cons.mp hq with rfl | hq
      · exact .head _
      · rcases List.mem_append.mp hq with hq | hq
        · exact .tail _ (.tail _ (List.mem_append_left _ hq))
        · rcases List.mem_cons.mp hq with rfl | hq
          · exact .tail _ (.tail _ (List.mem_append_right _ (.head _)))
          · rcases List.mem_cons.mp hq with rfl | hq
            · exact .tail _ (.head _)
            · exact .tail _ (.tail _ (List.mem_append_right _ (.tail _ hq)))
    · rcases List.mem_cons.mp hq with rfl | hq
      · exact ⟨_, rfl, .inl rfl⟩
      · rcases List.mem_cons.mp hq with rfl | hq
        · exact ⟨_, hd, .inr ⟨t, hqual.elim (fun e => .inl (e ▸ hv)) fun e => .inr (e ▸ hv)⟩⟩
        · exact hkt q (hr q hq).1
    · rcases List.mem_cons.mp hq with rfl | hq
      · exact Nat.lt_trans (hlt (P, tabObj #[]) (List.mem_append_right _ (.head _))) hcf
      · rcases List.mem_cons.mp hq with rfl | hq
        · exact hcf
        · exact Nat.lt_trans (hlt q (List.mem_append_right _ (.tail _ hq))) hcf
  · refine nestHit_K (c' := c') F N T C hcd (List.mem_append_right _ (hl _ (.head _))) (by show TriplesOk [rawInt _, rawInt _, Value.ref c']; exact trivial) ?_ hcl fun f ctv doc h' tk F' N' hlt => ?_
    · show codeAmong pos [rawInt pos.line, rawInt pos.col, Value.ref c'] = some (.ref c')
      simp [codeAmong, rawInt]
    · exact h f c' oc vs t ctv doc h' tk tb F' N' hP (fun q hq => (hr q hq).1) hkt (hl _ (.tail _ (.head _))) hd hv (fun q hq => hlt q (List.mem_append_left _ hq)) (fun q hq => hlt q (List.mem_append_right _ hq))

theorem tab_obj {P ln col : Nat} {q : Str} {h : Heap} (hN : ∀ p ∈ tb, h.get? p.1 = some p.2) (hP : TabAtP P ln col q tb) : ∃ ps : Array Value, h.get? P = some (tabObj ps) ∧ ∀ x t, ps[1]? ≠ some (.str x t) := by
  rcases hP with hP | ⟨c', oc, vs, t, h1, _, _, _⟩
  · exact ⟨_, hN _ hP, fun x t e => by simp at e⟩
  · exact ⟨_, hN _ h1, fun x t e => by simp [rawInt] at e⟩

theorem tab_sep {P P' ln col ln' col' : Nat} {q q' : Str} {h : Heap} (hN : ∀ p ∈ tb, h.get? p.1 = some p.2) (hP : TabAtP P ln col q tb) (hP' : TabAtP P' ln' col' q' tb) (hne : P' ≠ P) :
    ∃ r : List (Addr × Obj), (∀ p ∈ r, p ∈ tb ∧ p.1 ≠ P) ∧ TabAtP P' ln' col' q' r := by
  obtain ⟨r, hr, hT, hcase⟩ := tab_pick hP'
  obtain ⟨ps, hps, hno⟩ := tab_obj hN hP
  refine ⟨r, fun p hp => ⟨hr p hp, fun e => ?_⟩, hT⟩
  rcases hcase with rfl | ⟨c', oc, vs, t, rfl, hd, hv⟩
  · rcases List.mem_cons.mp hp with rfl | hp
    · exact hne e
    · exact nomatch hp
  · rcases List.mem_cons.mp hp with rfl | hp
    · exact hne e
    · rcases List.mem_cons.mp hp with rfl | hp
      · have h2 : h.get? c' = some oc := hN _ (hr _ (.tail _ (.head _)))
        have e' : c' = P := e
        rw [e', hps] at h2
        have h3 : tabObj ps = oc := Option.some.inj h2
        rw [← h3] at hd
        injection hd with hd
        rw [← hd] at hv
        exact hno _ _ hv
      · exact nomatch hp

theorem own_ne {P ln col : Nat} {q : Str} {h : Heap} (N : News h₀ L h (own ++ tb)) (hn : ∀ p ∈ own, NotTab p.2) (hP : TabAtP P ln col q tb) : ∀ p ∈ own, p.1 ≠ P := fun p hp e => by
  obtain ⟨ps, hps, _⟩ := tab_obj (h := h) (fun p hp => (N p (List.mem_append_right _ hp)).1) hP
  have h2 := (N p (List.mem_append_left _ hp)).1
  rw [e, hps] at h2
  exact hn p hp (by rw [← Option.some.inj h2]; exact ⟨_, rfl, .inl rfl⟩)

theorem nest37 {Q : Value → Shared → Prop} (F : Fr h₀ L s.heap m) (N : News h₀ L s.heap (own ++ tb)) (K : TabsIn tb) (hn : ∀ p ∈ own, NotTab p.2) (T : Top p loose mean mg mb h₀) (C : CodeHd h₀ 41 37) (hcd : ccd = .ref 41) (hcl : closureFor scope (envX cn cs L a ccd cl) = pure clos)
    (h : ∀ f c' oc vs t ctv doc h' tk tb', Fr h₀ L h' m → News h₀ L h' ((f, fnMade name qual params body scope clos doc ((mg "__name__").getD .none) c' ctv) :: (own ++ tb')) → TabsIn tb' →
      (c', oc) ∈ tb' → oc.data = .fields vs → vs[1]? = some (.str qual t) → (∀ q ∈ own, q.1 < f) → (∀ q ∈ tb', q.1 < f) → Q (.ref f) { s with heap := h', toks := tk })
    (h1 : pos.line = 46 := by rfl) (h2 : pos.col = 4 := by rfl) (h3 : qual = q37 := by rfl) :
    wpAny M A (makeFunction name qual params (.stmts body) scope (envX cn cs L a ccd cl) [] [] [] pos pos.line) Q E s := by
  have hN : ∀ p ∈ tb, s.heap.get? p.1 = some p.2 := fun p hp => (N p (List.mem_append_right _ hp)).1
  obtain ⟨r, hr, hT⟩ := tab_sep hN K.t37 K.t44 (by decide)
  refine nest_one F N (by rw [h1, h2, h3]; exact K.t37) hr (own_ne N hn K.t37) K.kind (.inl h3) T C hcd hcl fun f c' oc vs t ctv doc h' tk tb' F' N' hP' hr' hk' hm hd hv hl1 hl2 => ?_
  exact h f c' oc vs t ctv doc h' tk tb' F' N' ⟨hk', by rw [h1, h2, h3] at hP'; exact hP', hT.mono hr'⟩ hm hd hv hl1 hl2

theorem nest44 {Q : Value → Shared → Prop} (F : Fr h₀ L s.heap m) (N : News h₀ L s.heap (own ++ tb)) (K : TabsIn tb) (hn : ∀ p ∈ own, NotTab p.2) (T : Top p loose mean mg mb h₀) (C : CodeHd h₀ 48 44) (hcd : ccd = .ref 48) (hcl : closureFor scope (envX cn cs L a ccd cl) = pure clos)
    (h : ∀ f c' oc vs t ctv doc h' tk tb', Fr h₀ L h' m → News h₀ L h' ((f, fnMade name qual params body scope clos doc ((mg "__name__").getD .none) c' ctv) :: (own ++ tb')) → TabsIn tb' →
      (c', oc) ∈ tb' → oc.data = .fields vs → vs[1]? = some (.str qual t) → (∀ q ∈ own, q.1 < f) → (∀ q ∈ tb', q.1 < f) → Q (.ref f) { s with heap := h', toks := tk })
    (h1 : pos.line = 61 := by rfl) (h2 : pos.col = 4 := by rfl) (h3 : qual = q44 := by rfl) :
    wpAny M A (makeFunction name qual params (.stmts body) scope (envX cn cs L a ccd cl) [] [] [] pos pos.line) Q E s := by
  have hN : ∀ p ∈ tb, s.heap.get? p.1 = some p.2 := fun p hp => (N p (List.mem_append_right _ hp)).1
  obtain ⟨r, hr, hT⟩ := tab_sep hN K.t44 K.t37 (by decide)
  refine nest_one F N (by rw [h1, h2, h3]; exact K.t44) hr (own_ne N hn K.t44) K.kind (.inr h3) T C hcd hcl fun f c' oc vs t ctv doc h' tk tb' F' N' hP' hr' hk' hm hd hv hl1 hl2 => ?_
  exact h f c' oc vs t ctv doc h' tk tb' F' N' ⟨hk', hT.mono hr', by rw [h1, h2, h3] at hP'; exact hP'⟩ hm hd hv hl1 hl2
end

theorem codeHd41 {P : Params} {h : Heap} (X : (hd.heap_39 P).In h) : CodeHd h 41 37 :=
  ⟨_, _, _, _, _, _, _, _, _, X 41 _ rfl, rfl, rfl, rfl, rfl, rfl, rfl, rfl, rfl, by decide⟩
theorem codeHd48 {P : Params} {h : Heap} (X : (hd.heap_39 P).In h) : CodeHd h 48 44 :=
  ⟨_, _, _, _, _, _, _, _, _, X 48 _ rfl, rfl, rfl, rfl, rfl, rfl, rfl, rfl, rfl, by decide⟩
end Mine

/-! part P1 -/
namespace Mine

def digs (k : Nat) : Nat → Int → List Int
  | 0, _ => []
  | n + 1, x => x % 2 ^ k :: digs k n (x / 2 ^ k)

def undig (k : Nat) : List Int → Int
  | [] => 0
  | d :: r => d + 2 ^ k * undig k r

theorem digs_length (k : Nat) : ∀ (n : Nat) (x : Int), (digs k n x).length = n
  | 0, _ => rfl
  | n + 1, x => by rw [digs, List.length_cons, digs_length k n]

theorem pow_pos' (n : Nat) : (0 : Int) < 2 ^ n := Int.pow_pos (by decide)

theorem ediv_pow_add (x : Int) (a b : Nat) : x / 2 ^ (a + b) = x / 2 ^ a / 2 ^ b := by
  rw [Int.pow_add, Int.ediv_ediv_of_nonneg (Int.le_of_lt (pow_pos' a))]

theorem mod_mod_pow (x : Int) {a b : Nat} (h : a ≤ b) : x % 2 ^ b % 2 ^ a = x % 2 ^ a := by
  obtain ⟨c, rfl⟩ := Nat.le.dest h
  rw [Int.pow_add]
  exact Int.emod_emod_of_dvd _ (Int.dvd_mul_right _ _)

theorem mod_div_pow (x : Int) (a b : Nat) : x % 2 ^ (a + b) / 2 ^ a = x / 2 ^ a % 2 ^ b := by
  have h1 := Int.emod_def x (2 ^ (a + b))
  have h2 := Int.emod_def (x / 2 ^ a) (2 ^ b)
  rw [h1, h2, ← ediv_pow_add, Int.pow_add, Int.mul_assoc, Int.sub_eq_add_neg, ← Int.mul_neg, Int.add_mul_ediv_left _ _ (Int.ne_of_gt (pow_pos' a)), Int.sub_eq_add_neg]

theorem digs_add (k a b : Nat) : ∀ (x : Int), digs k (a + b) x = digs k a (x % 2 ^ (k * a)) ++ digs k b (x / 2 ^ (k * a)) := by
  induction a with
  | zero => intro x; simp [digs]
  | succ a ih =>
    intro x
    rw [show a + 1 + b = (a + b) + 1 by omega, digs, digs, ih]
    rw [show k * (a + 1) = k + k * a by rw [Nat.mul_succ, Nat.add_comm]]
    rw [mod_mod_pow x (Nat.le_add_right k _), mod_div_pow, ediv_pow_add, List.cons_append]

theorem undig_digs (k : Nat) : ∀ (n : Nat) (x : Int), undig k (digs k n x) = x % 2 ^ (k * n)
  | 0, x => by simp [digs, undig, Int.emod_one]
  | n + 1, x => by
    rw [digs, undig, undig_digs k n, show k * (n + 1) = k + k * n by rw [Nat.mul_succ, Nat.add_comm]]
    have h1 := mod_mod_pow x (Nat.le_add_right k (k * n))
    have h2 := mod_div_pow x k (k * n)
    rw [← h1, ← h2]
    exact Int.emod_add_mul_ediv _ _

theorem digs_mem (k : Nat) : ∀ (n : Nat) (x : Int), ∀ d ∈ digs k n x, 0 ≤ d ∧ d < 2 ^ k
  | 0, _, d, h => nomatch h
  | n + 1, x, d, h => by
    rcases List.mem_cons.mp h with rfl | h
    · exact ⟨Int.emod_nonneg _ (Int.ne_of_gt (pow_pos' k)), Int.emod_lt_of_pos _ (pow_pos' k)⟩
    · exact digs_mem k n _ d h

theorem undig_append (k : Nat) : ∀ (l r : List Int), undig k (l ++ r) = undig k l + 2 ^ (k * l.length) * undig k r
  | [], r => by simp [undig]
  | d :: l, r => by
    rw [List.cons_append, undig, undig, undig_append k l r, List.length_cons, show k * (l.length + 1) = k + k * l.length by rw [Nat.mul_succ, Nat.add_comm], Int.pow_add, Int.mul_add, Int.add_assoc, Int.mul_assoc]

theorem and_shl (n s : Nat) : n &&& (n / 2 ^ s * 2 ^ s) = n / 2 ^ s * 2 ^ s := by
  rw [← Nat.shiftRight_eq_div_pow, ← Nat.shiftLeft_eq]
  apply Nat.eq_of_testBit_eq
  intro i
  rw [Nat.testBit_and, Nat.testBit_shiftLeft, Nat.testBit_shiftRight]
  by_cases h : s ≤ i
  · rw [show s + (i - s) = i by omega]; simp [h]
  · simp [h]

theorem xor_shl {x : Int} (hx : 0 ≤ x) (s : Nat) : Builtin.bitXor x (x.fdiv (2 ^ s) * 2 ^ s) = x % 2 ^ s := by
  rw [Int.fdiv_eq_ediv_of_nonneg _ (Int.le_of_lt (pow_pos' s))]
  obtain ⟨n, rfl⟩ := Int.eq_ofNat_of_zero_le hx
  have e : ((n : Int) / 2 ^ s * 2 ^ s) = ((n / 2 ^ s * 2 ^ s : Nat) : Int) := by simp
  rw [bitXor_and, e, bitAnd_pp (Int.natCast_nonneg _) (Int.natCast_nonneg _), Int.toNat_natCast, Int.toNat_natCast, and_shl]
  have e2 : ((n % 2 ^ s : Nat) : Int) = (n : Int) % 2 ^ s := by simp
  have h := Nat.div_add_mod' n (2 ^ s)
  rw [← e2]
  omega

/-- a stretch of the list, rewritten -/
def put (k : Nat) (ns : List Int) (lo hi : Nat) (x : Int) : List Int := ns.take lo ++ (digs k (hi - lo) x ++ ns.drop hi)

theorem put_length {k : Nat} {ns : List Int} {lo hi : Nat} {x : Int} (h1 : lo ≤ hi) (h2 : hi ≤ ns.length) : (put k ns lo hi x).length = ns.length := by
  simp only [put, List.length_append, List.length_take, List.length_drop, digs_length]; omega

theorem put_one {k : Nat} {ns : List Int} {lo : Nat} {x : Int} (h : lo < ns.length) (hx : x % 2 ^ k = x) : put k ns lo (lo + 1) x = ns.set lo x := by
  rw [put, show lo + 1 - lo = 1 by omega, digs, digs, hx, List.set_eq_take_append_cons_drop, if_pos h]
  rfl

theorem put_two {k : Nat} {ns : List Int} {lo mid hi : Nat} {x y z : Int} (h1 : lo ≤ mid) (h2 : mid ≤ hi) (h3 : hi ≤ ns.length) (hy : y = x % 2 ^ (k * (mid - lo))) (hz : z = x / 2 ^ (k * (mid - lo))) :
    put k (put k ns lo mid y) mid hi z = put k ns lo hi x := by
  have e : hi - lo = (mid - lo) + (hi - mid) := by omega
  have hd := digs_add k (mid - lo) (hi - mid) x
  rw [← hy, ← hz] at hd
  have hA : (ns.take lo ++ digs k (mid - lo) y).length = mid := by
    rw [List.length_append, List.length_take, digs_length]; omega
  have e1 : put k ns lo mid y = (ns.take lo ++ digs k (mid - lo) y) ++ ns.drop mid := by rw [put, List.append_assoc]
  rw [put, e1, List.take_left' hA, List.drop_append, hA, List.drop_eq_nil_of_le (by omega : (ns.take lo ++ digs k (mid - lo) y).length ≤ hi), List.nil_append, List.drop_drop, show mid + (hi - mid) = hi by omega]
  rw [put, e, hd]
  simp only [List.append_assoc]

theorem bits_le {y : Int} {b : Nat} (h0 : 0 ≤ y) (h : y < 2 ^ b) : Builtin.Int.intBits y ≤ b := by
  unfold Builtin.Int.intBits
  by_cases hy : (y == 0) = true
  · rw [if_pos hy]; exact Nat.zero_le _
  · rw [if_neg hy]
    have hy' : y ≠ 0 := fun e => hy (by rw [e]; rfl)
    obtain ⟨n, rfl⟩ := Int.eq_ofNat_of_zero_le h0
    have hn : n ≠ 0 := fun e => hy' (by rw [e]; rfl)
    have h' : n < 2 ^ b := by
      have e : ((2 ^ b : Nat) : Int) = 2 ^ b := by simp
      rw [← e] at h; exact Int.ofNat_lt.mp h
    rw [Int.natAbs_natCast]
    exact (Nat.log2_lt hn).mpr h'
theorem lt_bits {y : Int} (h0 : 0 ≤ y) : y < 2 ^ Builtin.Int.intBits y := by
  have h := natAbs_lt_pow_bits y
  have e : ((2 ^ Builtin.Int.intBits y : Nat) : Int) = 2 ^ Builtin.Int.intBits y := by simp
  rw [← e]; omega
theorem pow_mono {a b : Nat} (h : a ≤ b) : (2 : Int) ^ a ≤ 2 ^ b := by
  have e : ∀ n : Nat, ((2 ^ n : Nat) : Int) = 2 ^ n := fun n => by simp
  rw [← e, ← e]; exact Int.ofNat_le.mpr (Nat.pow_le_pow_right (by decide) h)

theorem flat_rep : ∀ n : Nat, (List.replicate n [(0 : Int)]).flatten.length = n
  | 0 => rfl
  | n + 1 => by rw [List.replicate_succ, List.flatten_cons, List.length_append, flat_rep n]; simp [Nat.add_comm]
theorem cdiv_facts {b k : Int} (hb : 0 ≤ b) (hk : 0 < k) : 0 ≤ (b + k - 1).fdiv k ∧ (b + k - 1).fdiv k ≤ b ∧ b ≤ k * (b + k - 1).fdiv k ∧ (b + k - 1).fdiv k = (b + k - 1) / k ∧ (0 < b → 0 < (b + k - 1).fdiv k) := by
  rw [Int.fdiv_eq_ediv_of_nonneg _ (Int.le_of_lt hk)]
  have h1 := Int.mul_ediv_add_emod (b + k - 1) k
  have h2 := Int.emod_lt_of_pos (b + k - 1) hk
  have h3 := Int.emod_nonneg (b + k - 1) (Int.ne_of_gt hk)
  have h0 : 0 ≤ (b + k - 1) / k := Int.ediv_nonneg (by omega) (by omega)
  have h4 : b ≤ k * ((b + k - 1) / k) := by omega
  refine ⟨h0, ?_, h4, rfl, fun hb0 => ?_⟩
  · by_cases hz : b = 0
    · subst hz
      rw [Int.ediv_eq_zero_of_lt (by omega) (by omega)]; exact Int.le_refl _
    · refine Int.ediv_le_of_le_mul hk ?_
      have : (1 : Int) * k ≤ b * k := Int.mul_le_mul_of_nonneg_right (by omega) (by omega)
      have h6 : (b - 1) * (k - 1) ≥ 0 := Int.mul_nonneg (by omega) (by omega)
      rw [Int.sub_mul, Int.mul_sub] at h6
      omega
  · rcases Int.lt_or_le 0 ((b + k - 1) / k) with h | h
    · exact h
    · have : (b + k - 1) / k = 0 := by omega
      rw [this] at h4; omega
theorem put_all {k : Nat} {ns : List Int} {x : Int} {q : Nat} (h : ns.length = q) : put k ns 0 q x = digs k q x := by
  rw [put, List.take_zero, List.nil_append, List.drop_eq_nil_of_le (by omega), List.append_nil, Nat.sub_zero]
theorem bits_zero : Builtin.Int.intBits 0 = 0 := rfl
theorem bits_pos {x : Int} (h : x ≠ 0) : 0 < Builtin.Int.intBits x := by
  unfold Builtin.Int.intBits
  rw [if_neg (by simpa using h)]; omega

def sl (ns : List Int) (lo hi : Nat) : List Int := (ns.drop lo).take (hi - lo)
theorem sl_length {ns : List Int} {lo hi : Nat} (h2 : hi ≤ ns.length) : (sl ns lo hi).length = hi - lo := by
  rw [sl, List.length_take, List.length_drop]; omega
theorem sl_split {ns : List Int} {lo mid hi : Nat} (h1 : lo ≤ mid) (h2 : mid ≤ hi) : sl ns lo hi = sl ns lo mid ++ sl ns mid hi := by
  unfold sl
  rw [show hi - lo = (mid - lo) + (hi - mid) by omega, List.take_add, List.drop_drop, show lo + (mid - lo) = mid by omega]
theorem sl_one {ns : List Int} {lo : Nat} (h : lo < ns.length) : sl ns lo (lo + 1) = [ns.getD lo 0] := by
  unfold sl
  rw [show lo + 1 - lo = 1 by omega, List.drop_eq_getElem_cons h, List.getD_eq_getElem?_getD, List.getElem?_eq_getElem h]
  rfl
theorem sl_all {ns : List Int} : sl ns 0 ns.length = ns := by
  unfold sl; rw [List.drop_zero, Nat.sub_zero, List.take_length]
theorem sl_mem {ns : List Int} {lo hi : Nat} {d : Int} (h : d ∈ sl ns lo hi) : d ∈ ns := List.mem_of_mem_drop (List.mem_of_mem_take h)
theorem undig_slice {k : Nat} {ns : List Int} {lo mid hi : Nat} (h1 : lo ≤ mid) (h2 : mid ≤ hi) (h3 : hi ≤ ns.length) : undig k (sl ns lo hi) = undig k (sl ns lo mid) + 2 ^ (k * (mid - lo)) * undig k (sl ns mid hi) := by
  rw [sl_split h1 h2, undig_append, sl_length (by omega)]
theorem undig_bounds {k : Nat} : ∀ {l : List Int}, (∀ d ∈ l, 0 ≤ d ∧ d < 2 ^ k) → 0 ≤ undig k l ∧ undig k l < 2 ^ (k * l.length)
  | [], _ => by simp [undig]
  | d :: l, h => by
    obtain ⟨a, b⟩ := undig_bounds (k := k) (l := l) fun x hx => h x (List.mem_cons_of_mem _ hx)
    obtain ⟨c, e⟩ := h d List.mem_cons_self
    have hp := pow_pos' k
    rw [undig, List.length_cons, Nat.mul_succ, Nat.add_comm, Int.pow_add]
    have h1 : 0 ≤ 2 ^ k * undig k l := Int.mul_nonneg (by omega) a
    refine ⟨by omega, ?_⟩
    have h2 : (2 : Int) ^ k * (undig k l + 1) ≤ 2 ^ k * 2 ^ (k * l.length) := Int.mul_le_mul_of_nonneg_left (by omega) (by omega)
    rw [Int.mul_add, Int.mul_one] at h2
    omega
theorem undig_digs_eq {k n : Nat} {x : Int} (h0 : 0 ≤ x) (h : x < 2 ^ (k * n)) : undig k (digs k n x) = x := by
  rw [undig_digs, Int.emod_eq_of_lt h0 h]

/-- one digit of the long division -/
theorem dm_step {k : Nat} {X d y : Int} (hX : 0 ≤ X) (hy : 0 < y) (hd : 0 ≤ d) (hdk : d < 2 ^ k) :
    (X * 2 ^ k + d) / y = ((X % y) * 2 ^ k + d) / y + 2 ^ k * (X / y) ∧ (X * 2 ^ k + d) % y = ((X % y) * 2 ^ k + d) % y ∧ 0 ≤ ((X % y) * 2 ^ k + d) / y ∧ ((X % y) * 2 ^ k + d) / y < 2 ^ k := by
  have hp := pow_pos' k
  have h1 := Int.mul_ediv_add_emod X y
  have h2 := Int.emod_nonneg X (Int.ne_of_gt hy)
  have h3 := Int.emod_lt_of_pos X hy
  have e : X * 2 ^ k + d = ((X % y) * 2 ^ k + d) + y * (2 ^ k * (X / y)) := by
    have : X * 2 ^ k = (y * (X / y) + X % y) * 2 ^ k := by rw [h1]
    rw [this, Int.add_mul, Int.mul_assoc, Int.mul_comm (X / y) (2 ^ k)]; omega
  have h4 : 0 ≤ (X % y) * 2 ^ k + d := Int.add_nonneg (Int.mul_nonneg h2 (by omega)) hd
  refine ⟨?_, ?_, Int.ediv_nonneg h4 (by omega), Int.ediv_lt_of_lt_mul hy ?_⟩
  · rw [e, Int.add_mul_ediv_left _ _ (by omega)]
  · rw [e, Int.add_mul_emod_self_left]
  · have h5 : (X % y + 1) * 2 ^ k ≤ y * 2 ^ k := Int.mul_le_mul_of_nonneg_right (by omega) (by omega)
    rw [Int.add_mul, Int.one_mul] at h5
    rw [Int.mul_comm (2 ^ k) y]
    omega
theorem digs_get {k : Nat} : ∀ {n : Nat} {x : Int} {i : Nat}, i < n → (digs k n x)[i]? = some (x / 2 ^ (k * i) % 2 ^ k)
  | n + 1, x, 0, _ => by simp [digs]
  | n + 1, x, i + 1, h => by
    rw [digs, List.getElem?_cons_succ, digs_get (by omega), ← ediv_pow_add, show k * (i + 1) = k + k * i by rw [Nat.mul_succ, Nat.add_comm]]
/-- the digits above place j, and the next -/
theorem top_step (x : Int) (k j : Nat) : x / 2 ^ (k * j) = x / 2 ^ (k * (j + 1)) * 2 ^ k + x / 2 ^ (k * j) % 2 ^ k := by
  rw [show k * (j + 1) = k * j + k by rw [Nat.mul_succ], ediv_pow_add, Int.mul_comm]
  exact (Int.mul_ediv_add_emod _ _).symm
end Mine

/-! part I1 -/

namespace Mine

def nestIn (K : Frag) (f : Addr) (i : Nat) : Option (Arguments × List Stmt × Scope) := match K.lookup f with
  | some o => (match o.data with
    | .func fd => (match fd.body with
      | .stmts b => (match b[i]? with
        | some (.FunctionDef _ params body _ _ _ scope _ _ _) => some (params, body, scope)
        | _ => none)
      | _ => none)
    | _ => none)
  | none => none

theorem ieq_t {x y : Int} {p q : Prop} (e : x = y) (h : p) : if (x == y) = true then p else q := by rw [if_pos (by simp [e])]; exact h
theorem ieq_f {x y : Int} {p q : Prop} (e : x ≠ y) (h : q) : if (x == y) = true then p else q := by rw [if_neg (by simp [e])]; exact h
theorem ine_t {x y : Int} {p q : Prop} (e : x ≠ y) (h : p) : if (x != y) = true then p else q := by rw [if_pos (by simp [e])]; exact h
theorem ine_f {x y : Int} {p q : Prop} (e : x = y) (h : q) : if (x != y) = true then p else q := by rw [if_neg (by simp [e])]; exact h
theorem dec_t {c : Prop} [Decidable c] {p q : Prop} (e : c) (h : p) : if decide c = true then p else q := by rw [if_pos (by simp [e])]; exact h
theorem dec_f {c : Prop} [Decidable c] {p q : Prop} (e : ¬ c) (h : q) : if decide c = true then p else q := by rw [if_neg (by simp [e])]; exact h

theorem mem_tl {α : Type} {a b : α} {l : List α} (h : a ∈ l) : a ∈ b :: l := List.Mem.tail _ h

/-- the inner of _int2digits lies in the ledger, its cells full -/
def I1Env (P : Params) (rest : List (Addr × Obj)) (D f : Addr) (k : Int) : Prop :=
  ∃ qual params body scope cA cN cI c' oA oN oI oc vs t doc pm ctv tk, nestIn (hd.heap_39 P) 42 1 = some (params, body, scope) ∧
    (cA, oA) ∈ rest ∧ oA.data = .cell (some (.ref D)) ∧ (cN, oN) ∈ rest ∧ oN.data = .cell (some (.int k tk)) ∧ (cI, oI) ∈ rest ∧ oI.data = .cell (some (.ref f)) ∧
    (f, fnMade (Str.ofString "inner") qual params body scope [(Str.ofString "n", cN), (Str.ofString "inner", cI), (Str.ofString "a_digits", cA)] doc pm c' ctv) ∈ rest ∧
    (c', oc) ∈ rest ∧ oc.data = .fields vs ∧ vs[1]? = some (.str qual t) ∧ ∀ p ∈ rest, p.1 ≠ D

theorem i1env_mk {P : Params} {rest : List (Addr × Obj)} {D f : Addr} {k : Int} {qual : Str} {params : Arguments} {body : List Stmt} {scope : Scope} {cA cN cI c' : Addr} {oA oN oI oc : Obj} {vs : Array Value} {t : Tok} {doc pm ctv : Value} {tk : Tok}
    (mf : (f, fnMade (Str.ofString "inner") qual params body scope [(Str.ofString "n", cN), (Str.ofString "inner", cI), (Str.ofString "a_digits", cA)] doc pm c' ctv) ∈ rest)
    (h0 : nestIn (hd.heap_39 P) 42 1 = some (params, body, scope))
    (mA : (cA, oA) ∈ rest) (dA : oA.data = .cell (some (.ref D))) (mN : (cN, oN) ∈ rest) (dN : oN.data = .cell (some (.int k tk))) (mI : (cI, oI) ∈ rest) (dI : oI.data = .cell (some (.ref f)))
    (mc : (c', oc) ∈ rest) (dc : oc.data = .fields vs) (dc1 : vs[1]? = some (.str qual t)) (ne : ∀ p ∈ rest, p.1 ≠ D) : I1Env P rest D f k :=
  ⟨qual, params, body, scope, cA, cN, cI, c', oA, oN, oI, oc, vs, t, doc, pm, ctv, tk, h0, mA, dA, mN, dN, mI, dI, mf, mc, dc, dc1, ne⟩

theorem i1_mid {lo hi : Int} (h2 : lo < hi) (hn : lo + 1 ≠ hi) : lo < (lo + hi).fdiv (2 ^ Int.toNat 1) ∧ (lo + hi).fdiv (2 ^ Int.toNat 1) < hi := by
  rw [show (2 : Int) ^ Int.toNat 1 = 2 from rfl, Int.fdiv_eq_ediv_of_nonneg _ (by decide)]; omega

theorem i1_shift {lo mid hi k : Int} (h : lo < mid) (h' : mid < hi) (h1 : hi - lo ≤ 200) (hk0 : 0 < k) (hk2 : k ≤ 14) : 0 ≤ (mid - lo) * k ∧ (mid - lo) * k ≤ 2800 :=
  ⟨Int.mul_nonneg (by omega) (by omega), Int.le_trans (Int.mul_le_mul (by omega : mid - lo ≤ 200) hk2 (by omega) (by decide)) (by decide)⟩

def TI1 (w : World) (p : Program) (loose : List Str) (mean : ExcName → Option Value) (mg mb : Str → Option Value) (rest : List (Addr × Obj)) (D f : Addr) (k : Int) (n : Nat) : Prop :=
  ∀ (dp un : Nat) (gd : Option (List Code)) (cn : Str) (cs : Scope) (a : Addr) (ccd : Value) (cl : List (Str × Addr)) (outer : List Env) (A₀ : Around) (base h₀ : Heap) (L : Addr) (m : Str → Option Value) (s : Shared) (Q E : Value → Shared → Prop)
    (x lo hi : Int) (tx tl th : Tok) (its : List Value) (ns : List Int),
    Below A₀ base outer h₀ → Fr h₀ L s.heap m → (hd.heap_39 w.params).In h₀ → News h₀ L s.heap ((D, listOf its.toArray 0) :: rest) → Top p loose mean mg mb h₀ → cs.kind = .function →
    IntsAre its ns → dp + n + 5 < recursionLimit → 0 ≤ x → 0 ≤ lo → lo < hi → hi ≤ ns.length → ns.length ≤ 200 → hi - lo ≤ n → x < 2 ^ (k.toNat * (hi - lo).toNat) →
    (∀ h' tk' its', Fr h₀ L h' m → News h₀ L h' ((D, listOf its'.toArray 0) :: rest) → IntsAre its' (put k.toNat ns lo.toNat hi.toNat x) → Q .none { s with heap := h', toks := tk' }) →
    wpAny (model PySem.Challenge.rw_zr0004_01.row.prog w) (ktrTop dp un gd cn cs L a ccd cl outer) (call (.ref f) [.int x tx, .int lo tl, .int hi th]) Q E s

local macro_rules | `(tactic| k_mem) => `(tactic| first | (with_reducible assumption) | exact List.Mem.head _ | (refine' mem_tl ?_; k_mem))
local macro_rules | `(tactic| k_all) => `(tactic| assumption)

section
variable {w : World} {p : Program} {loose : List Str} {mean : ExcName → Option Value} {mg mb : Str → Option Value} {rest : List (Addr × Obj)} {D f : Addr} {k : Int}

theorem ti1_use {n : Nat} {dp un : Nat} {gd : Option (List Code)} {cn : Str} {cs : Scope} {a : Addr} {ccd : Value} {cl : List (Str × Addr)} {outer : List Env} {A₀ : Around} {base h₀ : Heap} {L : Addr} {m : Str → Option Value} {s : Shared} {Q E : Value → Shared → Prop}
    {x lo hi : Int} {tx tl th : Tok} {its : List Value} {ns : List Int} (C : TI1 w p loose mean mg mb rest D f k n)
    (B : Below A₀ base outer h₀) (F : Fr h₀ L s.heap m) (X : (hd.heap_39 w.params).In h₀) (N : News h₀ L s.heap ((D, listOf its.toArray 0) :: rest)) (T : Top p loose mean mg mb h₀) (hk : cs.kind = .function)
    (hI : IntsAre its ns) (hdp : dp + n + 5 < recursionLimit) (hx : 0 ≤ x) (h1 : 0 ≤ lo) (h2 : lo < hi) (h3 : hi ≤ ns.length) (h4 : ns.length ≤ 200) (h5 : hi - lo ≤ n) (hxb : x < 2 ^ (k.toNat * (hi - lo).toNat))
    (ret : ∀ h' tk' its', Fr h₀ L h' m → News h₀ L h' ((D, listOf its'.toArray 0) :: rest) → IntsAre its' (put k.toNat ns lo.toNat hi.toNat x) → (put k.toNat ns lo.toNat hi.toNat x).length = ns.length → Q .none { s with heap := h', toks := tk' }) :
    wpAny (model PySem.Challenge.rw_zr0004_01.row.prog w) (ktrTop dp un gd cn cs L a ccd cl outer) (call (.ref f) [.int x tx, .int lo tl, .int hi th]) Q E s :=
  C _ _ _ _ _ _ _ _ _ _ _ _ _ _ _ _ _ _ _ _ _ _ _ _ _ B F X N T hk hI hdp hx h1 h2 h3 h4 h5 hxb fun h' tk' its' F' N' I' => ret h' tk' its' F' N' I' (put_length (by omega) (by omega))

local macro_rules | `(tactic| walk_at "call ref") => `(tactic| (k_here; k_dflt (refine' ti1_use ?C ?B ?F ?X ?N ?T ?hk ?hI ?hdp ?hx ?h1 ?h2 ?h3 ?h4 ?h5 ?hxb ?_; (case C => assumption); (case B => k_asm); (case F => k_asm); (case X => k_asm); (case N => k_asm); (case T => k_asm); (case hk => exact rfl); (case hI => with_reducible assumption); (case hdp => ktr_room); (case hx => assumption); (case h1 => omega); (case h2 => assumption); (case h3 => omega); (case h4 => omega); (case h5 => omega); (case hxb => assumption); k_whole); intro h9 tk9 its9 F9 N9 I9 l9; (try dsimp only); (try k_fold)))
local macro_rules | `(tactic| walk_at "ite") => `(tactic| (k_here; first | (with_reducible refine ieq_t ?_ ?_; first | with_reducible assumption | omega) | (with_reducible refine ieq_f ?_ ?_; first | with_reducible assumption | omega)))
local macro_rules | `(tactic| walk_at "binaryOp LShift int int") => `(tactic| (k_here; (with_reducible refine lshift_int ?kbn ?kbs ?_); (case kbn => with_reducible assumption); (case kbs => with_reducible assumption)))
local macro_rules | `(tactic| walk_at "binaryOp RShift int int") => `(tactic| (k_here; (with_reducible refine rshift_int ?kbn ?_); (case kbn => with_reducible assumption)))

theorem i1_facts {lo mid hi k x : Int} (h0 : 0 ≤ lo) (h : lo < mid) (h' : mid < hi) (h1 : hi - lo ≤ 200) (hk0 : 0 < k) (hk2 : k ≤ 14) (hx : 0 ≤ x) (hxb : x < 2 ^ (k.toNat * (hi - lo).toNat)) :
    0 ≤ (mid - lo) * k ∧ (Builtin.Int.intBits (x.fdiv (2 ^ ((mid - lo) * k).toNat)) : Int) + (mid - lo) * k ≤ 2 ^ 27 ∧
    0 ≤ Builtin.bitXor x (x.fdiv (2 ^ ((mid - lo) * k).toNat) * 2 ^ ((mid - lo) * k).toNat) ∧ Builtin.bitXor x (x.fdiv (2 ^ ((mid - lo) * k).toNat) * 2 ^ ((mid - lo) * k).toNat) < 2 ^ (k.toNat * (mid - lo).toNat) ∧
    0 ≤ x.fdiv (2 ^ ((mid - lo) * k).toNat) ∧ x.fdiv (2 ^ ((mid - lo) * k).toNat) < 2 ^ (k.toNat * (hi - mid).toNat) ∧
    Builtin.bitXor x (x.fdiv (2 ^ ((mid - lo) * k).toNat) * 2 ^ ((mid - lo) * k).toNat) = x % 2 ^ (k.toNat * (mid.toNat - lo.toNat)) ∧
    x.fdiv (2 ^ ((mid - lo) * k).toNat) = x / 2 ^ (k.toNat * (mid.toNat - lo.toNat)) := by
  obtain ⟨s0, s1⟩ := i1_shift (k := k) h h' h1 hk0 hk2
  have e1 : ((mid - lo) * k).toNat = k.toNat * (mid - lo).toNat := by rw [Int.toNat_mul (by omega) (by omega), Nat.mul_comm]
  have e2 : mid.toNat - lo.toNat = (mid - lo).toNat := by omega
  have e3 : (hi - lo).toNat = (mid - lo).toNat + (hi - mid).toNat := by omega
  have hp := pow_pos' (k.toNat * (mid - lo).toNat)
  have hf : x.fdiv (2 ^ (k.toNat * (mid - lo).toNat)) = x / 2 ^ (k.toNat * (mid - lo).toNat) := Int.fdiv_eq_ediv_of_nonneg _ (Int.le_of_lt hp)
  have q0 : 0 ≤ x / 2 ^ (k.toNat * (mid - lo).toNat) := Int.ediv_nonneg hx (Int.le_of_lt hp)
  have q1 : x / 2 ^ (k.toNat * (mid - lo).toNat) < 2 ^ (k.toNat * (hi - mid).toNat) := by
    refine Int.ediv_lt_of_lt_mul hp ?_
    rw [← Int.pow_add, Nat.add_comm, ← Nat.mul_add, ← e3]
    exact hxb
  have hb : Builtin.Int.intBits (x / 2 ^ (k.toNat * (mid - lo).toNat)) ≤ 2800 := by
    refine Nat.le_trans (bits_le q0 q1) ?_
    exact Nat.le_trans (Nat.mul_le_mul (show k.toNat ≤ 14 by omega) (show (hi - mid).toNat ≤ 200 by omega)) (by decide)
  rw [e1, e2, xor_shl hx, hf]
  exact ⟨s0, by omega, Int.emod_nonneg _ (Int.ne_of_gt hp), Int.emod_lt_of_pos _ hp, q0, q1, rfl, rfl⟩

theorem inner1_step (hk0 : 0 < k) (hk2 : k ≤ 14) (hE : I1Env w.params rest D f k) (n : Nat) (IH : ∀ n', n' < n → TI1 w p loose mean mg mb rest D f k n') : TI1 w p loose mean mg mb rest D f k n := by
  obtain ⟨qual, params, body, scope, cA, cN, cI, c', oA, oN, oI, oc, vs, t, doc, pm, ctv, tk, hfd, mA, dA, mN, dN, mI, dI, mf, mc, dc, dc1, hne⟩ := hE
  intro dp un gd cn cs a ccd cl outer A₀ base h₀ L m s Q E x lo hi tx tl th its ns B F X N T hk hI hd1 hx h1 h2 h3 h4 h5 hxb ret
  cases hfd
  revert X; k_fill; intro X
  have IHn : 0 < n → TI1 w p loose mean mg mb rest D f k (n - 1) := fun h => IH _ (by omega)
  have hnp : 0 < n := by omega
  replace IHn := IHn hnp
  clear IH
  by_cases hcase : lo + 1 = hi
  · refine wpAny_call ?_
    k_dflt (refine' code_nest ?k1 ?k2 ?k3 ?k4 ?k5 ?kA ?kF ?kK ?k6 ?k7 ?k8 ?k9 ?kB ?_ ?c2 ?c3 ?c4 ?c5; (case kA => exact rfl); (case kF => exact rfl); (case kK => exact hk); (case k1 => k_asm); (case k2 => k_asm); (case k3 => k_asm); (case k4 => k_asm); (case k5 => k_asm); (case k6 => exact List.Mem.tail _ mf); (case k7 => exact codeRec_news N (List.Mem.tail _ mc) dc dc1); (case k8 => ktr_room); (case k9 => exact BindsTo.of_eq rfl); (case c5 => decide); (case kB => exact locs rfl); (case c2 => exact rfl); (case c3 => exact rfl); (case c4 => exact rfl); k_whole)
    intro g' L' h' FG' F' N' B' X' T'
    (try dsimp only); (try k_fold)
    have CH := codeHd41 X'
    k_steps
    have e : put k.toNat ns lo.toNat hi.toNat x = ns.set lo.toNat x := by
      rw [show hi.toNat = lo.toNat + 1 by omega]
      refine put_one (by omega) (Int.emod_eq_of_lt hx ?_)
      rw [show (hi - lo).toNat = 1 by omega, Nat.mul_one] at hxb
      exact hxb
    exact ret _ _ _ (by k_asm) (by k_asm) (by rw [e]; assumption)
  · obtain ⟨hm1, hm2⟩ := i1_mid h2 hcase
    obtain ⟨f1, f2, f3, f4, f5, f6, f7, f8⟩ := i1_facts (k := k) h1 hm1 hm2 (by omega) hk0 hk2 hx hxb
    have f9 : (0 : Int) ≤ 1 := by decide
    refine wpAny_call ?_
    k_dflt (refine' code_nest ?k1 ?k2 ?k3 ?k4 ?k5 ?kA ?kF ?kK ?k6 ?k7 ?k8 ?k9 ?kB ?_ ?c2 ?c3 ?c4 ?c5; (case kA => exact rfl); (case kF => exact rfl); (case kK => exact hk); (case k1 => k_asm); (case k2 => k_asm); (case k3 => k_asm); (case k4 => k_asm); (case k5 => k_asm); (case k6 => exact List.Mem.tail _ mf); (case k7 => exact codeRec_news N (List.Mem.tail _ mc) dc dc1); (case k8 => ktr_room); (case k9 => exact BindsTo.of_eq rfl); (case c5 => decide); (case kB => exact locs rfl); (case c2 => exact rfl); (case c3 => exact rfl); (case c4 => exact rfl); k_whole)
    intro g' L' h' FG' F' N' B' X' T'
    (try dsimp only); (try k_fold)
    have CH := codeHd41 X'
    k_steps
    have e := put_two (k := k.toNat) (ns := ns) (lo := lo.toNat) (mid := ((lo + hi).fdiv (2 ^ Int.toNat 1)).toNat) (hi := hi.toNat) (by omega) (by omega) (by omega) f7 f8
    exact ret _ _ _ (by k_asm) (by k_asm) (by rw [← e]; assumption)

theorem inner1 (hk0 : 0 < k) (hk2 : k ≤ 14) (hE : I1Env w.params rest D f k) (n : Nat) : TI1 w p loose mean mg mb rest D f k n := by
  induction n using Nat.strongRecOn with
  | ind n ih => exact inner1_step hk0 hk2 hE n ih
end
end Mine

/-! part D2 -/

namespace Mine
theorem news_swap {h₀ h : Heap} {L : Addr} {a b : Addr × Obj} {l : List (Addr × Obj)} (N : News h₀ L h (a :: b :: l)) : News h₀ L h (b :: a :: l) := fun p hp => N p (by
  rcases List.mem_cons.mp hp with rfl | hp
  · exact .tail _ (.head _)
  · rcases List.mem_cons.mp hp with rfl | hp
    · exact .head _
    · exact .tail _ (.tail _ hp))

local macro_rules | `(tactic| k_all) => `(tactic| (refine' tb_ne ?tN ?tm ?ts ?tK ?tn; (case tK => with_reducible assumption); (case tN => with_reducible assumption); (case tm => k_mem); (case ts => (intro p hp; repeat' (first | exact hp | refine List.Mem.tail _ ?_))); (case tn => first | exact notTab_cell (by assumption) | exact (notTab_lit rfl))))
local macro_rules | `(tactic| walk_at "call ref") => `(tactic| (k_here; k_dflt (refine' ti1_use (inner1 ?hk0 ?hk2 ?hE 200) ?B ?F ?X ?N ?T ?hk ?hI ?hdp ?hx ?h1 ?h2 ?h3 ?h4 ?h5 ?hxb ?ret9; (case hk0 => assumption); (case hk2 => assumption); (case B => k_asm); (case F => k_asm); (case X => k_asm); (case N => k_asm); (case T => k_asm); (case hk => exact rfl); (case hI => with_reducible assumption); (case hdp => ktr_room); (case hx => assumption)); (case' ret9 => (intro h9 tk9 its9 F9 N9 I9 l9; (try dsimp only); (try k_fold)))))
theorem news_hd {h₀ h : Heap} {L : Addr} {a : Addr × Obj} {l l' : List (Addr × Obj)} (N : News h₀ L h (a :: l)) (k : ∀ p ∈ l', p ∈ l) : News h₀ L h (a :: l') := fun p hp => N p ((List.mem_cons.mp hp).elim (fun e => e ▸ .head _) fun h => .tail _ (k p h))
theorem news_sub {h₀ h : Heap} {L : Addr} {l l' : List (Addr × Obj)} (N : News h₀ L h l) (k : ∀ p ∈ l', p ∈ l) : News h₀ L h l' := fun p hp => N p (k p hp)
section
variable {w : World} {p : Program} {loose : List Str} {mean : ExcName → Option Value} {mg mb : Str → Option Value} {dp un : Nat} {gd : Option (List Code)} {cn : Str} {cs : Scope} {a : Addr} {ccd : Value} {cl : List (Str × Addr)} {outer : List Env} {A₀ : Around} {base h₀ : Heap} {L : Addr} {m : Str → Option Value} {led nw tb : List (Addr × Obj)} {s : Shared} {Q E : Value → Shared → Prop}

theorem spec_int2digits {x k : Int} {tx tk : Tok}
    (B : Below A₀ base outer h₀) (F : Fr h₀ L s.heap m) (X : (hd.heap_39 w.params).In h₀) (N : News h₀ L s.heap led) (hl : Led tb led nw) (hK : TabsIn tb) (T : Top p loose mean mg mb h₀) (hk : cs.kind = .function)
    (hd1 : dp + 220 < recursionLimit) (hx : 0 ≤ x) (hb : (Builtin.Int.intBits x : Int) ≤ 190) (hk0 : 0 < k) (hk2 : k ≤ 14)
    (ret : ∀ (h' : Heap) (tk' : Nat) (lst : Addr) (its : List Value) (tb' : List (Addr × Obj)), Fr h₀ L h' m → News h₀ L h' ((lst, listOf its.toArray 0) :: (nw ++ tb')) → TabsIn tb' → Stp tb tb' s.heap h' →
      IntsAre its (digs k.toNat (((Builtin.Int.intBits x : Int) + k - 1) / k).toNat x) → Q (.ref lst) { s with heap := h', toks := tk' }) :
    wpAny (model PySem.Challenge.rw_zr0004_01.row.prog w) (ktrTop dp un gd cn cs L a ccd cl outer) (call (.ref 42) [.int x tx, .int k tk]) Q E s := by
  revert X; k_fill; intro X
  refine wpAny_call ?_
  k_dflt (refine' enterKC (tb := tb) ?k1 ?k2 ?k3 ?k4 ?kL ?kT ?k5 ?kA ?kF ?kK ?k6 ?k7 ?k8 ?k9 ?kB ?kD ?_ ?c2 ?c3 ?c4; (case kA => exact rfl); (case kF => exact rfl); (case kK => assumption); (case k1 => k_asm); (case k2 => k_asm); (case k3 => k_asm); (case k4 => k_asm); (case kL => k_asm); (case kT => k_asm); (case k5 => k_asm); (case k6 => k_is); (case k7 => k_is); (case k8 => ktr_room); (case k9 => exact BindsTo.of_eq rfl); (case kB => exact rfl); (case kD => decide +kernel); (case c2 => exact rfl); (case c3 => exact rfl); (case c4 => exact rfl); k_whole)
  intro g' L' h' tk' cells' hkp FG' F' N' Y' B' X' T' hlt
  k_cells Y'
  (try simp only [List.cons_append, List.nil_append] at N')
  (try dsimp only); (try k_fold)
  obtain ⟨hq0, hq1, hq2, hq3, hq4⟩ := cdiv_facts (b := (Builtin.Int.intBits x : Int)) (by omega) hk0
  have hfl := flat_rep (((Builtin.Int.intBits x : Int) + k - 1).fdiv k).toNat
  have hxq : x < 2 ^ (k.toNat * (((Builtin.Int.intBits x : Int) + k - 1).fdiv k).toNat) := by
    refine Int.lt_of_lt_of_le (lt_bits hx) (pow_mono ?_)
    rw [← Int.toNat_mul (by omega) hq0]
    omega
  k_steps
  k_dflt (refine' nestDef_K ?d0 ?k0 ?a0 ?_; (case d0 => exact rfl); (case k0 => exact rfl); (case a0 => exact rfl))
  k_dflt (refine' nest37 (own := [_, _, _, _, _]) ?F ?N ?K ?hn ?T ?C ?hcd ?hcl ?_; (case F => k_asm); (case N => k_asm); (case K => assumption); (case T => k_asm); (case C => exact codeHd41 X'); (case hcd => exact rfl); (case hcl => exact rfl))
  case hn => 
    repeat' (first | exact List.forall_mem_nil _ | refine List.forall_mem_cons.mpr ⟨?_, ?_⟩ | exact notTab_cell (by assumption) | exact (notTab_lit rfl))
  intro f c' oc vs t ctv doc h' tk tb' F N K' mc dc dc1 l1 l2
  simp only [List.cons_append, List.nil_append] at N
  replace N := news_swap N
  have CH := codeHd41 X'
  k_lt l1
  (try dsimp only); (try k_fold)
  k_steps
  · show EndT _ _ _ _ _ _ _ _ _ _ _
    refine ⟨_, [_], tb', by k_asm, news_hd (by assumption) (fun p hp => by repeat' (first | exact hp | refine mem_tl ?_)), K', fun F2 N2 hs => ret _ _ _ _ _ F2 N2 K' hs ?_⟩
    rw [← hq3]
    have e := put_all (k := k.toNat) (x := x) hfl
    (rename IntsAre _ (put _ _ _ _ _) => I9)
    (rename List.length (List.flatten (List.replicate _ _)) = _ => e1)
    replace e1 := e1.symm.trans hfl
    rw [show Int.toNat 0 = 0 from rfl, e1, Int.toNat_natCast, e] at I9
    exact I9
  · refine' i1env_mk ?gf ?g0 ?gA ?dA ?gN ?dN ?gI ?dI ?gc ?dc ?dc1 ?ne
    case gf => exact List.Mem.head _
    case g0 => rfl
    case gA => k_mem
    case dA => assumption
    case gN => k_mem
    case dN => assumption
    case gI => k_mem
    case dI => assumption
    case gc => repeat' (first | exact mc | refine mem_tl ?_)
    case dc => exact dc
    case dc1 => exact dc1
    case ne =>
      refine List.forall_mem_cons.mpr ⟨by k_ne, ?_⟩
      refine List.forall_mem_cons.mpr ⟨by k_ne, ?_⟩
      refine List.forall_mem_cons.mpr ⟨by k_ne, ?_⟩
      refine List.forall_mem_cons.mpr ⟨by k_ne, ?_⟩
      refine List.forall_mem_cons.mpr ⟨by k_ne, ?_⟩
      refine' tb_ne ?tN ?tm ?ts ?tK ?tn
      case tK => with_reducible assumption
      case tN => with_reducible assumption
      case tm => k_mem
      case ts => (intro p hp; repeat' (first | exact hp | refine List.Mem.tail _ ?_))
      case tn => first | exact notTab_cell (by assumption) | exact (notTab_lit rfl)
  case h2 =>
    (rename List.length (List.flatten (List.replicate _ _)) = _ => e1)
    replace e1 := e1.symm.trans hfl
    have := hq4 (by have := bits_pos (by assumption : x ≠ 0); omega)
    omega
  · (rename List.length (List.flatten (List.replicate _ _)) = _ => e1)
    replace e1 := e1.symm.trans hfl
    rw [e1, Int.sub_zero, Int.toNat_natCast]; exact hxq
  · show EndT _ _ _ _ _ _ _ _ _ _ _
    refine ⟨_, [_], tb', by k_asm, news_hd (by assumption) (fun p hp => by repeat' (first | exact hp | refine mem_tl ?_)), K', fun F2 N2 hs => ret _ _ _ _ _ F2 N2 K' hs ?_⟩
    rw [← hq3]
    have hx0 : x = 0 := by assumption
    subst hx0
    have hz : (((Builtin.Int.intBits 0 : Nat) : Int) + k - 1).fdiv k = 0 := Int.le_antisymm hq1 hq0
    rw [hz]
    exact .nil
end
end Mine

/-! part I2 -/

namespace Mine

/-- the inner of _digits2int lies in the ledger, its cells full -/
def I2Env (P : Params) (rest : List (Addr × Obj)) (D f : Addr) (k : Int) : Prop :=
  ∃ qual params body scope cA cN cI c' oA oN oI oc vs t doc pm ctv tk, nestIn (hd.heap_39 P) 49 0 = some (params, body, scope) ∧
    (cA, oA) ∈ rest ∧ oA.data = .cell (some (.ref D)) ∧ (cN, oN) ∈ rest ∧ oN.data = .cell (some (.int k tk)) ∧ (cI, oI) ∈ rest ∧ oI.data = .cell (some (.ref f)) ∧
    (f, fnMade (Str.ofString "inner") qual params body scope [(Str.ofString "n", cN), (Str.ofString "inner", cI), (Str.ofString "digits", cA)] doc pm c' ctv) ∈ rest ∧
    (c', oc) ∈ rest ∧ oc.data = .fields vs ∧ vs[1]? = some (.str qual t)

theorem i2env_mk {P : Params} {rest : List (Addr × Obj)} {D f : Addr} {k : Int} {qual : Str} {params : Arguments} {body : List Stmt} {scope : Scope} {cA cN cI c' : Addr} {oA oN oI oc : Obj} {vs : Array Value} {t : Tok} {doc pm ctv : Value} {tk : Tok}
    (mf : (f, fnMade (Str.ofString "inner") qual params body scope [(Str.ofString "n", cN), (Str.ofString "inner", cI), (Str.ofString "digits", cA)] doc pm c' ctv) ∈ rest)
    (h0 : nestIn (hd.heap_39 P) 49 0 = some (params, body, scope))
    (mA : (cA, oA) ∈ rest) (dA : oA.data = .cell (some (.ref D))) (mN : (cN, oN) ∈ rest) (dN : oN.data = .cell (some (.int k tk))) (mI : (cI, oI) ∈ rest) (dI : oI.data = .cell (some (.ref f)))
    (mc : (c', oc) ∈ rest) (dc : oc.data = .fields vs) (dc1 : vs[1]? = some (.str qual t)) : I2Env P rest D f k :=
  ⟨qual, params, body, scope, cA, cN, cI, c', oA, oN, oI, oc, vs, t, doc, pm, ctv, tk, h0, mA, dA, mN, dN, mI, dI, mf, mc, dc, dc1⟩

def TI2 (w : World) (p : Program) (loose : List Str) (mean : ExcName → Option Value) (mg mb : Str → Option Value) (rest : List (Addr × Obj)) (D f : Addr) (k : Int) (its : List Value) (ns : List Int) (n : Nat) : Prop :=
  ∀ (dp un : Nat) (gd : Option (List Code)) (cn : Str) (cs : Scope) (a : Addr) (ccd : Value) (cl : List (Str × Addr)) (outer : List Env) (A₀ : Around) (base h₀ : Heap) (L : Addr) (m : Str → Option Value) (s : Shared) (Q E : Value → Shared → Prop)
    (lo hi : Int) (tl th : Tok),
    Below A₀ base outer h₀ → Fr h₀ L s.heap m → (hd.heap_39 w.params).In h₀ → News h₀ L s.heap rest → Top p loose mean mg mb h₀ → cs.kind = .function →
    h₀.IsList D its.toArray → dp + n + 5 < recursionLimit → 0 ≤ lo → lo < hi → hi ≤ ns.length → ns.length ≤ 200 → hi - lo ≤ n →
    (∀ h' tk' t, Fr h₀ L h' m → News h₀ L h' rest → Q (.int (undig k.toNat (sl ns lo.toNat hi.toNat)) t) { s with heap := h', toks := tk' }) →
    wpAny (model PySem.Challenge.rw_zr0004_01.row.prog w) (ktrTop dp un gd cn cs L a ccd cl outer) (call (.ref f) [.int lo tl, .int hi th]) Q E s

section
variable {w : World} {p : Program} {loose : List Str} {mean : ExcName → Option Value} {mg mb : Str → Option Value} {rest : List (Addr × Obj)} {D f : Addr} {k : Int} {its : List Value} {ns : List Int}

theorem ti2_use {n : Nat} {dp un : Nat} {gd : Option (List Code)} {cn : Str} {cs : Scope} {a : Addr} {ccd : Value} {cl : List (Str × Addr)} {outer : List Env} {A₀ : Around} {base h₀ : Heap} {L : Addr} {m : Str → Option Value} {s : Shared} {Q E : Value → Shared → Prop}
    {lo hi : Int} {tl th : Tok} (C : TI2 w p loose mean mg mb rest D f k its ns n)
    (B : Below A₀ base outer h₀) (F : Fr h₀ L s.heap m) (X : (hd.heap_39 w.params).In h₀) (N : News h₀ L s.heap rest) (T : Top p loose mean mg mb h₀) (hk : cs.kind = .function)
    (hL : h₀.IsList D its.toArray) (hdp : dp + n + 5 < recursionLimit) (h1 : 0 ≤ lo) (h2 : lo < hi) (h3 : hi ≤ ns.length) (h4 : ns.length ≤ 200) (h5 : hi - lo ≤ n)
    (ret : ∀ h' tk' t, Fr h₀ L h' m → News h₀ L h' rest → Q (.int (undig k.toNat (sl ns lo.toNat hi.toNat)) t) { s with heap := h', toks := tk' }) :
    wpAny (model PySem.Challenge.rw_zr0004_01.row.prog w) (ktrTop dp un gd cn cs L a ccd cl outer) (call (.ref f) [.int lo tl, .int hi th]) Q E s :=
  C _ _ _ _ _ _ _ _ _ _ _ _ _ _ _ _ _ _ _ _ _ B F X N T hk hL hdp h1 h2 h3 h4 h5 ret

theorem i2_facts {lo mid hi : Int} (hI : ∀ d ∈ ns, 0 ≤ d ∧ d < 2 ^ k.toNat) (h0 : 0 ≤ lo) (h : lo < mid) (h' : mid < hi) (h1 : hi ≤ ns.length) (h4 : ns.length ≤ 200) (hk0 : 0 < k) (hk2 : k ≤ 14) :
    0 ≤ (mid - lo) * k ∧ (Builtin.Int.intBits (undig k.toNat (sl ns mid.toNat hi.toNat)) : Int) + (mid - lo) * k ≤ 2 ^ 27 ∧
    undig k.toNat (sl ns mid.toNat hi.toNat) * 2 ^ ((mid - lo) * k).toNat + undig k.toNat (sl ns lo.toNat mid.toNat) = undig k.toNat (sl ns lo.toNat hi.toNat) := by
  obtain ⟨s0, s1⟩ := i1_shift (k := k) h h' (by omega) hk0 hk2
  have e1 : ((mid - lo) * k).toNat = k.toNat * (mid.toNat - lo.toNat) := by rw [Int.toNat_mul (by omega) (by omega), Nat.mul_comm, show (mid - lo).toNat = mid.toNat - lo.toNat by omega]
  obtain ⟨b0, b1⟩ := undig_bounds (k := k.toNat) (l := sl ns mid.toNat hi.toNat) fun d hd => hI d (sl_mem hd)
  have hb := bits_le b0 b1
  have hb2 : k.toNat * (sl ns mid.toNat hi.toNat).length ≤ 14 * 200 := by
    rw [sl_length (by omega)]
    exact Nat.mul_le_mul (by omega) (by omega)
  refine ⟨s0, by omega, ?_⟩
  rw [e1, undig_slice (k := k.toNat) (ns := ns) (lo := lo.toNat) (mid := mid.toNat) (hi := hi.toNat) (by omega) (by omega) (by omega), Int.mul_comm, Int.add_comm]

local macro_rules | `(tactic| k_mem) => `(tactic| first | (with_reducible assumption) | exact List.Mem.head _ | (refine' mem_tl ?_; k_mem))
local macro_rules | `(tactic| walk_at "call ref") => `(tactic| (k_here; k_dflt (refine' ti2_use ?C ?B ?F ?X ?N ?T ?hk ?hL ?hdp ?h1 ?h2 ?h3 ?h4 ?h5 ?_; (case C => assumption); (case B => k_asm); (case F => k_asm); (case X => k_asm); (case N => k_asm); (case T => k_asm); (case hk => exact rfl); (case hL => assumption); (case hdp => ktr_room); (case h1 => omega); (case h2 => assumption); (case h3 => omega); (case h4 => omega); (case h5 => omega); k_whole); intro h9 tk9 t9 F9 N9; (try dsimp only); (try k_fold)))
local macro_rules | `(tactic| walk_at "ite") => `(tactic| (k_here; first | (with_reducible refine ieq_t ?_ ?_; first | with_reducible assumption | omega) | (with_reducible refine ieq_f ?_ ?_; first | with_reducible assumption | omega)))
local macro_rules | `(tactic| walk_at "binaryOp LShift int int") => `(tactic| (k_here; (with_reducible refine lshift_int ?kbn ?kbs ?_); (case kbn => with_reducible assumption); (case kbs => with_reducible assumption)))
local macro_rules | `(tactic| walk_at "binaryOp RShift int int") => `(tactic| (k_here; (with_reducible refine rshift_int ?kbn ?_); (case kbn => with_reducible assumption)))

theorem inner2_step (hk0 : 0 < k) (hk2 : k ≤ 14) (hIA : IntsAre its ns) (hI : ∀ d ∈ ns, 0 ≤ d ∧ d < 2 ^ k.toNat) (hE : I2Env w.params rest D f k) (n : Nat) (IH : ∀ n', n' < n → TI2 w p loose mean mg mb rest D f k its ns n') : TI2 w p loose mean mg mb rest D f k its ns n := by
  obtain ⟨qual, params, body, scope, cA, cN, cI, c', oA, oN, oI, oc, vs, t, doc, pm, ctv, tk, hfd, mA, dA, mN, dN, mI, dI, mf, mc, dc, dc1⟩ := hE
  intro dp un gd cn cs a ccd cl outer A₀ base h₀ L m s Q E lo hi tl th B F X N T hk hL hd1 h1 h2 h3 h5 hn ret
  cases hfd
  revert X; k_fill; intro X
  have IHn : 0 < n → TI2 w p loose mean mg mb rest D f k its ns (n - 1) := fun h => IH _ (by omega)
  have hnp : 0 < n := by omega
  replace IHn := IHn hnp
  clear IH
  by_cases hcase : lo + 1 = hi
  · refine wpAny_call ?_
    k_dflt (refine' code_nest ?k1 ?k2 ?k3 ?k4 ?k5 ?kA ?kF ?kK ?k6 ?k7 ?k8 ?k9 ?kB ?_ ?c2 ?c3 ?c4 ?c5; (case kA => exact rfl); (case kF => exact rfl); (case kK => exact hk); (case k1 => k_asm); (case k2 => k_asm); (case k3 => k_asm); (case k4 => k_asm); (case k5 => k_asm); (case k6 => exact mf); (case k7 => exact codeRec_news N mc dc dc1); (case k8 => ktr_room); (case k9 => exact BindsTo.of_eq rfl); (case c5 => decide); (case kB => exact locs rfl); (case c2 => exact rfl); (case c3 => exact rfl); (case c4 => exact rfl); k_whole)
    intro g' L' h' FG' F' N' B' X' T'
    have hLg : g'.IsList D its.toArray := stays_list FG'.keep hL
    (try dsimp only); (try k_fold)
    have CH := codeHd48 X'
    k_steps
    have e : undig k.toNat (sl ns lo.toNat hi.toNat) = ns.getD lo.toNat 0 := by
      rw [show hi.toNat = lo.toNat + 1 by omega, sl_one (by omega), undig, undig, Int.mul_zero, Int.add_zero]
    rw [← e]
    exact ret _ _ _ (by k_asm) (by k_asm)
  · obtain ⟨hm1, hm2⟩ := i1_mid h2 hcase
    obtain ⟨f1, f2, f3⟩ := i2_facts (k := k) hI h1 hm1 hm2 h3 h5 hk0 hk2
    have f9 : (0 : Int) ≤ 1 := by decide
    refine wpAny_call ?_
    k_dflt (refine' code_nest ?k1 ?k2 ?k3 ?k4 ?k5 ?kA ?kF ?kK ?k6 ?k7 ?k8 ?k9 ?kB ?_ ?c2 ?c3 ?c4 ?c5; (case kA => exact rfl); (case kF => exact rfl); (case kK => exact hk); (case k1 => k_asm); (case k2 => k_asm); (case k3 => k_asm); (case k4 => k_asm); (case k5 => k_asm); (case k6 => exact mf); (case k7 => exact codeRec_news N mc dc dc1); (case k8 => ktr_room); (case k9 => exact BindsTo.of_eq rfl); (case c5 => decide); (case kB => exact locs rfl); (case c2 => exact rfl); (case c3 => exact rfl); (case c4 => exact rfl); k_whole)
    intro g' L' h' FG' F' N' B' X' T'
    have hLg : g'.IsList D its.toArray := stays_list FG'.keep hL
    (try dsimp only); (try k_fold)
    have CH := codeHd48 X'
    k_steps
    rw [f3]
    exact ret _ _ _ (by k_asm) (by k_asm)

theorem inner2 (hk0 : 0 < k) (hk2 : k ≤ 14) (hIA : IntsAre its ns) (hI : ∀ d ∈ ns, 0 ≤ d ∧ d < 2 ^ k.toNat) (hE : I2Env w.params rest D f k) (n : Nat) : TI2 w p loose mean mg mb rest D f k its ns n := by
  induction n using Nat.strongRecOn with
  | ind n ih => exact inner2_step hk0 hk2 hIA hI hE n ih
end
end Mine

/-! part D3 -/

namespace Mine
local macro_rules | `(tactic| k_all) => `(tactic| (refine' tb_ne ?tN ?tm ?ts ?tK ?tn; (case tK => with_reducible assumption); (case tN => with_reducible assumption); (case tm => k_mem); (case ts => (intro p hp; repeat' (first | exact hp | refine List.Mem.tail _ ?_))); (case tn => first | exact notTab_cell (by assumption) | exact (notTab_lit rfl))))
local macro_rules | `(tactic| walk_at "call ref") => `(tactic| (k_here; k_dflt (refine' ti2_use (inner2 ?hk0 ?hk2 ?hIA ?hDD ?hE 200) ?B ?F ?X ?N ?T ?hk ?hL ?hdp ?h1 ?h2 ?h3 ?h4 ?h5 ?ret9; (case hk0 => assumption); (case hk2 => assumption); (case hIA => assumption); (case hDD => assumption); (case B => k_asm); (case F => k_asm); (case X => k_asm); (case N => k_asm); (case T => k_asm); (case hk => exact rfl); (case hL => assumption); (case hdp => ktr_room); (case h1 => omega); (case h4 => assumption)); (case' ret9 => (intro h9 tk9 t9 F9 N9; (try dsimp only); (try k_fold)))))
section
variable {w : World} {p : Program} {loose : List Str} {mean : ExcName → Option Value} {mg mb : Str → Option Value} {dp un : Nat} {gd : Option (List Code)} {cn : Str} {cs : Scope} {a : Addr} {ccd : Value} {cl : List (Str × Addr)} {outer : List Env} {A₀ : Around} {base h₀ : Heap} {L : Addr} {m : Str → Option Value} {led nw tb : List (Addr × Obj)} {s : Shared} {Q E : Value → Shared → Prop}

theorem spec_digits2int {D : Addr} {nn : Nat} {k : Int} {tk : Tok} {its : List Value} {ns : List Int}
    (B : Below A₀ base outer h₀) (F : Fr h₀ L s.heap m) (X : (hd.heap_39 w.params).In h₀) (N : News h₀ L s.heap led) (hl : Led tb led nw) (hK : TabsIn tb) (T : Top p loose mean mg mb h₀) (hk : cs.kind = .function)
    (hd1 : dp + 220 < recursionLimit) (hD : (D, listOf its.toArray nn) ∈ led) (hIA : IntsAre its ns) (hDD : ∀ d ∈ ns, 0 ≤ d ∧ d < 2 ^ k.toNat) (hlen : ns.length ≤ 200) (hk0 : 0 < k) (hk2 : k ≤ 14)
    (ret : ∀ (h' : Heap) (tk' : Nat) (t : Tok) (tb' : List (Addr × Obj)), Fr h₀ L h' m → News h₀ L h' (nw ++ tb') → TabsIn tb' → Stp tb tb' s.heap h' → Q (.int (undig k.toNat ns) t) { s with heap := h', toks := tk' }) :
    wpAny (model PySem.Challenge.rw_zr0004_01.row.prog w) (ktrTop dp un gd cn cs L a ccd cl outer) (call (.ref 49) [.ref D, .int k tk]) Q E s := by
  have hDt : ∀ p ∈ tb, p.1 ≠ D := tb_ne N hD (by obtain ⟨rfl, _⟩ := hl.split; exact fun p hp => List.mem_append_right _ hp) hK (notTab_lit rfl)
  have hDs : s.heap.get? D = some (listOf its.toArray nn) := (N _ hD).1
  revert X; k_fill; intro X
  refine wpAny_call ?_
  k_dflt (refine' enterKC (tb := tb) ?k1 ?k2 ?k3 ?k4 ?kL ?kT ?k5 ?kA ?kF ?kK ?k6 ?k7 ?k8 ?k9 ?kB ?kD ?_ ?c2 ?c3 ?c4; (case kA => exact rfl); (case kF => exact rfl); (case kK => assumption); (case k1 => k_asm); (case k2 => k_asm); (case k3 => k_asm); (case k4 => k_asm); (case kL => k_asm); (case kT => k_asm); (case k5 => k_asm); (case k6 => k_is); (case k7 => k_is); (case k8 => ktr_room); (case k9 => exact BindsTo.of_eq rfl); (case kB => exact rfl); (case kD => decide +kernel); (case c2 => exact rfl); (case c3 => exact rfl); (case c4 => exact rfl); k_whole)
  intro g' L' h' tk' cells' hkp FG' F' N' Y' B' X' T' hlt
  k_cells Y'
  (try simp only [List.cons_append, List.nil_append] at N')
  have hDg : g'.IsList D its.toArray := IsL.isList (n := nn) (hkp _ _ hDs hDt)
  (try dsimp only); (try k_fold)
  k_steps
  k_dflt (refine' nestDef_K ?d0 ?k0 ?a0 ?_; (case d0 => exact rfl); (case k0 => exact rfl); (case a0 => exact rfl))
  k_dflt (refine' nest44 (own := [_, _, _]) ?F ?N ?K ?hn ?T ?C ?hcd ?hcl ?_; (case F => k_asm); (case N => k_asm); (case K => assumption); (case T => k_asm); (case C => exact codeHd48 X'); (case hcd => exact rfl); (case hcl => exact rfl))
  case hn => 
    repeat' (first | exact List.forall_mem_nil _ | refine List.forall_mem_cons.mpr ⟨?_, ?_⟩ | exact notTab_cell (by assumption) | exact (notTab_lit rfl))
  intro f c' oc vs t ctv doc h' tk tb' F N K' mc dc dc1 l1 l2
  simp only [List.cons_append, List.nil_append] at N
  have CH := codeHd48 X'
  k_lt l1
  (try dsimp only); (try k_fold)
  k_steps
  · refine ⟨_, [], tb', by k_asm, news_sub (by assumption) (fun p hp => by repeat' (first | exact hp | refine mem_tl ?_)), K', fun F2 N2 hs => ?_⟩
    have e : sl ns (Int.toNat 0) ((ns.length : Int)).toNat = ns := by rw [Int.toNat_natCast]; exact sl_all
    dsimp only
    rw [e]
    exact ret _ _ _ _ F2 N2 K' hs
  · refine' i2env_mk ?gf ?g0 ?gA ?dA ?gN ?dN ?gI ?dI ?gc ?dc ?dc1
    case gf => exact List.Mem.head _
    case g0 => rfl
    case gA => k_mem
    case dA => assumption
    case gN => k_mem
    case dN => assumption
    case gI => k_mem
    case dI => assumption
    case gc => repeat' (first | exact mc | refine mem_tl ?_)
    case dc => exact dc
    case dc1 => exact dc1
  · refine ⟨_, [], tb', by k_asm, news_sub (by assumption) (fun p hp => by repeat' (first | exact hp | refine mem_tl ?_)), K', fun F2 N2 hs => ?_⟩
    have e : ns = [] := List.eq_nil_of_length_eq_zero (by omega)
    have r := fun t tk => ret _ tk t _ F2 N2 K' hs
    rw [e, undig] at r
    exact r _ _
end
end Mine

/-! part D1 -/

namespace Mine
section
variable {w : World} {p : Program} {loose : List Str} {mean : ExcName → Option Value} {mg mb : Str → Option Value} {dp un : Nat} {gd : Option (List Code)} {cn : Str} {cs : Scope} {a : Addr} {ccd : Value} {cl : List (Str × Addr)} {outer : List Env} {A₀ : Around} {base h₀ : Heap} {L : Addr} {m : Str → Option Value} {led nw tb : List (Addr × Obj)} {s : Shared} {Q E : Value → Shared → Prop}

theorem spec_div2n1n {x y k : Int} {tx ty tk : Tok}
    (B : Below A₀ base outer h₀) (F : Fr h₀ L s.heap m) (X : (hd.heap_39 w.params).In h₀) (N : News h₀ L s.heap led) (hl : Led tb led nw) (hK : TabsIn tb) (T : Top p loose mean mg mb h₀) (hk : cs.kind = .function)
    (hd1 : dp + 10 < recursionLimit) (hb : (Builtin.Int.intBits x : Int) - k ≤ 4000) (hy : 0 < y) (hy2 : y ≤ 10000) 
    (ret : ∀ (h' : Heap) (tk' : Nat) (tup : Addr) (t1 t2 : Tok) (tb' : List (Addr × Obj)), Fr h₀ L h' m → News h₀ L h' ((tup, ({ cls := .type "tuple", data := .seq #[.int (x.fdiv y) t1, .int (x.fmod y) t2] } : Obj)) :: (nw ++ tb')) → TabsIn tb' → Stp tb tb' s.heap h' → Q (.ref tup) { s with heap := h', toks := tk' }) :
    wpAny (model PySem.Challenge.rw_zr0004_01.row.prog w) (ktrTop dp un gd cn cs L a ccd cl outer) (call (.ref 28) [.int x tx, .int y ty, .int k tk]) Q E s := by
  revert X; k_fill; intro X
  refine wpAny_call ?_
  k_dflt (refine' enterK (tb := tb) ?k1 ?k2 ?k3 ?k4 ?kL ?kT ?k5 ?kA ?kF ?kK ?k6 ?k7 ?k8 ?k9 ?kB ?_ ?c2 ?c3 ?c4 ?c5; (case kA => exact rfl); (case kF => exact rfl); (case kK => assumption); (case k1 => k_asm); (case k2 => k_asm); (case k3 => k_asm); (case k4 => k_asm); (case kL => k_asm); (case kT => k_asm); (case k5 => k_asm); (case k6 => k_is); (case k7 => k_is); (case k8 => ktr_room); (case k9 => exact BindsTo.of_eq rfl); (case c5 => decide); (case kB => exact locs rfl); (case c2 => exact rfl); (case c3 => exact rfl); (case c4 => exact rfl); k_whole)
  intro g' L' h' hkp FG' F' N' B' X' T' hlt
  (try dsimp only); (try k_fold)
  k_steps
  exact ⟨_, [_], tb, by assumption, by assumption, hK, fun F2 N2 hs => ret _ _ _ _ _ _ F2 N2 hK hs⟩
end
end Mine

/-! part Loop -/

namespace Mine
section
variable {prog : Program} {w : World} {A : Around} {E : Value → Shared → Prop} {s : Shared} {env : Env} {target iter : Expr} {body : List Stmt} {pos : Pos} {Q : Flow → Shared → Prop} {it : Value}
  {h₀ : Heap} {L : Addr} {led : List (Addr × Obj)}

/-- a loop at its iterator -/
def ForAt (prog : Program) (w : World) (A : Around) (target : Expr) (it : Value) (body : List Stmt) (env : Env) (Q : Flow → Shared → Prop) (E : Value → Shared → Prop) (s : Shared) : Prop :=
  codeAny (model prog w) A (.forLoop target it body [] env) (fun r s' => match r with | .ok f => Q f s' | .error e => cameBackBy (model prog w) A env E e s') s

theorem for_at (h : wpAny (model prog w) A (eval iter env) (fun x s₁ => wpAny (model prog w) A (pyIter x) (fun it s₂ => ForAt prog w A target it body env Q E s₂) E s₁) E s)
    (hs : ∀ x, foldedSetIterable iter env x = pure x := by intro _; rfl) : wpAny (model prog w) A (exec (.For target iter body [] pos) env) Q E s := wpAny_For h hs

/-- what a raise in the turn meets -/
abbrev InFor (prog : Program) (w : World) (A : Around) (env : Env) (E : Value → Shared → Prop) : Value → Shared → Prop :=
  notedBy (model prog w) A env fun e s' => cameBackBy (model prog w) A env E e s'

def TurnTo (J : Nat → Shared → Prop) (i : Nat) (Q : Flow → Shared → Prop) (f : Flow) (s₃ : Shared) : Prop := match f with
  | .next | .cont => J (i + 1) s₃
  | .brk => Q .next s₃
  | .ret v => Q (.ret v) s₃

/-- one turn: the item, its binding, the body -/
def TurnOf (prog : Program) (w : World) (A : Around) (target : Expr) (it : Value) (body : List Stmt) (env : Env) (Q : Flow → Shared → Prop) (E : Value → Shared → Prop) (J : Nat → Shared → Prop) (i : Nat) (v : Value) (s₁ : Shared) : Prop :=
  wpAny (model prog w) A (letOwnedTupleGo target it v) (fun _ s₁' => wpAny (model prog w) A (assign target env v) (fun _ s₂ => wpAny (model prog w) A (execs body env) (TurnTo J i Q) (InFor prog w A env E) s₂) (InFor prog w A env E) s₁') (InFor prog w A env E) s₁

theorem for_go (n : Nat) (J : Nat → Shared → Prop) (h : J 0 s)
    (turn : ∀ i s, i < n → J i s → wpAny (model prog w) A (pyNext it) (fun r s₁ => ∃ v, r = some v ∧ TurnOf prog w A target it body env Q E J i v s₁) (InFor prog w A env E) s)
    (done : ∀ s, J n s → wpAny (model prog w) A (pyNext it) (fun r s₁ => r = none ∧ Q .next s₁) (InFor prog w A env E) s) : ForAt prog w A target it body env Q E s := by
  refine codeAny_forLoop_any (fun k s' => ∃ i, i ≤ n ∧ k = n - i ∧ J i s') ?_ (n - 0) ⟨0, Nat.zero_le _, rfl, h⟩
  rintro k s' ⟨i, hi, rfl, hJ⟩
  by_cases hn : i = n
  · subst hn
    refine wpAny_mono (done s' hJ) (fun r s₁ h₁ => ?_) fun _ _ x => x
    obtain ⟨rfl, hq⟩ := h₁
    exact wpAny_execs_nil hq
  · refine wpAny_mono (turn i s' (by omega) hJ) (fun r s₁ h₁ => ?_) fun _ _ x => x
    obtain ⟨v, rfl, h₁⟩ := h₁
    refine wpAny_mono h₁ (fun _ s₂ h₂ => wpAny_mono h₂ (fun _ s₃ h₃ => wpAny_mono h₃ (fun f s₄ h₄ => ?_) fun _ _ x => x) fun _ _ x => x) fun _ _ x => x
    cases f with
    | next => exact ⟨n - (i + 1), by omega, i + 1, by omega, rfl, h₄⟩
    | cont => exact ⟨n - (i + 1), by omega, i + 1, by omega, rfl, h₄⟩
    | brk => exact h₄
    | ret v => exact h₄

theorem for_gen (n : Nat) (J : Nat → Shared → Prop) (h : J 0 s)
    (turn : ∀ i s, i ≤ n → J i s → wpAny (model prog w) A (pyNext it) (fun r s₁ => match r with
      | none => Q .next s₁
      | some v => TurnOf prog w A target it body env Q E (fun i s => i ≤ n ∧ J i s) i v s₁) (InFor prog w A env E) s) : ForAt prog w A target it body env Q E s := by
  refine codeAny_forLoop_any (fun k s' => ∃ i, i ≤ n ∧ k = n - i ∧ J i s') ?_ (n - 0) ⟨0, Nat.zero_le _, rfl, h⟩
  rintro k s' ⟨i, hi, rfl, hJ⟩
  refine wpAny_mono (turn i s' hi hJ) (fun r s₁ h₁ => ?_) fun _ _ x => x
  cases r with
  | none => exact wpAny_execs_nil h₁
  | some v =>
    refine wpAny_mono h₁ (fun _ s₂ h₂ => wpAny_mono h₂ (fun _ s₃ h₃ => wpAny_mono h₃ (fun f s₄ h₄ => ?_) fun _ _ x => x) fun _ _ x => x) fun _ _ x => x
    cases f with
    | next => exact ⟨n - (i + 1), by have := h₄.1; omega, i + 1, h₄.1, rfl, h₄.2⟩
    | cont => exact ⟨n - (i + 1), by have := h₄.1; omega, i + 1, h₄.1, rfl, h₄.2⟩
    | brk => exact h₄
    | ret v => exact h₄

theorem turn_name {x : Str} {px : Pos} {J : Nat → Shared → Prop} {i : Nat} {v : Value} {s₁ : Shared}
    (h : wpAny (model prog w) A (storeName env x v) (fun _ s₂ => wpAny (model prog w) A (execs body env) (TurnTo J i Q) (InFor prog w A env E) s₂) (InFor prog w A env E) s₁) :
    TurnOf prog w A (.Name x px) it body env Q E J i v s₁ :=
  wpAny_of_eq (a := ()) rfl (wpAny_assign_Name h)

/-- the iterator over a reversed list, as an entry of the ledger -/
theorem next_rev {I l : Addr} {o : Obj} {its : List Value} {n i : Nat} {v : Value} {m : Str → Option Value} {Q : Option Value → Shared → Prop} {E : Value → Shared → Prop} (F : Fr h₀ L s.heap m) (N : News h₀ L s.heap ((I, o) :: led))
    (hc : o.cls = .type "list_reverseiterator") (hd : o.data = .fields #[.ref l, rawInt (i : Int)]) (hl : (l, listOf its.toArray n) ∈ led) (hne : ∀ p ∈ led, p.1 ≠ I) (hx : its[i]? = some v)
    (h : ∀ h' o', Fr h₀ L h' m → News h₀ L h' ((I, o') :: led) → o'.cls = .type "list_reverseiterator" → o'.data = .fields #[.ref l, rawInt ((i : Int) - 1)] → Q (some v) { s with heap := h' }) :
    wpAny (model prog w) A (pyNext (.ref I)) Q E s := by
  have hI := N (I, o) (.head _)
  refine wpAny_pyNext_rev_item ⟨o, hI.1, hc, hd⟩ (IsL.isList (n := n) (N _ (.tail _ hl)).1) (by simpa using hx) fun h' hit hs => ?_
  obtain ⟨o', ho', hc', hd'⟩ := hit
  refine h h' o' (F.change hs hI.2.1 hI.2.2) (fun p hp => ?_) hc' hd'
  rcases List.mem_cons.mp hp with rfl | hp
  · exact ⟨ho', hI.2⟩
  · exact ⟨(hs.2 _ (hne p hp)).trans (N p (.tail _ hp)).1, (N p (.tail _ hp)).2⟩
theorem done_rev {I l : Addr} {o : Obj} {m : Str → Option Value} {Q : Option Value → Shared → Prop} {E : Value → Shared → Prop} (hh : A.handled = none) (F : Fr h₀ L s.heap m) (N : News h₀ L s.heap ((I, o) :: led))
    (hc : o.cls = .type "list_reverseiterator") (hd : o.data = .fields #[.ref l, rawInt (-1)]) (hne : ∀ p ∈ led, p.1 ≠ I)
    (h : ∀ h', Fr h₀ L h' m → News h₀ L h' led → Q none { s with heap := h' }) :
    wpAny (model prog w) A (pyNext (.ref I)) Q E s := by
  have hI := N (I, o) (.head _)
  refine wpAny_pyNext_rev_end hh ⟨o, hI.1, hc, hd⟩ fun h' hs => ?_
  refine h h' ⟨F.ns.extBut hs hI.2.1.symm, fun b ob e => hs b ob (fun q => by rw [q, hI.2.2] at e; cases e) (F.keep b ob e), F.above⟩ fun p hp => ⟨hs _ _ (hne p hp) (N p (.tail _ hp)).1, (N p (.tail _ hp)).2⟩

theorem iter_rev {I l : Addr} {i : Int} {Q : Value → Shared → Prop} {E : Value → Shared → Prop} (N : News h₀ L s.heap led) (hm : (I, revObj l i) ∈ led) (h : Q (.ref I) s) : wpAny (model prog w) A (pyIter (.ref I)) Q E s :=
  wpAny_pyIter_revIter ⟨_, (N _ hm).1, rfl, rfl⟩ h

/-- the iterator over a list, as an entry of the ledger -/
theorem iter_list {l : Addr} {items : Array Value} {m : Str → Option Value} {Q : Value → Shared → Prop} {E : Value → Shared → Prop} (F : Fr h₀ L s.heap m) (N : News h₀ L s.heap led) (hl : s.heap.IsList l items)
    (h : ∀ I o h', Fr h₀ L h' m → News h₀ L h' ((I, o) :: led) → o.cls = .type "list_iterator" → o.data = .fields #[.ref l, .int 0 0] → (∀ p ∈ led, p.1 < I) → Q (.ref I) { s with heap := h' }) :
    wpAny (model prog w) A (pyIter (.ref l)) Q E s :=
  wpAny_pyIter_list hl (h _ _ _ (F.push _) (News.push F N _) rfl rfl fun p hp => Heap.lt_size (N p hp).1)
theorem next_list {I l : Addr} {o : Obj} {items : Array Value} {i : Nat} {v : Value} {m : Str → Option Value} {Q : Option Value → Shared → Prop} {E : Value → Shared → Prop} (F : Fr h₀ L s.heap m) (N : News h₀ L s.heap ((I, o) :: led))
    (hc : o.cls = .type "list_iterator") (hd : o.data = .fields #[.ref l, .int (i : Int) 0]) (hl : s.heap.IsList l items) (hne : ∀ p ∈ led, p.1 ≠ I) (hx : items[i]? = some v)
    (h : ∀ h' o', Fr h₀ L h' m → News h₀ L h' ((I, o') :: led) → o'.cls = .type "list_iterator" → o'.data = .fields #[.ref l, .int ((i + 1 : Nat) : Int) 0] → Q (some v) { s with heap := h' }) :
    wpAny (model prog w) A (pyNext (.ref I)) Q E s := by
  have hI := N (I, o) (.head _)
  refine wpAny_pyNext_list_item ⟨o, hI.1, hc, hd⟩ hl hx fun h' hit hs => ?_
  obtain ⟨o', ho', hc', hd'⟩ := hit
  refine h h' o' (F.change hs hI.2.1 hI.2.2) (fun p hp => ?_) hc' hd'
  rcases List.mem_cons.mp hp with rfl | hp
  · exact ⟨ho', hI.2⟩
  · exact ⟨(hs.2 _ (hne p hp)).trans (N p (.tail _ hp)).1, (N p (.tail _ hp)).2⟩
theorem done_list {I l : Addr} {o : Obj} {items : Array Value} {i : Nat} {m : Str → Option Value} {Q : Option Value → Shared → Prop} {E : Value → Shared → Prop} (hh : A.handled = none) (F : Fr h₀ L s.heap m) (N : News h₀ L s.heap ((I, o) :: led))
    (hc : o.cls = .type "list_iterator") (hd : o.data = .fields #[.ref l, .int (i : Int) 0]) (hl : s.heap.IsList l items) (hne : ∀ p ∈ led, p.1 ≠ I) (hx : items[i]? = none)
    (h : ∀ h', Fr h₀ L h' m → News h₀ L h' led → Q none { s with heap := h' }) :
    wpAny (model prog w) A (pyNext (.ref I)) Q E s := by
  have hI := N (I, o) (.head _)
  refine wpAny_pyNext_list_end hh ⟨o, hI.1, hc, hd⟩ hl hx fun h' hs => ?_
  refine h h' ⟨F.ns.extBut hs hI.2.1.symm, fun b ob e => hs b ob (fun q => by rw [q, hI.2.2] at e; cases e) (F.keep b ob e), F.above⟩ fun p hp => ⟨hs _ _ (hne p hp) (N p (.tail _ hp)).1, (N p (.tail _ hp)).2⟩

/-- a loop's state: the frame's map and the ledger -/
def AtFr (h₀ : Heap) (L : Addr) (s : Shared) (J : (Str → Option Value) → List (Addr × Obj) → Prop) (s' : Shared) : Prop :=
  ∃ h tk m led, s' = { s with heap := h, toks := tk } ∧ Fr h₀ L h m ∧ News h₀ L h led ∧ J m led
theorem AtFr.intro {s : Shared} {J : (Str → Option Value) → List (Addr × Obj) → Prop} {h : Heap} {tk : Nat} {m : Str → Option Value} {led : List (Addr × Obj)} (F : Fr h₀ L h m) (N : News h₀ L h led) (j : J m led) : AtFr h₀ L s J { s with heap := h, toks := tk } :=
  ⟨h, tk, m, led, rfl, F, N, j⟩

theorem for_fr {m₀ : Str → Option Value} {led₀ : List (Addr × Obj)} (F : Fr h₀ L s.heap m₀) (N : News h₀ L s.heap led₀) (n : Nat) (J : (Str → Option Value) → Nat → (Str → Option Value) → List (Addr × Obj) → Prop) (h0 : J m₀ 0 m₀ led₀)
    (turn : ∀ i m led h tk, i < n → J m₀ i m led → Fr h₀ L h m → News h₀ L h led → wpAny (model prog w) A (pyNext it) (fun r s₁ => ∃ v, r = some v ∧ TurnOf prog w A target it body env Q E (fun i => AtFr h₀ L s (J m₀ i)) i v s₁) (InFor prog w A env E) { s with heap := h, toks := tk })
    (done : ∀ m led h tk, J m₀ n m led → Fr h₀ L h m → News h₀ L h led → wpAny (model prog w) A (pyNext it) (fun r s₁ => r = none ∧ Q .next s₁) (InFor prog w A env E) { s with heap := h, toks := tk }) : ForAt prog w A target it body env Q E s := by
  refine for_go n (fun i => AtFr h₀ L s (J m₀ i)) ⟨s.heap, s.toks, m₀, led₀, rfl, F, N, h0⟩ ?_ ?_
  · rintro i s' hi ⟨h, tk, m, led, rfl, F', N', j⟩
    exact turn i m led h tk hi j F' N'
  · rintro s' ⟨h, tk, m, led, rfl, F', N', j⟩
    exact done m led h tk j F' N'
end

theorem upd_self {m : Str → Option Value} {x : Str} {v : Option Value} (h : m x = v) : (fun y => if y = x then v else m y) = m := by
  funext y; by_cases e : y = x
  · rw [if_pos e, e, h]
  · rw [if_neg e]
end Mine

/-! part Gen1 -/

namespace Mine
open Sem (wp)

/-- the two ways of a test, held apart from the walk's own split -/
def Way (b : Bool) (p q : Prop) : Prop := if b = true then p else q
theorem Way.t {b : Bool} {p q : Prop} (h : b = true) (hp : p) : Way b p q := by unfold Way; rw [if_pos h]; exact hp
theorem Way.f {b : Bool} {p q : Prop} (h : b = false) (hq : q) : Way b p q := by unfold Way; rw [if_neg (by rw [h]; exact Bool.false_ne_true)]; exact hq

section
variable {M : Model} {A : Around} {R : GenEnd} {Y : Protocol} {n : Nat} {s₀ : Shared} {c : Code} {fs : List Frame} {s : Shared} {env : Env}
  {K : Flow → Sem Fin} {H : Value → Sem Fin} {gd : Bool → Bool} {lv : List Value → List Value}

theorem seg_exec {st : Stmt} (h : wpAny M (A.over c fs) (exec st env) (fun f s' => Seg M A R Y n s₀ c (K f) fs s') (fun x s' => Seg M A R Y n s₀ c (H x) fs s') s) :
    Seg M A R Y n s₀ c ((exec st env).wrap K H gd lv) fs s := seg_wrap h

theorem seg_If {test : Expr} {body orelse : List Stmt} {pos : Pos}
    (h : wpAny M (A.over c fs) (isTrue test env (eval test env)) (fun b s' => Way b (Seg M A R Y n s₀ c ((execs body env).wrap K H gd lv) fs s') (Seg M A R Y n s₀ c ((execs orelse env).wrap K H gd lv) fs s')) (fun x s' => Seg M A R Y n s₀ c (H x) fs s') s) :
    Seg M A R Y n s₀ c ((exec (.If test body orelse pos) env).wrap K H gd lv) fs s := by
  rw [exec_If]
  refine seg_bind_wrap (wpAny_standAt (seg_bind_wrap (wpAny_mono h (fun b s' hb => ?_) fun _ _ x => x)))
  cases b with
  | true => unfold Way at hb; rw [if_pos rfl] at hb; exact hb
  | false => unfold Way at hb; rw [if_neg Bool.false_ne_true] at hb; exact hb

/-- what is left to do behind a loop that runs in a code of its own -/
def behind (env : Env) (K : Flow → Sem Fin) (H : Value → Sem Fin) (gd : Bool → Bool) (lv : List Value → List Value) (r : Result) : Sem Fin :=
  ((match r with | .ok f => (.pure f : Sem Flow) | .error e => .raise e).onRaise fun (x : Value) => do
    if (← field x 1) == Value.none then unsupported "frame.own-activation:exception-without-traceback"
    setFlight x env.frame).wrap K H gd lv
theorem behind_ok (f : Flow) : behind env K H gd lv (.ok f) = K f := rfl

theorem seg_For {target iter : Expr} {body orelse : List Stmt} {pos : Pos} (hs : ∀ x, foldedSetIterable iter env x = pure x)
    (h : wpAny M (A.over c fs) (eval iter env) (fun x s₁ => wpAny M (A.over c fs) (pyIter x) (fun it s₂ => ∀ p, Seg M A R Y n s₀ (.forLoop target it body orelse env) (M.den (.forLoop target it body orelse env))
      (.ret (behind env K H gd lv) none (gd false) (lv []) c p [] :: fs) s₂) (fun x s' => Seg M A R Y n s₀ c (H x) fs s') s₁) (fun x s' => Seg M A R Y n s₀ c (H x) fs s') s) :
    Seg M A R Y n s₀ c ((exec (.For target iter body orelse pos) env).wrap K H gd lv) fs s := by
  rw [exec_For]
  refine seg_bind_wrap (wpAny_standAt (seg_bind_wrap (wpAny_mono h (fun x s₁ h₁ => ?_) fun _ _ x => x)))
  refine seg_bind_wrap (wpAny_of_eq (hs x) (seg_bind_wrap (wpAny_standAt (seg_bind_wrap (wpAny_holding (wpAny_mono h₁ (fun it s₂ h₂ => ?_) fun _ _ x => x))))))
  exact seg_call h₂

theorem seg_While' {test : Expr} {body orelse : List Stmt} {pos : Pos}
    (h : ∀ p, Seg M A R Y n s₀ (.whileLoop test body orelse env) (M.den (.whileLoop test body orelse env)) (.ret (behind env K H gd lv) none (gd false) (lv []) c p [] :: fs) s) :
    Seg M A R Y n s₀ c ((exec (.While test body orelse pos) env).wrap K H gd lv) fs s := seg_While h
end

section
variable {prog : Program} {w : World} {A : Around} {R : GenEnd} {Y : Protocol} {n : Nat} {s₀ : Shared} {c : Code} {fs : List Frame} {s : Shared} {env : Env}

/-- a turn's raise in a loop of the generator -/
def noteR (env : Env) (e : Value) : Sem Fin := (do noteFrame e env; theTreesLotGoes e : Sem Unit).wrap (fun _ => .raise e) .raise id id

/-- what a for's turn does with its body's flow -/
def forFlow (target : Expr) (it : Value) (body orelse : List Stmt) (env : Env) (f : Flow) : Sem Fin := match f with
  | .next | .cont => .pure (.again (.forLoop target it body orelse env))
  | .brk => .pure (.done .next)
  | .ret v => .pure (.done (.ret v))

theorem forTurn_eq (target : Expr) (it : Value) (body orelse : List Stmt) (env : Env) : forTurn target it body orelse env = (do
    standAt target.pos
    let r ← (pyNext it).onRaise (fun _ => standAt { target.pos with line := 0 })
    match r with
    | none => again (.block orelse env)
    | some v => do
      letOwnedTupleGo target it v
      assign target env v
      let f ← execs body env
      forFlow target it body orelse env f) := by
  unfold forTurn
  refine congrArg _ (funext fun _ => congrArg _ (funext fun r => ?_))
  cases r with
  | none => rfl
  | some v =>
    refine congrArg _ (funext fun _ => congrArg _ (funext fun _ => congrArg _ (funext fun f => ?_)))
    cases f <;> rfl

theorem seg_forLoop {target : Expr} {it : Value} {body orelse : List Stmt} (ht : ∀ v, letOwnedTupleGo target it v = pure ())
    (h : wpAny (model prog w) (A.over (.forLoop target it body orelse env) fs) (pyNext it) (fun r s₁ => match r with
        | none => Seg (model prog w) A R Y n s₀ (.forLoop target it body orelse env) (.pure (.again (.block orelse env))) fs s₁
        | some v => wpAny (model prog w) (A.over (.forLoop target it body orelse env) fs) (assign target env v) (fun _ s₂ =>
            Seg (model prog w) A R Y n s₀ (.forLoop target it body orelse env) ((execs body env).wrap (forFlow target it body orelse env) (noteR env) id id) fs s₂)
            (fun x s' => Seg (model prog w) A R Y n s₀ (.forLoop target it body orelse env) (noteR env x) fs s') s₁)
      (fun x s' => Seg (model prog w) A R Y n s₀ (.forLoop target it body orelse env) (noteR env x) fs s') s) :
    Seg (model prog w) A R Y n s₀ (.forLoop target it body orelse env) ((model prog w).den (.forLoop target it body orelse env)) fs s := by
  show Seg _ A R Y n s₀ _ ((forTurn target it body orelse env).onRaise (fun x => do noteFrame x env; theTreesLotGoes x)) fs s
  have hH : ∀ x, ((do noteFrame x env; theTreesLotGoes x : Sem Unit).bind fun _ => (.raise x : Sem Fin)) = noteR env x := fun x => by rw [Sem.bind_eq_wrap]; rfl
  rw [Sem.onRaise_eq_wrap, forTurn_eq, funext hH]
  refine seg_bind_wrap (wpAny_standAt (seg_bind_wrap (wpAny_onRaise (wpAny_mono h (fun r s₁ h₁ => ?_) fun x s' hx => wpAny_standAt hx))))
  cases r with
  | none => exact h₁
  | some v =>
    refine seg_bind_wrap (wpAny_of_eq (ht v) (seg_bind_wrap (wpAny_mono h₁ (fun _ s₂ h₂ => ?_) fun _ _ x => x)))
    rw [Sem.bind_eq_wrap', Sem.wrap_wrap]
    have e : (execs body env).wrap (fun f => (forFlow target it body orelse env f).wrap .pure (noteR env) id id) (fun x => (Sem.raise x : Sem Fin).wrap .pure (noteR env) id id) (fun g => id (id g)) (fun l => id (id l)) =
        (execs body env).wrap (forFlow target it body orelse env) (noteR env) id id := Sem.wrap_congr _ _ _ (fun f => by cases f <;> rfl) (fun _ => rfl)
    rw [e]
    exact h₂

/-- a loop has come to its end: the code that called it goes on -/
theorem seg_loopEnd {k : Result → Sem Fin} {h : Option Value} {g : Bool} {l : List Value} {c₁ : Code} {p₁ : Pos} {kp : List Value}
    (hk : Seg (model prog w) A R Y n s₀ c₁ (k (.ok .next)) fs s) : Seg (model prog w) A R Y n s₀ c (.pure (.again (.block [] env))) (.ret k h g l c₁ p₁ kp :: fs) s := by
  refine seg_again rfl ?_
  exact seg_leaf (.ok .next) hk

theorem seg_done {k : Result → Sem Fin} {h : Option Value} {g : Bool} {l : List Value} {c₁ : Code} {p₁ : Pos} {kp : List Value} {f : Flow}
    (hk : Seg (model prog w) A R Y n s₀ c₁ (k (.ok f)) fs s) : Seg (model prog w) A R Y n s₀ c (.pure (.done f)) (.ret k h g l c₁ p₁ kp :: fs) s := seg_leaf (.ok f) hk
end
end Mine

/-! part Gen2 -/

namespace Mine
section
variable {prog : Program} {w : World} {A : Around} {E : Value → Shared → Prop} {s : Shared}

/-- the next of a generator function's generator: it yields (and is left without a cleanup), or it returns -/
theorem next_gen {a : Addr} {g n : Nat} {gs : GenState} {P : Nat → Shared → Shared → Prop} {Y : Protocol} {Q : Option Value → Shared → Prop} (hh : A.handled = none)
    (hl : s.heap.NoLimit) (hroom : A.depth < recursionLimit) (hg : s.heap.IsGen a g) (hgs : s.gens[g]? = some gs)
    (hgo : gs.Goes (model prog w) A.in1 (fun n s₀ r s₁ => r = .ok (.ret .none) ∧ P n s₀ s₁) Y n (.send .none) (s.setGen g .running))
    (hY : ∀ v s₁ gs', gs'.bare = true → Y (n - 1) (s.setGen g .running) v s₁ (fun r' s'' => match n with
        | 0 => False
        | m + 1 => gs'.Goes (model prog w) A.in1 (fun n s₀ r s₁ => r = .ok (.ret .none) ∧ P n s₀ s₁) Y m r' s'') → Q (some v) (s₁.setGen g gs'))
    (hP : ∀ s₁, P n (s.setGen g .running) s₁ → ∀ h', (∀ b o, s₁.heap.get? b = some o → h'.get? b = some o) → Q none { s₁.setGen g .finished with heap := h' }) :
    wpAny (model prog w) A (pyNext (.ref a)) Q E s := by
  unfold pyNext
  refine wpAny_bind (wpAny_attempt (wpAny_callSpecial?_slot (name := Str.ofString "__next__") hg.typeIs slot_gen_next
    (wpAny_call_entry slot_gen_next hg.typeIs entry_gen_next ?_ (args_gen_next _))))
  show wpAny _ A.in1 (Builtin.Generator.genWake (.ref a) (.send .none)) _ _ s
  unfold Builtin.Generator.genWake
  refine wpAny_bind (wpAny_holding (wpAny_genNumber hg (wpAny_bind (wpAny_genState hgs ?_))))
  cases gs with
  | running => exact hgo.elim
  | finished => exact hgo.elim
  | _ =>
    refine wpAny_bind (wpAny_roomToWake hl hroom ?_)
    show wpAny _ A.in1 (.resume g (.send .none) [] _) _ _ s
    refine wpAny_resumeQ hgs hgo (fun x s₁ hx => ?_) fun v s₁ gs' hb hv => wpAny_pure ⟨v, rfl, wpAny_pure (hY v s₁ gs' hb hv)⟩
    obtain ⟨rfl, hp⟩ := hx
    show wpAny _ A.in1 (newExc (.type "StopIteration") [] >>= _) _ _ _
    refine wpAny_bind ?_
    simp only [newExc, newTuple]
    refine wpAny_bind (wpAny_newObj_type ?_ (by size_fits))
    refine wpAny_bind (m := firstArgMember _ _) (wpAny_of_eq (a := Value.none) (by first | rfl | (simp only [firstArgMember]; rfl)) ?_)
    refine wpAny_newObj_type ?_ (by size_fits)
    simp only [raiseNew]
    refine wpAny_bind (wpAny_bind (wpAny_handled ?_))
    first | rw [show A.in1.handled = none from hh] | rw [hh]
    refine wpAny_throw ?_
    refine wpAny_bind (wpAny_isInstance (T := "StopIteration") (b := true) ⟨_, Heap.get?_push_size _ rfl, rfl⟩ isSubtype_stop ?_)
    exact wpAny_pure (hP s₁ hp _ fun b o hb => Heap.get?_push_of_some _ (Heap.get?_push_of_some _ hb))
end
end Mine

/-! part Gen3 -/

namespace Mine

def fnIn (K : Frag) (f : Addr) : Option FuncData := match K.lookup f with
  | some o => (match o.data with
    | .func fd => some fd
    | _ => none)
  | none => none

/-- an iterator over the list l -/
def IterOn (l : Addr) (o : Obj) : Prop := o.cls = .type "list_iterator" ∧ ∃ i : Int, o.data = .fields #[.ref l, .int i 0]

/-- the generator's frame, or its iterator -/
def OwnK (C l : Addr) (p : Addr × Obj) : Prop := (p.1 = C ∧ ∃ es ep, p.2.data = .dict es ep) ∨ IterOn l p.2
/-- the generator's own objects stand, and the ground -/
def GOwn (g₀ : Heap) (C l : Addr) (own : List (Addr × Obj)) (h : Heap) : Prop :=
  (∀ b o, g₀.get? b = some o → h.get? b = some o) ∧ ∀ p ∈ own, h.get? p.1 = some p.2 ∧ g₀.get? p.1 = none ∧ OwnK C l p
/-- what a resumption leaves as it was -/
def GStep (C l : Addr) (h h' : Heap) : Prop := ∀ b o, b ≠ C → ¬ IterOn l o → h.get? b = some o → h'.get? b = some o

def GProto (g₀ : Heap) (C l : Addr) (N : Nat) (σ : Nat → Option Int) : Protocol := fun m s₀ v s kap =>
  ∃ z t h tk own, σ (N - 1 - m) = some z ∧ v = .int z t ∧ s = { s₀ with heap := h, toks := tk } ∧ GStep C l s₀.heap h ∧ GOwn g₀ C l own h ∧ (∃ o, (C, o) ∈ own) ∧ (0 < m → ∀ s'', GOwn g₀ C l own s''.heap → kap (.send .none) s'')
def GFin (g₀ : Heap) (C l : Addr) (N : Nat) (σ : Nat → Option Int) (n : Nat) (s₀ s : Shared) : Prop :=
  σ (N - n) = none ∧ ∃ h tk, s = { s₀ with heap := h, toks := tk } ∧ GStep C l s₀.heap h ∧ ∀ b o, g₀.get? b = some o → h.get? b = some o
abbrev GRet (g₀ : Heap) (C l : Addr) (N : Nat) (σ : Nat → Option Int) : GenEnd := fun n s₀ r s₁ => r = .ok (.ret .none) ∧ GFin g₀ C l N σ n s₀ s₁

/-- in a resumption: the frame, the ledger (own objects, and all that else is there) -/
structure SC (g₀ : Heap) (C l : Addr) (s₀ s : Shared) (m : Str → Option Value) (ledI rest : List (Addr × Obj)) : Prop where
  F : Fr g₀ C s.heap m
  N : News g₀ C s.heap (ledI ++ rest)
  iter : ∀ p ∈ ledI, IterOn l p.2
  off : ∀ p ∈ rest, ¬ IterOn l p.2
  cov : ∀ b o, b ≠ C → ¬ IterOn l o → s₀.heap.get? b = some o → g₀.get? b = some o ∨ (b, o) ∈ rest
  st : ∃ h tk, s = { s₀ with heap := h, toks := tk }

theorem all_of (h : Heap) (P : Addr × Obj → Prop) : ∀ n : Nat, ∃ r : List (Addr × Obj), ∀ p : Addr × Obj, p ∈ r ↔ @LT.lt Nat _ p.1 n ∧ h.get? p.1 = some p.2 ∧ P p
  | 0 => ⟨[], fun p => ⟨(fun h => (nomatch h)), fun h => absurd h.1 (Nat.not_lt_zero _)⟩⟩
  | n + 1 => by
    obtain ⟨r, hr⟩ := all_of h P n
    cases e : h.get? n with
    | none =>
      refine ⟨r, fun p => ⟨fun hp => ⟨Nat.lt_succ_of_lt ((hr p).mp hp).1, ((hr p).mp hp).2⟩, fun hp => (hr p).mpr ⟨?_, hp.2⟩⟩⟩
      rcases Nat.lt_succ_iff_lt_or_eq.mp hp.1 with h1 | h1
      · exact h1
      · have := hp.2.1; rw [h1, e] at this; cases this
    | some o =>
      by_cases hP : P (n, o)
      · refine ⟨(n, o) :: r, fun p => ⟨fun hp => ?_, fun hp => ?_⟩⟩
        · rcases List.mem_cons.mp hp with rfl | hp
          · exact ⟨Nat.lt_succ_self _, e, hP⟩
          · exact ⟨Nat.lt_succ_of_lt ((hr p).mp hp).1, ((hr p).mp hp).2⟩
        · rcases Nat.lt_succ_iff_lt_or_eq.mp hp.1 with h1 | h1
          · exact .tail _ ((hr p).mpr ⟨h1, hp.2⟩)
          · have h2 := hp.2.1
            rw [h1, e] at h2
            have : p = (n, o) := Prod.ext h1 (Option.some.inj h2).symm
            rw [this]; exact .head _
      · refine ⟨r, fun p => ⟨fun hp => ⟨Nat.lt_succ_of_lt ((hr p).mp hp).1, ((hr p).mp hp).2⟩, fun hp => (hr p).mpr ⟨?_, hp.2⟩⟩⟩
        rcases Nat.lt_succ_iff_lt_or_eq.mp hp.1 with h1 | h1
        · exact h1
        · have h2 := hp.2.1
          rw [h1, e] at h2
          have : p = (n, o) := Prod.ext h1 (Option.some.inj h2).symm
          rw [this] at hp
          exact absurd hp.2.2 hP

theorem sc_start {g₀ : Heap} {C l : Addr} {s : Shared} {m : Str → Option Value} {ledI : List (Addr × Obj)} (F : Fr g₀ C s.heap m) (N : News g₀ C s.heap ledI) (hI : ∀ p ∈ ledI, IterOn l p.2) : ∃ rest, SC g₀ C l s s m ledI rest := by
  obtain ⟨r, hr⟩ := all_of s.heap (fun p => p.1 ≠ C ∧ g₀.get? p.1 = none ∧ ¬ IterOn l p.2) s.heap.objs.size
  refine ⟨r, F, fun p hp => ?_, hI, fun p hp => ((hr p).mp hp).2.2.2.2, fun b o hb ho e => ?_, ⟨s.heap, s.toks, rfl⟩⟩
  · rcases List.mem_append.mp hp with hp | hp
    · exact N p hp
    · have := (hr p).mp hp
      exact ⟨this.2.1, this.2.2.1, this.2.2.2.1⟩
  · cases q : g₀.get? b with
    | none => exact .inr ((hr (b, o)).mpr ⟨Heap.lt_size e, e, hb, q, ho⟩)
    | some o' =>
      have := F.keep b o' q
      rw [e] at this
      exact .inl this.symm

section
variable {g₀ : Heap} {C l : Addr} {s₀ s : Shared} {m : Str → Option Value} {ledI rest : List (Addr × Obj)}

theorem SC.step (x : SC g₀ C l s₀ s m ledI rest) : GStep C l s₀.heap s.heap := fun b o hb ho e => by
  rcases x.cov b o hb ho e with h | h
  · exact x.F.keep b o h
  · exact (x.N _ (List.mem_append_right _ h)).1

theorem SC.own (x : SC g₀ C l s₀ s m ledI rest) : ∃ own, GOwn g₀ C l own s.heap ∧ (∃ o, (C, o) ∈ own) ∧ ∀ s'' : Shared, GOwn g₀ C l own s''.heap → ∃ rest', SC g₀ C l s'' s'' m ledI rest' := by
  obtain ⟨o, es, ep, ho, hd, hk, hf⟩ := x.F.ns
  have hC : g₀.get? C = none := Heap.get?_none_of_le x.F.above
  refine ⟨(C, o) :: ledI, ⟨x.F.keep, fun p hp => ?_⟩, ⟨o, .head _⟩, fun s'' hs => ?_⟩
  · rcases List.mem_cons.mp hp with rfl | hp
    · exact ⟨ho, hC, .inl ⟨rfl, es, ep, hd⟩⟩
    · have := x.N p (List.mem_append_left _ hp)
      exact ⟨this.1, this.2.2, .inr (x.iter p hp)⟩
  · refine sc_start ⟨⟨o, es, ep, (hs.2 _ (.head _)).1, hd, hk, hf⟩, hs.1, x.F.above⟩ (fun p hp => ?_) x.iter
    have := x.N p (List.mem_append_left _ hp)
    exact ⟨(hs.2 p (.tail _ hp)).1, this.2⟩

/-- the walk has come on -/
theorem SC.go {h : Heap} {tk : Nat} {m' : Str → Option Value} {ledI' : List (Addr × Obj)} (x : SC g₀ C l s₀ s m ledI rest) (F : Fr g₀ C h m') (N : News g₀ C h (ledI' ++ rest)) (hI : ∀ p ∈ ledI', IterOn l p.2) : SC g₀ C l s₀ { s with heap := h, toks := tk } m' ledI' rest :=
  ⟨F, N, hI, x.off, x.cov, by obtain ⟨h₁, tk₁, rfl⟩ := x.st; exact ⟨h, tk, rfl⟩⟩
end
end Mine

/-! part Gen4 -/

namespace Mine
section
variable {w : World} {p : Program} {loose : List Str} {mean : ExcName → Option Value} {mg mb : Str → Option Value} {A : Around} {g₀ : Heap} {C l : Addr} {fs : List Frame} {NN : Nat} {σ : Nat → Option Int}

theorem truthy_true' {M : Model} {A : Around} {E : Value → Shared → Prop} {s : Shared} {Q : Bool → Shared → Prop} (h : Q true s) : wpAny M A (truthy (.bool true)) Q E s := fun _ _ _ => h

/-- what the generator has to give: the sizes, then the last again and again, or the end -/
def sigma (ss : List Int) (e : Int) (j : Nat) : Option Int := if j < ss.length then ss[j]? else if e = 0 then ss.getLast? else none

theorem ph_while {env : Env} {sc : Scope} (henv : env = envX (Str.ofString "_grouping_intervals") sc C 21 (.ref 20) []) (hsc : sc.kind = .function) (hk : env.kindOf (Str.ofString "last_interval") = some .local) (hco : env.scope.isCoroutine = false) (hi : interactive env = false)
    {npos ypos pos cpos : Pos} (hfs : splitAtGen fs = none) (hfg : fs.any Frame.guarded = false) {z : Int} {t : Tok} {m : Str → Option Value} (hm : m (Str.ofString "last_interval") = some (.int z t)) {ledI : List (Addr × Obj)} :
    ∀ n, 0 < n → (∀ j, NN - n ≤ j → σ j = some z) → n ≤ NN → ∀ (s₀ s : Shared) rest, SC g₀ C l s₀ s m ledI rest →
      Seg (model PySem.Challenge.rw_zr0004_01.row.prog w) A (GRet g₀ C l NN σ) (GProto g₀ C l NN σ) n s₀ (.whileLoop (.Constant (.bool true) 0 cpos) [.Expr (.Yield (some (.Name (Str.ofString "last_interval") npos)) ypos) pos] [] env)
        ((model PySem.Challenge.rw_zr0004_01.row.prog w).den (.whileLoop (.Constant (.bool true) 0 cpos) [.Expr (.Yield (some (.Name (Str.ofString "last_interval") npos)) ypos) pos] [] env)) fs s := by
  intro n
  induction n with
  | zero => intro h; exact absurd h (Nat.lt_irrefl _)
  | succ n ih =>
    intro _ hσ hn s₀ s rest x
    refine seg_whileLoop ?_
    refine isTrue_plain (e := .Constant (.bool true) 0 cpos) (show wpAny _ _ (constValue env (.bool true)) _ _ _ from wpAny_pure (a := Value.bool true) ?_) rfl
    show wpAny _ _ (truthy (.bool true)) _ _ _
    refine truthy_true' ?_
    rw [if_pos rfl]
    refine seg_execs_cons (seg_Expr_Yield hfs rfl hfg ?_ hco hi)
    subst henv
    refine nameX_L x.F hm (fun kap hkap => ?_) hsc hk
    obtain ⟨own, ho, hC, hnext⟩ := x.own
    obtain ⟨h, tk, hst⟩ := x.st
    refine ⟨z, t, h, tk, own, hσ _ (by omega), rfl, hst, ?_, ?_, hC, fun hn0 s'' hs => hkap .none s'' ?_⟩
    · have := x.step; rw [hst] at this; exact this
    · rw [hst] at ho; exact ho
    · obtain ⟨rest', x'⟩ := hnext s'' hs
      refine seg_execs_nil (seg_again rfl ?_)
      exact ih hn0 (fun j hj => hσ j (by omega)) (by omega) s'' s'' rest' x'

def genIn (K : Frag) (f : Addr) : Option (Expr × Expr × List Stmt × Pos × Scope) := match K.lookup f with
  | some o => (match o.data with
    | .func fd => (match fd.body with
      | .stmts b => (match (b[1]? : Option PySem.Stmt) with
        | some (PySem.Stmt.For target iter body [] pos) => some (target, iter, body, pos, fd.scope)
        | _ => none)
      | _ => none)
    | _ => none)
  | none => none

theorem gm1 {m₀ : Str → Option Value} {v1 v2 u1 u2 : Option Value} :
    (fun y => if y = Str.ofString "last_interval" then v1 else if y = Str.ofString "interval" then v2 else (if y = Str.ofString "last_interval" then u1 else if y = Str.ofString "interval" then u2 else m₀ y)) =
      fun z => if z = Str.ofString "last_interval" then v1 else if z = Str.ofString "interval" then v2 else m₀ z := by
  funext y
  by_cases h1 : y = Str.ofString "last_interval"
  · simp only [if_pos h1]
  · by_cases h2 : y = Str.ofString "interval"
    · simp only [if_neg h1, if_pos h2]
    · simp only [if_neg h1, if_neg h2]

theorem gm2 {m₀ : Str → Option Value} {v1 v2 u1 u2 : Option Value} :
    (fun y => if y = Str.ofString "last_interval" then v1 else if y = Str.ofString "interval" then v2 else (if y = Str.ofString "last_interval" then u1 else if y = Str.ofString "interval" then u2 else m₀ y)) =
      fun z => if z = Str.ofString "last_interval" then v1 else if z = Str.ofString "interval" then v2 else m₀ z := gm1

theorem sigma_at {ss : List Int} {e : Int} {j : Nat} (h : j < ss.length) : sigma ss e j = ss[j]? := by unfold sigma; rw [if_pos h]
theorem sigma_last {ss : List Int} {j : Nat} (h : ss.length ≤ j) : sigma ss 0 j = ss.getLast? := by unfold sigma; rw [if_neg (by omega), if_pos rfl]
theorem sigma_end {ss : List Int} {e : Int} {j : Nat} (h : ss.length ≤ j) (he : e ≠ 0) : sigma ss e j = none := by unfold sigma; rw [if_neg (by omega), if_neg he]

theorem ph_for {target iter : Expr} {body : List Stmt} {pos : Pos} {sc : Scope} (hg : genIn (hd.heap_39 w.params) 21 = some (target, iter, body, pos, sc)) (X : (hd.heap_39 w.params).In g₀) (T : Top p loose mean mg mb g₀)
    (hfs : splitAtGen fs = none) (hfg : fs.any Frame.guarded = false) {its : List Value} {ss : List Int} {e : Int} (hl : g₀.IsList l its.toArray) (hIA : IntsAre its (ss ++ [e])) (hss : ∀ z ∈ ss, z ≠ 0 ∧ z ≠ 127) (hs0 : ss ≠ []) (he : e = 0 ∨ e = 127) (hN : ss.length < NN)
    (hend : ∀ n s₀ s c, GRet g₀ C l NN (sigma ss e) n s₀ (.ok (.ret .none)) s → Seg (model PySem.Challenge.rw_zr0004_01.row.prog w) A (GRet g₀ C l NN (sigma ss e)) (GProto g₀ C l NN (sigma ss e)) n s₀ c (.pure (.done (.ret .none))) fs s) :
    ∀ n i, n + i = NN → i ≤ ss.length → ∀ (s₀ s : Shared) (I : Addr) (oI : Obj) (lv : Value) (u : Option Value) (m₀ : Str → Option Value) rest,
      SC g₀ C l s₀ s (fun y => if y = Str.ofString "last_interval" then some lv else if y = Str.ofString "interval" then u else m₀ y) [(I, oI)] rest → oI.cls = .type "list_iterator" → oI.data = .fields #[.ref l, .int (i : Int) 0] →
      ((i = 0 ∧ lv = .none) ∨ ∃ z t, ss[i - 1]? = some z ∧ lv = .int z t ∧ 0 < i) →
      Seg (model PySem.Challenge.rw_zr0004_01.row.prog w) A (GRet g₀ C l NN (sigma ss e)) (GProto g₀ C l NN (sigma ss e)) n s₀ (.forLoop target (.ref I) body [] (envX (Str.ofString "_grouping_intervals") sc C 21 (.ref 20) []))
        ((model PySem.Challenge.rw_zr0004_01.row.prog w).den (.forLoop target (.ref I) body [] (envX (Str.ofString "_grouping_intervals") sc C 21 (.ref 20) []))) fs s := by
  cases hg
  revert X; k_fill; intro X
  intro n
  induction n with
  | zero => intro i h1 h2; omega
  | succ n ih =>
    intro i hi1 hi2 s₀ s I oI lv u m₀ rest x hc hd hlv
    obtain ⟨h₁, tk₁, rfl⟩ := x.st
    have F := x.F
    have N := x.N
    have hne : ∀ p ∈ rest, p.1 ≠ I := fun p hp e' => by
      have a1 := (N (I, oI) (.head _)).1
      have a2 := (N p (List.mem_append_right _ hp)).1
      rw [e', a1] at a2
      exact x.off p hp (Option.some.inj a2 ▸ x.iter _ (.head _))
    have hlen : its.length = ss.length + 1 := by rw [hIA.length, List.length_append]; rfl
    obtain ⟨z, hz⟩ : ∃ z, (ss ++ [e])[i]? = some z := ⟨_, List.getElem?_eq_getElem (by rw [List.length_append]; simp; omega)⟩
    obtain ⟨tz, hv⟩ := hIA.get i z hz
    refine seg_forLoop (fun _ => rfl) ?_
    refine next_list F N hc hd (stays_list F.keep hl) hne (by simpa using hv) fun h' o' F' N' hc' hd' => ?_
    dsimp only
    refine wpAny_assign_Name ?_
    refine storeX_L F' N' fun h2 F2 N2 => ?_
    have x2 := x.go (tk := tk₁ + 1) (ledI' := [(I, o')]) F2 N2 (fun p hp => by rw [List.mem_singleton.mp hp]; exact ⟨hc', _, hd'⟩)
    refine seg_execs_cons (seg_If ?_)
    have F3 := x2.F
    have N3 := x2.N
    clear F N F' N' F2 N2
    k_steps
    by_cases hik : i < ss.length
    · have hz' : ss[i]? = some z := by rw [List.getElem?_append_left hik] at hz; exact hz
      obtain ⟨z0, z1⟩ := hss z (List.mem_of_getElem? hz')
      refine Way.f (by simp [z1]) (seg_execs_nil ?_)
      refine seg_execs_cons (seg_If ?_)
      k_steps
      refine Way.f (by simp [z0]) (seg_execs_nil ?_)
      refine seg_execs_cons (seg_Expr_Yield hfs rfl hfg ?_ rfl rfl)
      refine nameX_L x2.F rfl (fun kap hkap => ?_) rfl rfl
      obtain ⟨own, ho, hC, hnext⟩ := x2.own
      refine ⟨z, tz, _, _, own, ?_, rfl, rfl, x2.step, ho, hC, fun hn0 s'' hs => hkap .none s'' ?_⟩
      · rw [show NN - 1 - n = i by omega, sigma_at hik]; exact hz'
      · obtain ⟨rest', x'⟩ := hnext s'' hs
        have F5 := x'.F
        have N5 := x'.N
        clear F3 N3
        refine seg_execs_cons (seg_exec ?_)
        k_steps
        (rename Fr _ _ _ _ => F6)
        (rename News _ _ _ _ => N6)
        refine seg_execs_nil (seg_again rfl ?_)
        rw [gm2] at F6
        exact ih (i + 1) (by omega) (by omega) _ _ I o' _ _ _ _ (x'.go F6 N6 x'.iter) hc' hd' (.inr ⟨z, tz, by rw [Nat.add_sub_cancel]; exact hz', rfl, Nat.succ_pos _⟩)
    · have hie : i = ss.length := by omega
      subst hie
      have hze : z = e := by
        rw [List.getElem?_append_right (Nat.le_refl _), Nat.sub_self] at hz
        exact (Option.some.inj hz).symm
      subst hze
      rcases he with he | he
      · subst he
        have hpos : 0 < ss.length := List.length_pos_iff.mpr hs0
        rcases hlv with ⟨h0, _⟩ | ⟨zl, tl, hzl, rfl, _⟩
        · omega
        have hgl : ss.getLast? = some zl := by rw [List.getLast?_eq_getElem?]; exact hzl
        refine Way.f rfl (seg_execs_nil ?_)
        refine seg_execs_cons (seg_If ?_)
        k_steps
        refine Way.t rfl (seg_execs_cons (seg_If ?_))
        k_steps
        refine Way.f rfl (seg_execs_nil ?_)
        refine seg_execs_cons (seg_While' fun p' => ?_)
        refine ph_while (z := zl) (t := tl) rfl rfl rfl rfl rfl ?_ ?_ ?_ (n + 1) (Nat.succ_pos _) (fun j hj => ?_) (by omega) s₀ _ rest (x2.go x2.F x2.N x2.iter)
        · rw [splitAtGen_ret, hfs]; rfl
        · simp [hfg, Frame.guarded]
        · rfl
        · rw [sigma_last (by omega)]; exact hgl
      · subst he
        refine Way.t rfl (seg_execs_cons (seg_exec (wpAny_Return_none ?_)))
        refine hend _ _ _ _ ⟨rfl, ?_, _, _, rfl, x2.step, x2.F.keep⟩
        rw [show NN - (n + 1) = ss.length by omega]
        exact sigma_end (Nat.le_refl _) (by decide)
end
end Mine

/-! part Gen5 -/

namespace Mine
section
variable {w : World} {p : Program} {loose : List Str} {mean : ExcName → Option Value} {mg mb : Str → Option Value} {A : Around} {g₀ : Heap} {C l : Addr} {NN : Nat}

/-- the generator's state goes on for n resumptions, whatever else has changed meanwhile -/
def GenOk (w : World) (A : Around) (g₀ : Heap) (C l : Addr) (NN : Nat) (σ : Nat → Option Int) (n : Nat) (gs : GenState) (own : List (Addr × Obj)) : Prop :=
  ∀ s : Shared, GOwn g₀ C l own s.heap → gs.Goes (model PySem.Challenge.rw_zr0004_01.row.prog w) A (GRet g₀ C l NN σ) (GProto g₀ C l NN σ) n (.send .none) s

theorem gen_seg {fd : FuncData} (hg : fnIn (hd.heap_39 w.params) 21 = some fd) {body : List Stmt} (hbd : fd.body = .stmts body) (X : (hd.heap_39 w.params).In g₀) (T : Top p loose mean mg mb g₀)
    {its : List Value} {ss : List Int} {e : Int} (hl : g₀.IsList l its.toArray) (hIA : IntsAre its (ss ++ [e])) (hss : ∀ z ∈ ss, z ≠ 0 ∧ z ≠ 127) (hs0 : ss ≠ []) (he : e = 0 ∨ e = 127) (hN : ss.length < NN)
    {s : Shared} {m : Str → Option Value} (F : Fr g₀ C s.heap m) (hm : m (Str.ofString "grouping") = some (.ref l)) :
    Seg (model PySem.Challenge.rw_zr0004_01.row.prog w) A (GRet g₀ C l NN (sigma ss e)) (GProto g₀ C l NN (sigma ss e)) NN s (.func body (envX (Str.ofString "_grouping_intervals") fd.scope C 21 (.ref 20) []))
      ((model PySem.Challenge.rw_zr0004_01.row.prog w).den (.func body (envX (Str.ofString "_grouping_intervals") fd.scope C 21 (.ref 20) []))) [] s := by
  obtain ⟨rest, x⟩ := sc_start (l := l) F (News.nil) (fun _ h => nomatch h)
  cases hg
  cases hbd
  revert X; k_fill; intro X
  refine seg_func (seg_execs_cons (seg_exec ?_))
  have F1 := x.F
  have N1 := x.N
  rw [List.nil_append] at N1
  clear F
  k_steps
  (rename Fr _ _ _ _ => F6)
  (rename News _ _ _ _ => N6)
  refine seg_execs_cons (seg_For (fun _ => rfl) ?_)
  refine nameX_L F6 (show (if Str.ofString "grouping" = Str.ofString "last_interval" then _ else m (Str.ofString "grouping")) = _ from (if_neg (by decide)).trans hm) ?_ rfl rfl
  refine iter_list F6 N6 (stays_list F6.keep hl) fun I o h' F7 N7 hc hd hlt p' => ?_
  refine ph_for (m₀ := m) (fs := [_]) rfl X T rfl rfl hl hIA hss hs0 he hN (fun n s₀ s c hr => ?_) NN 0 rfl (Nat.zero_le _) s _ I o .none (m (Str.ofString "interval")) rest ?_ hc hd (.inl ⟨rfl, rfl⟩)
  · refine seg_done ?_
    exact seg_end (.ok (.ret .none)) hr
  · have em : (fun y => if y = Str.ofString "last_interval" then some Value.none else if y = Str.ofString "interval" then m (Str.ofString "interval") else m y) = fun y => if y = Str.ofString "last_interval" then some Value.none else m y := by
      funext y; by_cases h1 : y = Str.ofString "last_interval"
      · simp only [if_pos h1]
      · by_cases h2 : y = Str.ofString "interval"
        · rw [if_neg h1, if_neg h1, if_pos h2, h2]
        · simp only [if_neg h1, if_neg h2]
    rw [em]
    exact x.go F7 (ledI' := [(I, o)]) N7 (fun q hq => by rw [List.mem_singleton.mp hq]; exact ⟨hc, _, hd⟩)
end

/-- a generator's object -/
def genObj (g : Nat) (t1 t2 : Tok) : Obj := { cls := .type "generator", data := .fields #[.int g 0, .str (Str.ofString "_grouping_intervals") t1, .str (Str.ofString "_grouping_intervals") t2] }

section
variable {w : World} {p : Program} {loose : List Str} {mean : ExcName → Option Value} {mg mb : Str → Option Value} {dp un : Nat} {gd : Option (List Code)} {cn : Str} {cs : Scope} {a : Addr} {ccd : Value} {cl : List (Str × Addr)} {outer : List Env} {A₀ : Around} {base h₀ : Heap} {L : Addr} {m : Str → Option Value} {led nw tb : List (Addr × Obj)} {s : Shared} {Q E : Value → Shared → Prop}

theorem spec_gen {l : Addr} {its : List Value} {ss : List Int} {e : Int} {NN : Nat}
    (F : Fr h₀ L s.heap m) (X : (hd.heap_39 w.params).In h₀) (N : News h₀ L s.heap led) (T : Top p loose mean mg mb h₀) (hd1 : dp + 5 < recursionLimit)
    (hl : h₀.IsList l its.toArray) (hIA : IntsAre its (ss ++ [e])) (hss : ∀ z ∈ ss, z ≠ 0 ∧ z ≠ 127) (hs0 : ss ≠ []) (he : e = 0 ∨ e = 127) (hN : ss.length < NN)
    (ret : ∀ (h' : Heap) (tk' : Nat) (C G : Addr) (oC : Obj) (t1 t2 : Tok) (gs : GenState), Fr h₀ L h' m → News h₀ L h' ((G, genObj s.gens.size t1 t2) :: (C, oC) :: led) → (∃ es ep, oC.data = .dict es ep) → C ≠ L → (∀ p ∈ led, p.1 < C) → C < G → gs.bare = true →
      (∀ A, GenOk w A h₀ C l NN (sigma ss e) NN gs [(C, oC)]) → Q (.ref G) { s with heap := h', toks := tk', gens := s.gens.push gs }) :
    wpAny (model PySem.Challenge.rw_zr0004_01.row.prog w) (ktrTop dp un gd cn cs L a ccd cl outer) (call (.ref 21) [.ref l]) Q E s := by
  obtain ⟨fd, hfd⟩ : ∃ fd, fnIn (hd.heap_39 w.params) 21 = some fd := ⟨_, rfl⟩
  have h21 : ∃ o body, s.heap.get? 21 = some o ∧ o.data = .func fd ∧ fd.scope.isCoroutine = false ∧ fd.scope.isGenerator = true ∧ fd.body = .stmts body ∧ codeIn (hd.heap_39 w.params) fd.code fd.qualname = true ∧ (∀ x ∈ fd.scope.names, x.2 ≠ .cell) ∧
      fd.scope.kind = .function ∧ bindArgs fd ⟨[.ref l], []⟩ = pure [(Str.ofString "grouping", .ref l)] ∧ fd.scope.names.lookup (Str.ofString "grouping") = some .local ∧ fd.name = Str.ofString "_grouping_intervals" ∧ fd.qualname = Str.ofString "_grouping_intervals" ∧
      ∀ C, newEnv fd.scope C fd.globals fd.closure (fd.qualname ++ ".<locals>.") (some 21) fd.code none fd.builtins = envX (Str.ofString "_grouping_intervals") fd.scope C 21 (.ref 20) [] := by
    cases hfd
    exact ⟨_, _, F.keep _ _ (X 21 _ rfl), rfl, rfl, rfl, rfl, rfl, by decide, rfl, rfl, rfl, rfl, rfl, fun _ => rfl⟩
  obtain ⟨o, body, ho, hfo, hco, hgen, hbd, hcode, hcell, hkind, hbind, hloc, hnm, hqn, henv⟩ := h21
  refine wpAny_call (codeAny_call_generator (fd := fd) (body := body) (show dp < recursionLimit by omega) ho hfo hco hgen hbd (codeRec_of (X.keeps F.keep) hcode) ?_)
  refine (BindsTo.of_eq hbind) _ _ _ _ (wpAny_newFunctionEnv hcell (fun x hx => by rw [List.mem_singleton.mp hx]; exact hloc) (fun h₁ hns hsb => ?_) hkind)
  rw [henv, hnm, hqn]
  have hLs : L < s.heap.objs.size := F.ns.lt
  have hle : h₀.objs.size ≤ s.heap.objs.size := Nat.le_of_lt (Nat.lt_of_le_of_lt F.above hLs)
  have hC0 : h₀.get? s.heap.objs.size = none := Heap.get?_none_of_le hle
  have F1 : Fr h₀ L h₁ m := (F.push _).change hsb (Nat.ne_of_gt hLs) hC0
  have N1 : News h₀ L h₁ led := fun q hq => by
    have n := N q hq
    exact ⟨(hsb.2 _ (Nat.ne_of_lt (Heap.lt_size n.1))).trans (Heap.get?_push_of_some _ n.1), n.2⟩
  obtain ⟨oC, es, ep, hoC, hdC, hkC, hfC⟩ := hns
  have N2 : News h₀ L h₁ ((s.heap.objs.size, oC) :: led) := fun q hq => by
    rcases List.mem_cons.mp hq with rfl | hq
    · exact ⟨hoC, Nat.ne_of_gt hLs, hC0⟩
    · exact N1 q hq
  refine ⟨T.nolimit.keeps F1.keep, ?_⟩
  refine ret _ _ s.heap.objs.size h₁.objs.size oC _ _ _ (F1.push _) (News.push F1 N2 _) ⟨es, ep, hdC⟩ (Nat.ne_of_gt hLs) (fun q hq => Heap.lt_size (N q hq).1) (Heap.lt_size hoC) rfl fun A s' hs => ⟨rfl, ?_⟩
  exact gen_seg hfd hbd X T hl hIA hss hs0 he hN ⟨⟨oC, es, ep, (hs.2 _ (.head _)).1, hdC, hkC, hfC⟩, hs.1, hle⟩ rfl

theorem gens_set {gs : Array GenState} {g : Nat} {x y : GenState} (h : AllBare gs) (hy : y.bare = true) : AllBare ((gs.setIfInBounds g x).setIfInBounds g y) := fun z hz => by
  rw [Array.setIfInBounds_setIfInBounds] at hz
  rcases Array.mem_or_eq_of_mem_setIfInBounds hz with hz | rfl
  · exact h z hz
  · exact hy

/-- one item is drawn out of the generator -/
theorem pull {A : Around} {C l G : Addr} {NN n g : Nat} {σ : Nat → Option Int} {t1 t2 : Tok} {gs : GenState} {own : List (Addr × Obj)} {Q : Option Value → Shared → Prop} (hh : A.handled = none) (hlim : s.heap.NoLimit) (hroom : A.depth < recursionLimit)
    (F : Fr h₀ L s.heap m) (N : News h₀ L s.heap (own ++ led)) (hown : ∀ q ∈ own, OwnK C l q) (hLC : C ≠ L) (hled : ∀ q ∈ led, q.1 ≠ C ∧ ¬ IterOn l q.2) (hG : (G, genObj g t1 t2) ∈ led) (hgs : s.gens[g]? = some gs) (hb : AllBare s.gens) (hn : 0 < n)
    (ok : GenOk w A.in1 h₀ C l NN σ n gs own)
    (hY : ∀ z t h tk own' gs' gens', σ (NN - n) = some z → Fr h₀ L h m → News h₀ L h (own' ++ led) → (∀ q ∈ own', OwnK C l q) → (∃ o, (C, o) ∈ own') → gens'[g]? = some gs' → AllBare gens' → (0 < n - 1 → GenOk w A.in1 h₀ C l NN σ (n - 1) gs' own') → Q (some (.int z t)) { s with heap := h, toks := tk, gens := gens' })
    (hR : ∀ h tk gens', σ (NN - n) = none → Fr h₀ L h m → News h₀ L h led → AllBare gens' → Q none { s with heap := h, toks := tk, gens := gens' }) :
    wpAny (model PySem.Challenge.rw_zr0004_01.row.prog w) A (pyNext (.ref G)) Q E s := by
  obtain ⟨oL, esL, epL, hoL, hdL, hkL, hfL⟩ := F.ns
  have hLi : ¬ IterOn l oL := fun hi => by obtain ⟨_, i, hd⟩ := hi; rw [hdL] at hd; cases hd
  have old : GOwn h₀ C l own s.heap := ⟨F.keep, fun q hq => ⟨(N q (List.mem_append_left _ hq)).1, (N q (List.mem_append_left _ hq)).2.2, hown q hq⟩⟩
  have hgi : s.heap.IsGen G g := ⟨_, _, _, (N _ (List.mem_append_right _ hG)).1, rfl, rfl, rfl⟩
  have frame : ∀ h, GStep C l s.heap h → (∀ b o, h₀.get? b = some o → h.get? b = some o) → Fr h₀ L h m ∧ News h₀ L h led := fun h st k =>
    ⟨⟨⟨oL, esL, epL, st _ _ hLC.symm hLi hoL, hdL, hkL, hfL⟩, k, F.above⟩, fun q hq => ⟨st _ _ (hled q hq).1 (hled q hq).2 (N q (List.mem_append_right _ hq)).1, (N q (List.mem_append_right _ hq)).2⟩⟩
  have hsz : g < s.gens.size := (Array.getElem?_eq_some_iff.mp hgs).1
  refine next_gen hh hlim hroom hgi hgs (ok _ old) (fun v s₁ gs' hbare hy => ?_) (fun s₁ hf h' hk' => ?_)
  · obtain ⟨z, t, h, tk, own', hz, rfl, rfl, hst, hgo, ⟨oC, hoC⟩, hkap⟩ := hy
    obtain ⟨F', N'⟩ := frame h hst hgo.1
    rw [show NN - 1 - (n - 1) = NN - n by omega] at hz
    refine hY z t h tk own' gs' _ hz F' (fun q hq => ?_) (fun q hq => (hgo.2 q hq).2.2) ⟨oC, hoC⟩ ?_ (gens_set hb hbare) (fun hn0 s'' hs => ?_)
    · rcases List.mem_append.mp hq with hq | hq
      · refine ⟨(hgo.2 q hq).1, fun e => ?_, (hgo.2 q hq).2.1⟩
        rcases (hgo.2 q hq).2.2 with ⟨h1, _⟩ | h1
        · exact hLC (h1.symm.trans e)
        · have h2 := (hgo.2 q hq).1
          obtain ⟨o', es', ep', ho', hd', _⟩ := F'.ns
          obtain ⟨_, i, hi⟩ := h1
          rw [e, ho'] at h2
          rw [← Option.some.inj h2, hd'] at hi
          cases hi
      · exact N' q hq
    · exact setGen_self (gs := .running) (setGen_self hgs)
    · obtain ⟨k, rfl⟩ : ∃ k, n = k + 1 := ⟨n - 1, by omega⟩
      exact hkap hn0 s'' hs
  · obtain ⟨hz, h, tk, rfl, hst, hk⟩ := hf
    obtain ⟨F', N'⟩ := frame h' (fun b o hb ho e => hk' _ _ (hst b o hb ho e)) fun b o e => hk' _ _ (hk b o e)
    exact hR h' _ _ hz F' N' (gens_set hb rfl)
end
end Mine

/-! part P2 -/
namespace Mine

/-- the groups that a rule's sizes cut off, and what is left -/
def grp (σ : Nat → Option Int) : Nat → Nat → Int → List (Int × Int) × Int
  | 0, _, x => ([], x)
  | f + 1, j, x => match σ j with
    | none => ([], x)
    | some z => if x = 0 then ([], x) else ((x % 10 ^ z.toNat, z) :: (grp σ f (j + 1) (x / 10 ^ z.toNat)).1, (grp σ f (j + 1) (x / 10 ^ z.toNat)).2)

theorem pow10_pos (n : Nat) : (0 : Int) < 10 ^ n := Int.pow_pos (by decide)
theorem pow10_mono {a b : Nat} (h : a ≤ b) : (10 : Int) ^ a ≤ 10 ^ b := by
  have e : ∀ n : Nat, ((10 ^ n : Nat) : Int) = 10 ^ n := fun n => by simp
  rw [← e, ← e]; exact Int.ofNat_le.mpr (Nat.pow_le_pow_right (by decide) h)

theorem grp_none {σ : Nat → Option Int} {f j : Nat} {x : Int} (h : σ j = none) : grp σ f j x = ([], x) := by
  cases f with
  | zero => rfl
  | succ f => rw [grp, h]
theorem grp_zero {σ : Nat → Option Int} {f j : Nat} : grp σ f j 0 = ([], 0) := by
  cases f with
  | zero => rfl
  | succ f =>
    rw [grp]
    split
    · rfl
    · rw [if_pos rfl]
theorem grp_some {σ : Nat → Option Int} {f j : Nat} {x z : Int} (h : σ j = some z) (hx : x ≠ 0) :
    grp σ (f + 1) j x = ((x % 10 ^ z.toNat, z) :: (grp σ f (j + 1) (x / 10 ^ z.toNat)).1, (grp σ f (j + 1) (x / 10 ^ z.toNat)).2) := by
  rw [grp, h]; simp only; rw [if_neg hx]

/-- a turn of the cutting -/
theorem cut_facts {x y z : Int} {i : Nat} (hx : 0 ≤ x) (hz1 : 1 ≤ z) (hz4 : z ≤ 4) (h : x * 10 ^ i ≤ y) : 0 ≤ x / 10 ^ z.toNat ∧ x / 10 ^ z.toNat * 10 ^ (i + 1) ≤ y ∧ x / 10 ^ z.toNat ≤ x ∧ 0 < (10 : Int) ^ z.toNat ∧ (10 : Int) ^ z.toNat ≤ 10000 := by
  have hp := pow10_pos z.toNat
  have hi := pow10_pos i
  have h0 : 0 ≤ x / 10 ^ z.toNat := Int.ediv_nonneg hx (by omega)
  have h1 : (10 : Int) ≤ 10 ^ z.toNat := by
    have := pow10_mono (a := 1) (b := z.toNat) (by omega)
    simpa using this
  have h2 : (10 : Int) ^ z.toNat ≤ 10 ^ 4 := pow10_mono (by omega)
  have h3 : x / 10 ^ z.toNat * 10 ^ z.toNat ≤ x := Int.ediv_mul_le _ (by omega)
  have h4 : x / 10 ^ z.toNat * 10 ≤ x / 10 ^ z.toNat * 10 ^ z.toNat := Int.mul_le_mul_of_nonneg_left h1 h0
  refine ⟨h0, ?_, by omega, hp, by simpa using h2⟩
  have h5 : x / 10 ^ z.toNat * 10 * 10 ^ i ≤ x * 10 ^ i := Int.mul_le_mul_of_nonneg_right (by omega) (by omega)
  rw [Int.pow_succ, Int.mul_comm ((10 : Int) ^ i) 10, ← Int.mul_assoc]
  omega

theorem few_cuts {x y : Int} {i : Nat} (hx : 0 ≤ x) (hx0 : x ≠ 0) (h : x * 10 ^ i ≤ y) (hy : y < 10 ^ 58) : i < 58 := by
  rcases Nat.lt_or_ge i 58 with h1 | h1
  · exact h1
  · exfalso
    have h2 := pow10_mono h1
    have h3 : 1 * (10 : Int) ^ i ≤ x * 10 ^ i := Int.mul_le_mul_of_nonneg_right (by omega) (Int.le_of_lt (pow10_pos i))
    rw [Int.one_mul] at h3
    generalize (10 : Int) ^ 58 = c at *
    omega
theorem bits_le_of_le {x y : Int} (h0 : 0 ≤ x) (h : x ≤ y) {b : Nat} (hy : y < 2 ^ b) : Builtin.Int.intBits x ≤ b := bits_le h0 (Int.lt_of_le_of_lt h hy)
end Mine

/-! part D4 -/

namespace Mine
theorem ne_of_allLt {d : Addr} {l : List (Addr × Obj)} (h : AllLt d l) : ∀ p ∈ l, p.1 ≠ d := by
  induction l with
  | nil => intro p hp; cases hp
  | cons a l ih =>
    intro p hp
    rcases List.mem_cons.mp hp with rfl | hp
    · exact Nat.ne_of_lt h.1
    · exact ih h.2 p hp
theorem news_ne {h₀ h : Heap} {L a b : Addr} {o1 o2 : Obj} {led : List (Addr × Obj)} (N : News h₀ L h led) (h1 : (a, o1) ∈ led) (h2 : (b, o2) ∈ led) (ne : o1 ≠ o2) : a ≠ b := fun e => by
  have e1 := (N _ h1).1
  have e2 := (N _ h2).1
  dsimp only at e1 e2
  rw [e, e2] at e1
  exact ne (Option.some.inj e1).symm
local macro_rules | `(tactic| k_ne) => `(tactic| first | (refine neN ?_; (try dsimp only); omega) | (refine' news_ne ?nN ?n1 ?n2 ?n3; (case nN => with_reducible assumption); (case n1 => k_mem); (case n2 => k_mem); (case n3 => (intro e9; (have e8 := congrArg Obj.cls e9); simp at e8))))
def Hold (p : Prop) : Prop := p
theorem hold_of {p : Prop} (h : Hold p) : p := h
local macro_rules | `(tactic| walk_at "call ref") => `(tactic| (plain_pass; k_here; with_reducible refine hold_of ?_))
local macro_rules | `(tactic| k_all) => `(tactic| (refine' tb_ne ?tN ?tm ?ts ?tK ?tn; (case tK => with_reducible assumption); (case tN => with_reducible assumption); (case tm => k_mem); (case ts => (intro p hp; repeat' (first | exact hp | refine List.Mem.tail _ ?_))); (case tn => first | exact notTab_cell (by assumption) | exact (notTab_lit rfl))))
-- the ledger's tables, found (hook: ktr_rel)
local macro_rules | `(tactic| ktr_rel) => `(tactic| repeat' (first | exact Led.tail | refine' Led.cons (notTab_lit rfl) ?_ | refine' Led.cons (notTab_cell (by assumption)) ?_ | refine' Led.cons (notTab_iter (by assumption) (by assumption)) ?_))
local macro_rules | `(tactic| walk_at "call ref") => `(tactic| (k_here; k_dflt (refine' spec_int2digits ?B ?F ?X ?N ?hl ?hK ?T ?hk ?hd1 ?hx ?hb ?hk0 ?hk2 ?_; (case hK => assumption); (case B => k_asm); (case F => k_asm); (case X => k_asm); (case N => k_asm); (case hl => ktr_rel); (case T => k_asm); (case hk => exact rfl); (case hd1 => ktr_room); (case hx => first | assumption | omega); (case hb => first | assumption | omega); (case hk0 => first | assumption | omega); (case hk2 => first | assumption | omega)); intro h9 tk9 l9 its9 tb9 F9 N9 K9 S9 I9; (try simp only [List.cons_append, List.nil_append] at N9); (try dsimp only); (try k_fold)))
local macro_rules | `(tactic| walk_at "exec For Name Call cons nil") => `(tactic| (k_here; k_dflt (refine' for_at ?_ ?hs; (case hs => (intro _; rfl)))))
local macro_rules | `(tactic| walk_at "pyIter ref") => `(tactic| (k_here; k_dflt (refine' iter_rev ?N ?m ?_; (case N => k_asm); (case m => k_mem); k_whole)))
local macro_rules | `(tactic| walk_at "call ref") => `(tactic| (k_here; k_dflt (refine' spec_div2n1n ?B ?F ?X ?N ?hl ?hK ?T ?hk ?hd1 ?hb ?hy ?hy2 ?_; (case hK => assumption); (case B => k_asm); (case F => k_asm); (case X => k_asm); (case N => k_asm); (case hl => ktr_rel); (case T => k_asm); (case hk => exact rfl); (case hd1 => ktr_room); (case hb => first | assumption | omega); (case hy => first | assumption | omega); (case hy2 => first | assumption | omega)); intro h9 tk9 l9 t9 u9 tb9 F9 N9 K9 S9; (try simp only [List.cons_append, List.nil_append] at N9); (try dsimp only); (try k_fold)))
local macro_rules | `(tactic| walk_at "call builtin:list.append") => `(tactic| (k_here; (with_reducible show wpAny _ _ (call (Value.builtin _) [Value.ref _, _]) _ _ _); k_dflt (refine' append_K ?k1 ?k2 ?k3 ?_ ?z; (case k1 => k_asm); (case k2 => k_asm); (case k3 => k_upd); (case z => (rw [sizeLine_eq]; (try simp only [List.size_toArray]); omega)); k_whole); intro h' F' N'; (try k_sweep)))
theorem my_reverse {prog : Program} {w : World} {A : Around} {E : Value → Shared → Prop} {s : Shared} {h₀ : Heap} {L D : Addr} {m : Str → Option Value} {news news' : List (Addr × Obj)} {its : List Value} {n : Nat} {Q : Value → Shared → Prop} (F : Fr h₀ L s.heap m) (N : News h₀ L s.heap news)
    (U : Upd D (listOf its.toArray n) (listOf its.reverse.toArray n) news news') (hz : its.length ≤ 200) (h : ∀ h', Fr h₀ L h' m → News h₀ L h' news' → Q .none { s with heap := h' }) : wpAny (model prog w) A (call (.builtin "list.reverse") [.ref D]) Q E s :=
  kl_reverse F N (l := its.reverse) (by simp) U (by rw [sizeLine_eq]; simp; omega) h
local macro_rules | `(tactic| walk_at "call builtin:list.reverse") => `(tactic| (k_here; (with_reducible show wpAny _ _ (call (Value.builtin _) [Value.ref _]) _ _ _); k_dflt (refine' my_reverse ?F ?N ?U ?z ?_; (case F => k_asm); (case N => k_asm); (case U => k_upd); (case z => assumption); k_whole); intro h' F' N'; (try k_sweep)))
local macro_rules | `(tactic| walk_at "call ref") => `(tactic| (k_here; k_dflt (refine' spec_digits2int ?B ?F ?X ?N ?hl ?hK ?T ?hk ?hd1 ?hD ?hIA ?hDD ?hlen ?hk0 ?hk2 ?_; (case hK => assumption); (case B => k_asm); (case F => k_asm); (case X => k_asm); (case N => k_asm); (case hl => ktr_rel); (case T => k_asm); (case hk => exact rfl); (case hd1 => ktr_room); (case hD => k_mem); (case hIA => assumption); (case hDD => assumption); (case hlen => first | assumption | omega); (case hk0 => first | assumption | omega); (case hk2 => first | assumption | omega)); intro h9 tk9 t9 tb9 F9 N9 K9 S9; (try simp only [List.cons_append, List.nil_append] at N9); (try dsimp only); (try k_fold)))
local macro_rules | `(tactic| walk_at "binaryOp LShift int int") => `(tactic| (k_here; (with_reducible refine lshift_int ?kbn ?kbs ?_); (case kbn => with_reducible assumption); (case kbs => with_reducible assumption)))

/-- the long division's state: i digits taken -/
def DmJ (x y : Int) (k q : Nat) (D lq l9 : Addr) (its9 : List Value) (m₀ : Str → Option Value) (i : Nat) (m : Str → Option Value) (led : List (Addr × Obj)) : Prop :=
  ∃ r tr qs qits nn u1 u2 o tb', m = (fun z => if z = Str.ofString "r" then some (Value.int r tr) else if z = Str.ofString "q_digit" then u1 else if z = Str.ofString "a_digit" then u2 else m₀ z) ∧
    led = (D, o) :: (lq, listOf (List.toArray qits) nn) :: (l9, listOf its9.toArray 0) :: tb' ∧ o.cls = .type "list_reverseiterator" ∧ o.data = .fields #[.ref l9, rawInt ((q : Int) - 1 - (i : Int))] ∧ IntsAre qits qs ∧ qs.length = i ∧ TabsIn tb' ∧
    (∀ p ∈ tb', p.1 ≠ D) ∧ r = x / 2 ^ (k * (q - i)) % y ∧ undig k qs.reverse = x / 2 ^ (k * (q - i)) / y ∧ ∀ d ∈ qs, 0 ≤ d ∧ d < 2 ^ k
theorem dmj_mk {x y : Int} {k q : Nat} {D lq l9 : Addr} {its9 : List Value} {m₀ : Str → Option Value} {i : Nat} {m : Str → Option Value} {led : List (Addr × Obj)} {r : Int} {tr : Tok} {qs : List Int} {qits : List Value} {nn : Nat} {u1 u2 : Option Value} {o : Obj} {tb' : List (Addr × Obj)}
    (h1 : m = (fun z => if z = Str.ofString "r" then some (Value.int r tr) else if z = Str.ofString "q_digit" then u1 else if z = Str.ofString "a_digit" then u2 else m₀ z))
    (h2 : led = (D, o) :: (lq, listOf qits.toArray nn) :: (l9, listOf its9.toArray 0) :: tb') (h3 : o.cls = .type "list_reverseiterator") (h4 : o.data = .fields #[.ref l9, rawInt ((q : Int) - 1 - (i : Int))]) (h5 : IntsAre qits qs) (h6 : qs.length = i) (h7 : TabsIn tb')
    (h8 : ∀ p ∈ tb', p.1 ≠ D) (h9 : r = x / 2 ^ (k * (q - i)) % y) (h10 : undig k qs.reverse = x / 2 ^ (k * (q - i)) / y) (h11 : ∀ d ∈ qs, 0 ≤ d ∧ d < 2 ^ k) : DmJ x y k q D lq l9 its9 m₀ i m led :=
  ⟨r, tr, qs, qits, nn, u1, u2, o, tb', h1, h2, h3, h4, h5, h6, h7, h8, h9, h10, h11⟩

theorem dm_map0 {m₀ : Str → Option Value} {v : Option Value} (hr : m₀ (Str.ofString "r") = v) : m₀ = fun z => if z = Str.ofString "r" then v else if z = Str.ofString "q_digit" then m₀ (Str.ofString "q_digit") else if z = Str.ofString "a_digit" then m₀ (Str.ofString "a_digit") else m₀ z := by
  subst hr; funext z; (repeat' split) <;> first | rfl | (rename_i h; rw [h])
theorem dm_map1 {m₀ : Str → Option Value} {v1 v2 v3 w1 w2 w3 : Option Value} :
    (fun y => if y = Str.ofString "r" then v1 else if y = Str.ofString "q_digit" then v2 else if y = Str.ofString "a_digit" then v3 else (if y = Str.ofString "r" then w1 else if y = Str.ofString "q_digit" then w2 else if y = Str.ofString "a_digit" then w3 else m₀ y)) =
      fun z => if z = Str.ofString "r" then v1 else if z = Str.ofString "q_digit" then v2 else if z = Str.ofString "a_digit" then v3 else m₀ z := by
  funext y
  by_cases h1 : y = Str.ofString "r"
  · simp only [if_pos h1]
  · by_cases h2 : y = Str.ofString "q_digit"
    · simp only [if_neg h1, if_pos h2]
    · by_cases h3 : y = Str.ofString "a_digit"
      · simp only [if_neg h1, if_neg h2, if_pos h3]
      · simp only [if_neg h1, if_neg h2, if_neg h3]

section
variable {w : World} {p : Program} {loose : List Str} {mean : ExcName → Option Value} {mg mb : Str → Option Value} {dp un : Nat} {gd : Option (List Code)} {cn : Str} {cs : Scope} {a : Addr} {ccd : Value} {cl : List (Str × Addr)} {outer : List Env} {A₀ : Around} {base h₀ : Heap} {L : Addr} {m : Str → Option Value} {led nw tb : List (Addr × Obj)} {s : Shared} {Q E : Value → Shared → Prop}

theorem spec_divmod_pos {x y : Int} {tx ty : Tok}
    (B : Below A₀ base outer h₀) (F : Fr h₀ L s.heap m) (X : (hd.heap_39 w.params).In h₀) (N : News h₀ L s.heap led) (hl : Led tb led nw) (hK : TabsIn tb) (T : Top p loose mean mg mb h₀) (hk : cs.kind = .function)
    (hd1 : dp + 230 < recursionLimit) (hx : 0 ≤ x) (hb : (Builtin.Int.intBits x : Int) ≤ 190) (hy0 : 0 < y) (hy1 : y ≤ 10000)
    (ret : ∀ (h' : Heap) (tk' : Nat) (tup : Addr) (t1 t2 : Tok) (tb' : List (Addr × Obj)), Fr h₀ L h' m → News h₀ L h' ((tup, ({ cls := .type "tuple", data := .seq #[.int (x / y) t1, .int (x % y) t2] } : Obj)) :: (nw ++ tb')) → TabsIn tb' → Stp tb tb' s.heap h' → Q (.ref tup) { s with heap := h', toks := tk' }) :
    wpAny (model PySem.Challenge.rw_zr0004_01.row.prog w) (ktrTop dp un gd cn cs L a ccd cl outer) (call (.ref 56) [.int x tx, .int y ty]) Q E s := by
  have hk1 : 0 < (Builtin.Int.intBits y : Int) := by have := bits_pos (x := y) (by omega); omega
  have hk2 : (Builtin.Int.intBits y : Int) ≤ 14 := by have := bits_le (y := y) (b := 14) (by omega) (by omega); omega
  revert X; k_fill; intro X
  refine wpAny_call ?_
  k_dflt (refine' enterK (tb := tb) ?k1 ?k2 ?k3 ?k4 ?kL ?kT ?k5 ?kA ?kF ?kK ?k6 ?k7 ?k8 ?k9 ?kB ?_ ?c2 ?c3 ?c4 ?c5; (case kA => exact rfl); (case kF => exact rfl); (case kK => assumption); (case k1 => k_asm); (case k2 => k_asm); (case k3 => k_asm); (case k4 => k_asm); (case kL => k_asm); (case kT => k_asm); (case k5 => k_asm); (case k6 => k_is); (case k7 => k_is); (case k8 => ktr_room); (case k9 => exact BindsTo.of_eq rfl); (case c5 => decide); (case kB => exact locs rfl); (case c2 => exact rfl); (case c3 => exact rfl); (case c4 => exact rfl); k_whole)
  intro g' L' h' hkp FG' F' N' B' X' T' hlt
  (try dsimp only); (try k_fold)
  k_steps
  rename_i l9 its9 tb9 K9 S9 I9 hh4 tk4 hh3 lq hh2 ll1 hh1 D hh0 F1 N1 l1
  have hq0 := cdiv_facts (b := (Builtin.Int.intBits x : Int)) (k := (Builtin.Int.intBits y : Int)) (by omega) hk1
  obtain ⟨hq0, hq1, hq2, hq3, hq4⟩ := hq0
  rw [← hq3] at I9
  generalize hq : ((Builtin.Int.intBits x : Int) + (Builtin.Int.intBits y : Int) - 1).fdiv (Builtin.Int.intBits y : Int) = q at hq0 hq1 hq2 hq3 hq4 I9
  have hlen : its9.length = q.toNat := by rw [I9.length, digs_length]
  have hxq : x < 2 ^ (Builtin.Int.intBits y * q.toNat) := by
    refine Int.lt_of_lt_of_le (lt_bits hx) (pow_mono ?_)
    have e : ((Builtin.Int.intBits y * q.toNat : Nat) : Int) = (Builtin.Int.intBits y : Int) * q := by rw [Int.natCast_mul, Int.toNat_of_nonneg hq0]
    omega
  rw [Int.toNat_natCast] at I9
  generalize hK0 : Builtin.Int.intBits y = k at *
  refine for_fr F1 N1 q.toNat (DmJ x y k q.toNat D lq l9 its9) ?h0 ?turn ?done
  case h0 =>
    have hx0 : x / 2 ^ (k * (q.toNat - 0)) = 0 := by rw [Nat.sub_zero]; exact Int.ediv_eq_zero_of_lt hx hxq
    refine dmj_mk (qs := []) (qits := []) (dm_map0 rfl) rfl rfl ?_ .nil rfl K9 ?_ ?_ ?_ (fun _ h => nomatch h)
    · rw [← hlen]; simp [revObj]
    · (have l2 := l1.2.2); exact ne_of_allLt l2
    · rw [hx0]; simp
    · rw [hx0]; simp [undig]
  case turn =>
    rintro i m led h tk hi ⟨r, tr, qs, qits, nn, u1, u2, o, tb', rfl, rfl, hc, hd, hqs, hql, K', hne, hr, hu, hqd⟩ F N
    obtain ⟨j, hj⟩ : ∃ j, j + (i + 1) = q.toNat := ⟨q.toNat - (i + 1), by omega⟩
    have hgd := digs_get (k := k) (n := q.toNat) (x := x) (i := j) (by omega)
    obtain ⟨td, hits⟩ := I9.get j _ hgd
    rw [show q.toNat - i = j + 1 by omega] at hr hu
    have hX0 : 0 ≤ x / 2 ^ (k * (j + 1)) := Int.ediv_nonneg hx (Int.le_of_lt (pow_pos' _))
    have hd0 : 0 ≤ x / 2 ^ (k * j) % 2 ^ k := Int.emod_nonneg _ (Int.ne_of_gt (pow_pos' _))
    have hd1' : x / 2 ^ (k * j) % 2 ^ k < 2 ^ k := Int.emod_lt_of_pos _ (pow_pos' _)
    have htop := top_step x k j
    generalize x / 2 ^ (k * j) % 2 ^ k = d at hits hd0 hd1' htop
    obtain ⟨e1, e2, e3, e4⟩ := dm_step (k := k) hX0 hy0 hd0 hd1'
    rw [← htop, ← hr] at e1 e2
    rw [← hr] at e3 e4
    have hr0 : 0 ≤ r := by rw [hr]; exact Int.emod_nonneg _ (by omega)
    have hr1 : r < y := by rw [hr]; exact Int.emod_lt_of_pos _ hy0
    have f0 : (0 : Int) ≤ k := by omega
    have f4 : qits.length ≤ 200 := by have := hqs.length; omega
    have f1 : (Builtin.Int.intBits r : Int) + (k : Int) ≤ 2 ^ 27 := by
      have := bits_le (y := r) (b := 14) hr0 (by omega); omega
    have f2 : (Builtin.Int.intBits (r * 2 ^ ((k : Int)).toNat + d) : Int) - (k : Int) ≤ 4000 := by
      rw [Int.toNat_natCast]
      have h1 : (r + 1) * 2 ^ k ≤ 2 ^ 14 * 2 ^ k := Int.mul_le_mul_of_nonneg_right (by omega) (Int.le_of_lt (pow_pos' k))
      rw [Int.add_mul, Int.one_mul, ← Int.pow_add] at h1
      have h2 := bits_le (y := r * 2 ^ k + d) (b := 14 + k) (Int.add_nonneg (Int.mul_nonneg hr0 (Int.le_of_lt (pow_pos' k))) hd0) (by omega)
      omega
    have hne2 : ∀ p ∈ (lq, listOf qits.toArray nn) :: (l9, listOf its9.toArray 0) :: tb', p.1 ≠ D := List.forall_mem_cons.mpr ⟨Nat.ne_of_lt l1.1, List.forall_mem_cons.mpr ⟨Nat.ne_of_lt l1.2.1, hne⟩⟩
    rw [show (q.toNat : Int) - 1 - (i : Int) = (j : Int) by omega] at hd
    refine next_rev F N hc hd (.tail _ (.head _)) hne2 hits fun h' o' F' N' hc' hd' => ⟨_, rfl, turn_name ?_⟩
    (try dsimp only); (try k_fold)
    k_steps
    (rename News _ _ _ _ => N5)
    (rename Fr _ _ _ _ => F5)
    (rename TabsIn _ => K5)
    simp only [List.push_toArray] at N5
    rw [dm_map1] at F5
    have hj1 : q.toNat - (i + 1) = j := by omega
    have hfd : ∀ z : Int, z.fdiv y = z / y := fun z => Int.fdiv_eq_ediv_of_nonneg _ (by omega)
    have hfm : ∀ z : Int, z.fmod y = z % y := fun z => Int.fmod_eq_emod_of_nonneg _ (by omega)
    rw [Int.toNat_natCast, hfd, hfm] at F5
    rw [Int.toNat_natCast, hfd, hfm] at N5
    refine AtFr.intro F5 (fun p hp => N5 p (.tail _ hp)) (dmj_mk rfl rfl hc' ?_ (hqs.append (.cons _ _ .nil)) ?_ K5 ?_ ?_ ?_ ?_)
    · rw [show (q.toNat : Int) - 1 - ((i + 1 : Nat) : Int) = (j : Int) - 1 by omega]; exact hd'
    · rw [List.length_append, hql]; rfl
    · exact tb_ne N5 (.tail _ (.head _)) (fun p hp => .tail _ (.tail _ (.tail _ (.tail _ hp)))) K5 (notTab_iter hc' hd')
    · rw [hj1, e2]
    · rw [hj1, List.reverse_append, List.reverse_singleton, List.singleton_append, undig, hu, e1]
    · intro d' hd'
      rcases List.mem_append.mp hd' with hd' | hd'
      · exact hqd d' hd'
      · rw [List.mem_singleton.mp hd']; exact ⟨e3, e4⟩
  case done =>
    rintro m led h tk ⟨r, tr, qs, qits, nn, u1, u2, o, tb', rfl, rfl, hc, hd, hqs, hql, K', hne, hr, hu, hqd⟩ F N
    rw [Nat.sub_self, Nat.mul_zero, Int.pow_zero, Int.ediv_one] at hr hu
    have hne2 : ∀ p ∈ (lq, listOf qits.toArray nn) :: (l9, listOf its9.toArray 0) :: tb', p.1 ≠ D := List.forall_mem_cons.mpr ⟨Nat.ne_of_lt l1.1, List.forall_mem_cons.mpr ⟨Nat.ne_of_lt l1.2.1, hne⟩⟩
    rw [show (q.toNat : Int) - 1 - (q.toNat : Int) = -1 by omega] at hd
    have f4 : qits.length ≤ 200 := by have := hqs.length; omega
    have hIR := hqs.reverse
    have hDR : ∀ d ∈ qs.reverse, 0 ≤ d ∧ d < 2 ^ ((k : Int)).toNat := fun d hd => by rw [Int.toNat_natCast]; exact hqd d (List.mem_reverse.mp hd)
    have hLR : qs.reverse.length ≤ 200 := by rw [List.length_reverse]; omega
    refine done_rev rfl F N hc hd hne2 fun h' F' N' => ⟨rfl, ?_⟩
    (try dsimp only); (try k_fold)
    k_steps
    (rename News _ _ _ _ => N5)
    (rename TabsIn _ => K5)
    rw [Int.toNat_natCast, hu, hr] at N5
    show EndT _ _ _ _ _ _ _ _ _ _ _
    exact ⟨_, [_], _, by k_asm, news_hd N5 (fun p hp => by repeat' (first | exact hp | refine mem_tl ?_)), K5, fun F2 N2 hs => ret _ _ _ _ _ _ F2 N2 K5 hs⟩
end
end Mine

/-! part D5 -/

namespace Mine
section
local macro_rules | `(tactic| walk_at "call ref") => `(tactic| (plain_pass; k_here; with_reducible refine hold_of ?_))
local macro_rules | `(tactic| ktr_rel) => `(tactic| repeat' (first | exact Led.tail | refine' Led.cons (notTab_lit rfl) ?_ | refine' Led.cons (notTab_cell (by assumption)) ?_ | refine' Led.cons (notTab_iter (by assumption) (by assumption)) ?_))
local macro_rules | `(tactic| walk_at "ite") => `(tactic| (k_here; first | (with_reducible refine ieq_t ?_ ?_; first | with_reducible assumption | omega) | (with_reducible refine ieq_f ?_ ?_; first | with_reducible assumption | omega) | (with_reducible refine dec_f ?_ ?_; first | with_reducible assumption | omega)))
local macro_rules | `(tactic| walk_at "call ref") => `(tactic| (k_here; k_dflt (refine' spec_divmod_pos ?B ?F ?X ?N ?hl ?hK ?T ?hk ?hd1 ?hx ?hb ?hy0 ?hy1 ?_; (case hK => assumption); (case B => k_asm); (case F => k_asm); (case X => k_asm); (case N => k_asm); (case hl => ktr_rel); (case T => k_asm); (case hk => exact rfl); (case hd1 => ktr_room); (case hx => first | assumption | omega); (case hb => first | assumption | omega); (case hy0 => first | assumption | omega); (case hy1 => first | assumption | omega)); intro h9 tk9 l9 t9 u9 tb9 F9 N9 K9 S9; (try simp only [List.cons_append, List.nil_append] at N9); (try dsimp only); (try k_fold)))
variable {w : World} {p : Program} {loose : List Str} {mean : ExcName → Option Value} {mg mb : Str → Option Value} {dp un : Nat} {gd : Option (List Code)} {cn : Str} {cs : Scope} {a : Addr} {ccd : Value} {cl : List (Str × Addr)} {outer : List Env} {A₀ : Around} {base h₀ : Heap} {L : Addr} {m : Str → Option Value} {led nw tb : List (Addr × Obj)} {s : Shared} {Q E : Value → Shared → Prop}

theorem spec_int_divmod {x y : Int} {tx ty : Tok}
    (B : Below A₀ base outer h₀) (F : Fr h₀ L s.heap m) (X : (hd.heap_39 w.params).In h₀) (N : News h₀ L s.heap led) (hl : Led tb led nw) (hK : TabsIn tb) (T : Top p loose mean mg mb h₀) (hk : cs.kind = .function)
    (hd1 : dp + 235 < recursionLimit) (hx : 0 ≤ x) (hb : (Builtin.Int.intBits x : Int) ≤ 190) (hy0 : 0 < y) (hy1 : y ≤ 10000)
    (ret : ∀ (h' : Heap) (tk' : Nat) (tup : Addr) (t1 t2 : Tok) (tb' : List (Addr × Obj)), Fr h₀ L h' m → News h₀ L h' ((tup, ({ cls := .type "tuple", data := .seq #[.int (x / y) t1, .int (x % y) t2] } : Obj)) :: (nw ++ tb')) → TabsIn tb' → Stp tb tb' s.heap h' → Q (.ref tup) { s with heap := h', toks := tk' }) :
    wpAny (model PySem.Challenge.rw_zr0004_01.row.prog w) (ktrTop dp un gd cn cs L a ccd cl outer) (call (.ref 63) [.int x tx, .int y ty]) Q E s := by
  revert X; k_fill; intro X
  refine wpAny_call ?_
  k_dflt (refine' enterK (tb := tb) ?k1 ?k2 ?k3 ?k4 ?kL ?kT ?k5 ?kA ?kF ?kK ?k6 ?k7 ?k8 ?k9 ?kB ?_ ?c2 ?c3 ?c4 ?c5; (case kA => exact rfl); (case kF => exact rfl); (case kK => assumption); (case k1 => k_asm); (case k2 => k_asm); (case k3 => k_asm); (case k4 => k_asm); (case kL => k_asm); (case kT => k_asm); (case k5 => k_asm); (case k6 => k_is); (case k7 => k_is); (case k8 => ktr_room); (case k9 => exact BindsTo.of_eq rfl); (case c5 => decide); (case kB => exact locs rfl); (case c2 => exact rfl); (case c3 => exact rfl); (case c4 => exact rfl); k_whole)
  intro g' L' h' hkp FG' F' N' B' X' T' hlt
  (try dsimp only); (try k_fold)
  k_steps
  (rename News _ _ _ _ => N5)
  (rename TabsIn _ => K5)
  show EndT _ _ _ _ _ _ _ _ _ _ _
  exact ⟨_, [_], _, by k_asm, news_hd N5 (fun p hp => by repeat' (first | exact hp | refine mem_tl ?_)), K5, fun F2 N2 hs => ret _ _ _ _ _ _ F2 N2 K5 hs⟩
end
end Mine

/-! part D6 -/

namespace Mine

/-- no list: a tuple, or no sequence at all -/
def NL (o : Obj) : Prop := o.cls = .type "tuple" ∨ ∀ vs n, o.data ≠ .seq vs n

theorem nl_tab {o : Obj} (h : TabKind o) : NL o := .inr fun vs n e => by obtain ⟨fs, hd, _⟩ := h; rw [e] at hd; cases hd
theorem nl_own {C l : Addr} {q : Addr × Obj} (h : OwnK C l q) : NL q.2 := .inr fun vs n e => by
  rcases h with ⟨_, es, ep, hd⟩ | ⟨_, i, hd⟩
  · rw [e] at hd; cases hd
  · rw [e] at hd; cases hd
theorem notTab_own {C l : Addr} {q : Addr × Obj} (h : OwnK C l q) : NotTab q.2 := by
  rcases h with ⟨_, es, ep, hd⟩ | ⟨hc, i, hd⟩
  · rintro ⟨fs, e, _⟩; rw [hd] at e; cases e
  · exact notTab_iter hc hd
theorem notTab_gen {g : Nat} {t1 t2 : Tok} : NotTab (genObj g t1 t2) := by
  rintro ⟨fs, e, h⟩
  injection e with e
  subst e
  rcases h with h | ⟨t, h | h⟩
  · cases h
  · have h' : some (Value.str (Str.ofString "_grouping_intervals") t1) = some (.str q37 t) := h
    injection h' with h'
    injection h' with h' _
    exact absurd h' (by decide)
  · have h' : some (Value.str (Str.ofString "_grouping_intervals") t1) = some (.str q44 t) := h
    injection h' with h'
    injection h' with h' _
    exact absurd h' (by decide)
theorem notIter_tab {l : Addr} {o : Obj} (h : TabKind o) : ¬ IterOn l o := fun hi => notTab_iter hi.1 hi.2.choose_spec h
theorem notDict_tab {o : Obj} (h : TabKind o) : ¬ ∃ es ep, o.data = .dict es ep := fun ⟨es, ep, e⟩ => by obtain ⟨fs, hd, _⟩ := h; rw [e] at hd; cases hd

theorem Led.app {tb r nw : List (Addr × Obj)} : ∀ {l : List (Addr × Obj)}, (∀ p ∈ l, NotTab p.2) → Led tb r nw → Led tb (l ++ r) (l ++ nw)
  | [], _, h => h
  | _ :: _, k, h => .cons (k _ (.head _)) (Led.app (fun p hp => k p (.tail _ hp)) h)

abbrev tup2 (v1 v2 : Value) : Obj := { cls := .type "tuple", data := .seq #[v1, v2] }

/-- the tuples that a list of groups refers to -/
structure Tups (tups : List (Addr × Obj)) (refs : List Value) (gs : List (Int × Int)) : Prop where
  len : refs.length = gs.length
  at' : ∀ (i : Nat) g z, gs[i]? = some (g, z) → ∃ (a : Addr) (t1 t2 : Tok), refs[i]? = some (.ref a) ∧ (a, tup2 (.int g t1) (.int z t2)) ∈ tups
  kind : ∀ p ∈ tups, ∃ v1 v2, p.2 = tup2 v1 v2
theorem Tups.nil : Tups [] [] [] := ⟨rfl, fun i g z h => by simp at h, fun _ h => nomatch h⟩
theorem Tups.snoc {tups : List (Addr × Obj)} {refs : List Value} {gs : List (Int × Int)} (x : Tups tups refs gs) {a : Addr} {g z : Int} {t1 t2 : Tok} : Tups ((a, tup2 (.int g t1) (.int z t2)) :: tups) (refs ++ [.ref a]) (gs ++ [(g, z)]) := by
  refine ⟨by simp [x.len], fun i g' z' h => ?_, fun p hp => ?_⟩
  · rcases Nat.lt_or_ge i gs.length with h1 | h1
    · rw [List.getElem?_append_left h1] at h
      obtain ⟨a', t1', t2', h2, h3⟩ := x.at' i g' z' h
      exact ⟨a', t1', t2', by rw [List.getElem?_append_left (by rw [x.len]; exact h1)]; exact h2, .tail _ h3⟩
    · have h2 : i = gs.length := by
        have := (List.getElem?_eq_some_iff.mp h).1
        rw [List.length_append] at this; simp at this; omega
      subst h2
      rw [List.getElem?_append_right (Nat.le_refl _), Nat.sub_self] at h
      injection h with h
      injection h with h3 h4
      subst h3; subst h4
      exact ⟨a, t1, t2, by rw [List.getElem?_append_right (by rw [x.len]; exact Nat.le_refl _), x.len, Nat.sub_self]; rfl, .head _⟩
  · rcases List.mem_cons.mp hp with rfl | hp
    · exact ⟨_, _, rfl⟩
    · exact x.kind p hp
theorem Tups.nl {tups : List (Addr × Obj)} {refs : List Value} {gs : List (Int × Int)} (x : Tups tups refs gs) : ∀ p ∈ tups, NL p.2 := fun p hp => by obtain ⟨v1, v2, e⟩ := x.kind p hp; rw [e]; exact .inl rfl
theorem Tups.notTab {tups : List (Addr × Obj)} {refs : List Value} {gs : List (Int × Int)} (x : Tups tups refs gs) : ∀ p ∈ tups, NotTab p.2 := fun p hp => by obtain ⟨v1, v2, e⟩ := x.kind p hp; rw [e]; exact notTab_lit rfl
theorem Tups.notOwn {l : Addr} {tups : List (Addr × Obj)} {refs : List Value} {gs : List (Int × Int)} (x : Tups tups refs gs) : ∀ p ∈ tups, ¬ IterOn l p.2 ∧ ¬ ∃ es ep, p.2.data = .dict es ep := fun p hp => by
  obtain ⟨v1, v2, e⟩ := x.kind p hp; rw [e]
  exact ⟨(fun h => by obtain ⟨_, i, h⟩ := h; cases h), fun ⟨_, _, h⟩ => by cases h⟩

theorem ne_list {h₀ h : Heap} {L fl : Addr} {its : Array Value} {n : Nat} {led R : List (Addr × Obj)} (N : News h₀ L h led) (hm : (fl, listOf its n) ∈ led) (hs : ∀ p ∈ R, p ∈ led) (hk : ∀ p ∈ R, NL p.2) : ∀ p ∈ R, p.1 ≠ fl := fun p hp e => by
  have e1 := (N _ hm).1
  have e2 := (N _ (hs p hp)).1
  rw [e] at e2
  dsimp only at e1
  rw [e1] at e2
  have e3 := Option.some.inj e2
  rcases hk p hp with h | h
  · rw [← e3] at h; simp at h
  · exact h _ _ (by rw [← e3])
theorem nl_app {l r : List (Addr × Obj)} (h1 : ∀ p ∈ l, NL p.2) (h2 : ∀ p ∈ r, NL p.2) : ∀ p ∈ l ++ r, NL p.2 := fun p hp => (List.mem_append.mp hp).elim (h1 p) (h2 p)

theorem off_own {h₀ h : Heap} {L C l : Addr} {own led : List (Addr × Obj)} (N : News h₀ L h (own ++ led)) (hC : ∃ o, (C, o) ∈ own) (hown : ∀ q ∈ own, OwnK C l q) (hk : ∀ q ∈ led, ¬ IterOn l q.2 ∧ ¬ ∃ es ep, q.2.data = .dict es ep) : ∀ q ∈ led, q.1 ≠ C ∧ ¬ IterOn l q.2 := fun q hq => by
  refine ⟨fun e => ?_, (hk q hq).1⟩
  obtain ⟨o, ho⟩ := hC
  have e1 := (N _ (List.mem_append_left _ ho)).1
  have e2 := (N _ (List.mem_append_right _ hq)).1
  dsimp only at e1
  rw [e, e1] at e2
  have e3 := Option.some.inj e2
  rcases hown _ ho with ⟨_, h⟩ | h
  · exact (hk q hq).2 (e3 ▸ h)
  · exact (hk q hq).1 (e3 ▸ h)

theorem allBare_push {gs : Array GenState} {g : GenState} (h : AllBare gs) (hg : g.bare = true) : AllBare (gs.push g) := fun y hy => by
  rcases Array.mem_push.mp hy with hy | rfl
  · exact h y hy
  · exact hg

theorem sigma_range {ss : List Int} {e z : Int} {j : Nat} (hss : ∀ z ∈ ss, 1 ≤ z ∧ z ≤ 4) (h : sigma ss e j = some z) : 1 ≤ z ∧ z ≤ 4 := by
  unfold sigma at h
  split at h
  · exact hss z (List.mem_of_getElem? h)
  · split at h
    · exact hss z (List.mem_of_getLast? h)
    · cases h

/-- the cutting loop's state -/
def LgJ (w : World) (A : Around) (g' : Heap) (L' C lr G fl : Addr) (g : Nat) (t9 u9 : Tok) (σ : Nat → Option Int) (x : Int) (m₀ : Str → Option Value) (s : Shared) (i : Nat) (s' : Shared) : Prop :=
  ∃ xi txi refs nn tups gs gst own tb' h tk gens u1 u2, s' = { s with heap := h, toks := tk, gens := gens } ∧
    Fr g' L' h (fun y => if y = Str.ofString "number" then some (.int xi txi) else if y = Str.ofString "size" then u1 else if y = Str.ofString "group" then u2 else m₀ y) ∧
    News g' L' h ((G, genObj g t9 u9) :: (fl, listOf (List.toArray refs) nn) :: ((own ++ tups) ++ tb')) ∧ TabsIn tb' ∧ Tups tups refs gs ∧ (∀ q ∈ own, OwnK C lr q) ∧ (∃ o, (C, o) ∈ own) ∧ gens[g]? = some gst ∧ AllBare gens ∧
    GenOk w A.in1 g' C lr 200 σ (200 - i) gst own ∧ 0 ≤ xi ∧ xi ≤ x ∧ xi * 10 ^ i ≤ x ∧ grp σ 200 0 x = (gs ++ (grp σ (200 - i) i xi).1, (grp σ (200 - i) i xi).2) ∧ gs.length = i
theorem lgj_mk {w : World} {A : Around} {g' : Heap} {L' C lr G fl : Addr} {g : Nat} {t9 u9 : Tok} {σ : Nat → Option Int} {x : Int} {m₀ : Str → Option Value} {s : Shared} {i : Nat} {s' : Shared}
    {xi : Int} {txi : Tok} {refs : List Value} {nn : Nat} {tups : List (Addr × Obj)} {gs : List (Int × Int)} {gst : GenState} {own tb' : List (Addr × Obj)} {h : Heap} {tk : Nat} {gens : Array GenState} {u1 u2 : Option Value}
    (h1 : s' = { s with heap := h, toks := tk, gens := gens }) (h2 : Fr g' L' h (fun y => if y = Str.ofString "number" then some (.int xi txi) else if y = Str.ofString "size" then u1 else if y = Str.ofString "group" then u2 else m₀ y))
    (h3 : News g' L' h ((G, genObj g t9 u9) :: (fl, listOf refs.toArray nn) :: ((own ++ tups) ++ tb'))) (h4 : TabsIn tb') (h5 : Tups tups refs gs) (h6 : ∀ q ∈ own, OwnK C lr q) (h7 : ∃ o, (C, o) ∈ own) (h8 : gens[g]? = some gst) (h9 : AllBare gens)
    (h10 : GenOk w A.in1 g' C lr 200 σ (200 - i) gst own) (h11 : 0 ≤ xi) (h12 : xi ≤ x) (h13 : xi * 10 ^ i ≤ x) (h14 : grp σ 200 0 x = (gs ++ (grp σ (200 - i) i xi).1, (grp σ (200 - i) i xi).2)) (h15 : gs.length = i) :
    LgJ w A g' L' C lr G fl g t9 u9 σ x m₀ s i s' := ⟨xi, txi, refs, nn, tups, gs, gst, own, tb', h, tk, gens, u1, u2, h1, h2, h3, h4, h5, h6, h7, h8, h9, h10, h11, h12, h13, h14, h15⟩

theorem for_genA {prog : Program} {w : World} {A : Around} {E : Value → Shared → Prop} {s : Shared} {env : Env} {target : Expr} {body : List Stmt} {Q : Flow → Shared → Prop} {it : Value} (n : Nat) (J : Around → Nat → Shared → Prop) (h : J A 0 s)
    (turn : ∀ i s, i ≤ n → J A i s → wpAny (model prog w) A (pyNext it) (fun r s₁ => match r with
      | none => Q .next s₁
      | some v => TurnOf prog w A target it body env Q E (fun i s => i ≤ n ∧ J A i s) i v s₁) (InFor prog w A env E) s) : ForAt prog w A target it body env Q E s := for_gen n (J A) h turn

theorem lg_map0 {m₀ : Str → Option Value} {v : Option Value} (hr : m₀ (Str.ofString "number") = v) : m₀ = fun z => if z = Str.ofString "number" then v else if z = Str.ofString "size" then m₀ (Str.ofString "size") else if z = Str.ofString "group" then m₀ (Str.ofString "group") else m₀ z := by
  subst hr; funext z; (repeat' split) <;> first | rfl | (rename_i h; rw [h])
theorem lg_map1 {m₀ : Str → Option Value} {v1 v2 v3 w1 w2 w3 : Option Value} :
    (fun y => if y = Str.ofString "group" then v3 else if y = Str.ofString "number" then v1 else if y = Str.ofString "size" then v2 else (if y = Str.ofString "number" then w1 else if y = Str.ofString "size" then w2 else if y = Str.ofString "group" then w3 else m₀ y)) =
      fun z => if z = Str.ofString "number" then v1 else if z = Str.ofString "size" then v2 else if z = Str.ofString "group" then v3 else m₀ z := by
  funext y
  by_cases h1 : y = Str.ofString "number"
  · have h3 : y ≠ Str.ofString "group" := by rw [h1]; decide
    simp only [if_pos h1, if_neg h3]
  · by_cases h2 : y = Str.ofString "size"
    · have h3 : y ≠ Str.ofString "group" := by rw [h2]; decide
      simp only [if_neg h1, if_pos h2, if_neg h3]
    · by_cases h3 : y = Str.ofString "group"
      · simp only [if_neg h1, if_neg h2, if_pos h3]
      · simp only [if_neg h1, if_neg h2, if_neg h3]

theorem lgj_start {w : World} {A : Around} {g' : Heap} {L' C lr G fl : Addr} {g : Nat} {t9 u9 : Tok} {σ : Nat → Option Int} {x : Int} {m₀ : Str → Option Value} {s : Shared}
    {txi : Tok} {gst : GenState} {oC : Obj} {tb' : List (Addr × Obj)} {h : Heap} {tk : Nat} {gens : Array GenState} (F : Fr g' L' h m₀) (hr : m₀ (Str.ofString "number") = some (.int x txi))
    (h3 : News g' L' h ((G, genObj g t9 u9) :: (C, oC) :: (fl, listOf #[] 0) :: tb')) (h4 : TabsIn tb') (h6 : ∃ es ep, oC.data = .dict es ep) (h8 : gens[g]? = some gst) (h9 : AllBare gens)
    (h10 : GenOk w A.in1 g' C lr 200 σ 200 gst [(C, oC)]) (h11 : 0 ≤ x) : LgJ w A g' L' C lr G fl g t9 u9 σ x m₀ s 0 { s with heap := h, toks := tk, gens := gens } :=
  lgj_mk (own := [(C, oC)]) (tups := []) (refs := []) (gs := []) rfl (by rw [← lg_map0 hr]; exact F) (fun q hq => h3 q (by
    rcases List.mem_cons.mp hq with rfl | hq
    · exact .head _
    · rcases List.mem_cons.mp hq with rfl | hq
      · exact .tail _ (.tail _ (.head _))
      · rcases List.mem_cons.mp hq with rfl | hq
        · exact .tail _ (.head _)
        · exact .tail _ (.tail _ (.tail _ hq)))) h4 Tups.nil (fun q hq => by rw [List.mem_singleton.mp hq]; exact .inl ⟨rfl, h6⟩) ⟨oC, .head _⟩ h8 h9 h10 h11 (Int.le_refl _) (by simp) rfl rfl

theorem lg_news {h₀ h : Heap} {L : Addr} {a1 a2 a3 : Addr × Obj} {own tups tb' : List (Addr × Obj)} (N : News h₀ L h (a1 :: a2 :: a3 :: ((own ++ tups) ++ tb'))) : News h₀ L h ((a1 :: a3 :: tups) ++ tb') := fun q hq => N q (by
  rcases List.mem_cons.mp hq with rfl | hq
  · exact .head _
  · rcases List.mem_cons.mp hq with rfl | hq
    · exact .tail _ (.tail _ (.head _))
    · rcases List.mem_append.mp hq with hq | hq
      · exact .tail _ (.tail _ (.tail _ (List.mem_append_left _ (List.mem_append_right _ hq))))
      · exact .tail _ (.tail _ (.tail _ (List.mem_append_right _ hq))))
theorem lg_news2 {h₀ h : Heap} {L : Addr} {a1 a2 a3 a4 : Addr × Obj} {own tups tb' : List (Addr × Obj)} (N : News h₀ L h (a1 :: a2 :: a3 :: a4 :: ((own ++ tups) ++ tb'))) : News h₀ L h (a3 :: a4 :: ((own ++ (a1 :: tups)) ++ tb')) := fun q hq => N q (by
  rcases List.mem_cons.mp hq with rfl | hq
  · exact .tail _ (.tail _ (.head _))
  · rcases List.mem_cons.mp hq with rfl | hq
    · exact .tail _ (.tail _ (.tail _ (.head _)))
    · rcases List.mem_append.mp hq with hq | hq
      · rcases List.mem_append.mp hq with hq | hq
        · exact .tail _ (.tail _ (.tail _ (.tail _ (List.mem_append_left _ (List.mem_append_left _ hq)))))
        · rcases List.mem_cons.mp hq with rfl | hq
          · exact .head _
          · exact .tail _ (.tail _ (.tail _ (.tail _ (List.mem_append_left _ (List.mem_append_right _ hq)))))
      · exact .tail _ (.tail _ (.tail _ (.tail _ (List.mem_append_right _ hq)))))

section
local macro_rules | `(tactic| k_ne) => `(tactic| first | (refine neN ?_; (try dsimp only); omega) | (refine' news_ne ?nN ?n1 ?n2 ?n3; (case nN => with_reducible assumption); (case n1 => k_mem); (case n2 => k_mem); (case n3 => (intro e9; (have e8 := congrArg Obj.cls e9); simp [genObj] at e8))))
local macro_rules | `(tactic| k_all) => `(tactic| (refine' ne_list ?tN ?tm ?ts (nl_app (nl_app ?to ?tt) (fun p hp => nl_tab (TabsIn.kind ?tK p hp))); (case tN => with_reducible assumption); (case tm => k_mem); (case ts => (intro p hp; repeat' (first | exact hp | refine mem_tl ?_))); (case to => assumption); (case tt => assumption); (case tK => assumption)))
local macro_rules | `(tactic| walk_at "call ref") => `(tactic| (plain_pass; k_here; with_reducible refine hold_of ?_))
local macro_rules | `(tactic| ktr_rel) => `(tactic| repeat' (first | exact Led.tail | exact (show Led _ _ _ by assumption) | refine' Led.cons notTab_gen ?_ | refine' Led.cons (notTab_lit rfl) ?_ | refine' Led.cons (notTab_cell (by assumption)) ?_ | refine' Led.cons (notTab_iter (by assumption) (by assumption)) ?_))
local macro_rules | `(tactic| walk_at "exec For Name Call cons nil") => `(tactic| (k_here; k_dflt (refine' for_at ?_ ?hs; (case hs => (intro _; rfl)))))
local macro_rules | `(tactic| walk_at "call ref") => `(tactic| (k_here; k_dflt (refine' spec_gen ?F ?X ?N ?T ?hd1 ?hl ?hIA ?hss ?hs0 ?he ?hN ?_; (case hl => assumption); (case F => k_asm); (case X => k_asm); (case N => k_asm); (case T => k_asm); (case hd1 => ktr_room); (case hIA => assumption); (case hss => assumption); (case hs0 => assumption); (case he => assumption); (case hN => assumption)); intro h9 tk9 C9 G9 oC9 t9 u9 gs9 F9 N9 d9 ne9 lt9 lt8 b9 ok9; (try dsimp only); (try k_fold)))
local macro_rules | `(tactic| walk_at "call ref") => `(tactic| (k_here; k_dflt (refine' spec_int_divmod ?B ?F ?X ?N ?hl ?hK ?T ?hk ?hd1 ?hx ?hb ?hy0 ?hy1 ?_; (case hK => assumption); (case B => k_asm); (case F => k_asm); (case X => k_asm); (case N => k_asm); (case hl => ktr_rel); (case T => k_asm); (case hk => exact rfl); (case hd1 => ktr_room); (case hx => first | assumption | omega); (case hb => first | assumption | omega); (case hy0 => first | assumption | omega); (case hy1 => first | assumption | omega)); intro h9 tk9 l9 t9 u9 tb9 F9 N9 K9 S9; (try simp only [List.cons_append, List.nil_append] at N9); (try dsimp only); (try k_fold)))
local macro_rules | `(tactic| walk_at "call builtin:list.append") => `(tactic| (k_here; (with_reducible show wpAny _ _ (call (Value.builtin _) [Value.ref _, _]) _ _ _); k_dflt (refine' append_K ?k1 ?k2 ?k3 ?_ ?z; (case k1 => k_asm); (case k2 => k_asm); (case k3 => k_upd); (case z => (rw [sizeLine_eq]; (try simp only [List.size_toArray]); omega)); k_whole); intro h' F' N'; (try k_sweep)))
local macro_rules | `(tactic| walk_at "ite") => `(tactic| (k_here; first | (with_reducible refine ieq_t ?_ ?_; first | with_reducible assumption | omega) | (with_reducible refine ieq_f ?_ ?_; first | with_reducible assumption | omega)))
variable {w : World} {p : Program} {loose : List Str} {mean : ExcName → Option Value} {mg mb : Str → Option Value} {dp un : Nat} {gd : Option (List Code)} {cn : Str} {cs : Scope} {a : Addr} {ccd : Value} {cl : List (Str × Addr)} {outer : List Env} {A₀ : Around} {base h₀ : Heap} {L : Addr} {m : Str → Option Value} {led nw tb : List (Addr × Obj)} {s : Shared} {Q E : Value → Shared → Prop}

theorem spec_law_groups {x : Int} {tx : Tok} {lr : Addr} {nn : Nat} {rits : List Value} {ss : List Int} {e : Int}
    (B : Below A₀ base outer h₀) (F : Fr h₀ L s.heap m) (X : (hd.heap_39 w.params).In h₀) (N : News h₀ L s.heap led) (hl : Led tb led nw) (hK : TabsIn tb) (T : Top p loose mean mg mb h₀) (hk : cs.kind = .function)
    (hd1 : dp + 240 < recursionLimit) (hx : 0 ≤ x) (hx1 : x < 10 ^ 50) (hD : (lr, listOf rits.toArray nn) ∈ led) (hIA : IntsAre rits (ss ++ [e])) (hss : ∀ z ∈ ss, 1 ≤ z ∧ z ≤ 4) (hs0 : ss ≠ []) (hsl : ss.length ≤ 100) (he : e = 0 ∨ e = 127) (hb : AllBare s.gens)
    (ret : ∀ (h' : Heap) (tk' : Nat) (gens' : Array GenState) (tup fl : Addr) (t : Tok) (refs : List Value) (nn' : Nat) (tups : List (Addr × Obj)) (tb' : List (Addr × Obj)), Fr h₀ L h' m →
      News h₀ L h' ((tup, tup2 (.ref fl) (.int (grp (sigma ss e) 200 0 x).2 t)) :: (fl, listOf refs.toArray nn') :: (tups ++ (nw ++ tb'))) → TabsIn tb' → Stp tb tb' s.heap h' → Tups tups refs (grp (sigma ss e) 200 0 x).1 → AllBare gens' → Q (.ref tup) { s with heap := h', toks := tk', gens := gens' }) :
    wpAny (model PySem.Challenge.rw_zr0004_01.row.prog w) (ktrTop dp un gd cn cs L a ccd cl outer) (call (.ref 70) [.int x tx, .ref lr]) Q E s := by
  have hDt : ∀ p ∈ tb, p.1 ≠ lr := tb_ne N hD (by obtain ⟨rfl, _⟩ := hl.split; exact fun p hp => List.mem_append_right _ hp) hK (notTab_lit rfl)
  have hDs : s.heap.get? lr = some (listOf rits.toArray nn) := (N _ hD).1
  have hss2 : ∀ z ∈ ss, z ≠ 0 ∧ z ≠ 127 := fun z hz => by have := hss z hz; omega
  have hN200 : ss.length < 200 := by omega
  revert X; k_fill; intro X
  refine wpAny_call ?_
  k_dflt (refine' enterK (tb := tb) ?k1 ?k2 ?k3 ?k4 ?kL ?kT ?k5 ?kA ?kF ?kK ?k6 ?k7 ?k8 ?k9 ?kB ?_ ?c2 ?c3 ?c4 ?c5; (case kA => exact rfl); (case kF => exact rfl); (case kK => assumption); (case k1 => k_asm); (case k2 => k_asm); (case k3 => k_asm); (case k4 => k_asm); (case kL => k_asm); (case kT => k_asm); (case k5 => k_asm); (case k6 => k_is); (case k7 => k_is); (case k8 => ktr_room); (case k9 => exact BindsTo.of_eq rfl); (case c5 => decide); (case kB => exact locs rfl); (case c2 => exact rfl); (case c3 => exact rfl); (case c4 => exact rfl); k_whole)
  intro g' L' h' hkp FG' F' N' B' X' T' hlt
  have hDg : g'.IsList lr rits.toArray := IsL.isList (n := nn) (hkp _ _ hDs hDt)
  (try dsimp only); (try k_fold)
  k_steps
  rename_i fl hh1 ll1 hh0 F0 N0 h9 tk9 C G oC t9 u9 gs9 F9 N9 d9 ne9 lt9 lt8 b9 ok9
  refine wpAny_pyIter_gen ⟨_, _, _, (N9 _ (.head _)).1, rfl, rfl, rfl⟩ ?_
  have hx190 : x < 2 ^ 190 := Int.lt_of_lt_of_le hx1 (by decide)
  have hx58 : x < 10 ^ 58 := Int.lt_of_lt_of_le hx1 (by decide)
  refine for_genA 60 (fun A => LgJ w A g' L' C lr G fl s.gens.size t9 u9 (sigma ss e) x _ s) (lgj_start F9 rfl N9 hK d9 (Array.getElem?_push_size ..) (allBare_push hb b9) (ok9 _) hx) ?_
  rintro i s' hi ⟨xi, txi, refs, nn, tups, gs, gst, own, tb', h, tk, gens, u1, u2, rfl, F, N, K', hT, hown, hC, hgs, hbr, ok, hx0, hxx, hxi, hgr, hgl⟩
  have N2 : News g' L' h (own ++ ((G, genObj s.gens.size t9 u9) :: (fl, listOf refs.toArray nn) :: (tups ++ tb'))) := fun q hq => N q (by
    rcases List.mem_append.mp hq with hq | hq
    · exact .tail _ (.tail _ (List.mem_append_left _ (List.mem_append_left _ hq)))
    · rcases List.mem_cons.mp hq with rfl | hq
      · exact .head _
      · rcases List.mem_cons.mp hq with rfl | hq
        · exact .tail _ (.head _)
        · rcases List.mem_append.mp hq with hq | hq
          · exact .tail _ (.tail _ (List.mem_append_left _ (List.mem_append_right _ hq)))
          · exact .tail _ (.tail _ (List.mem_append_right _ hq)))
  have hled := off_own (l := lr) N2 hC hown (fun q hq => by
    rcases List.mem_cons.mp hq with rfl | hq
    · exact ⟨(fun hi => by have := hi.1; simp [genObj] at this), fun ⟨_, _, hd⟩ => by cases hd⟩
    · rcases List.mem_cons.mp hq with rfl | hq
      · exact ⟨(fun hi => by obtain ⟨_, _, hd⟩ := hi; cases hd), fun ⟨_, _, hd⟩ => by cases hd⟩
      · rcases List.mem_append.mp hq with hq | hq
        · exact hT.notOwn q hq
        · exact ⟨notIter_tab (K'.kind q hq), notDict_tab (K'.kind q hq)⟩)
  refine pull rfl (T'.nolimit.keeps F.keep) (by ktr_room) F N2 hown ne9 hled (.head _) hgs hbr (by omega) ok ?_ ?_
  · intro z t h2 tk2 own2 gst2 gens2 hz F2 N3 hown2 hC2 hgs2 hb2 ok2
    rw [show 200 - (200 - i) = i by omega] at hz
    have hzr := sigma_range hss hz
    have N4 : News g' L' h2 ((G, genObj s.gens.size t9 u9) :: (fl, listOf refs.toArray nn) :: ((own2 ++ tups) ++ tb')) := fun q hq => N3 q (by
      rcases List.mem_cons.mp hq with rfl | hq
      · exact List.mem_append_right _ (.head _)
      · rcases List.mem_cons.mp hq with rfl | hq
        · exact List.mem_append_right _ (.tail _ (.head _))
        · rcases List.mem_append.mp hq with hq | hq
          · rcases List.mem_append.mp hq with hq | hq
            · exact List.mem_append_left _ hq
            · exact List.mem_append_right _ (.tail _ (.tail _ (List.mem_append_left _ hq)))
          · exact List.mem_append_right _ (.tail _ (.tail _ (List.mem_append_right _ hq))))
    clear F N N2 N3 F9 N9 F0 N0
    have hNLo : ∀ q ∈ own2, NL q.2 := fun q hq => nl_own (hown2 q hq)
    have hNLt := hT.nl
    have hTail : Led tb' ((own2 ++ tups) ++ tb') (own2 ++ tups) := by
      have := Led.app (tb := tb') (r := tb') (nw := []) (l := own2 ++ tups) (fun q hq => (List.mem_append.mp hq).elim (fun hq => notTab_own (hown2 q hq)) fun hq => hT.notTab q hq) Led.tail
      rw [List.append_nil] at this; exact this
    have hrl : refs.length ≤ 200 := by rw [hT.len]; omega
    obtain ⟨c0, c1, c2, c3, c4⟩ := cut_facts (z := z) hx0 hzr.1 hzr.2 hxi
    have hbx : (Builtin.Int.intBits xi : Int) ≤ 190 := by have := bits_le_of_le hx0 hxx hx190; omega
    obtain ⟨hz1, hz4⟩ := hzr
    by_cases hxz : xi = 0
    · refine turn_name ?_
      (try dsimp only); (try k_fold)
      k_steps
      dsimp only [TurnTo]
      (try k_fold)
      k_steps
      (rename News _ _ _ _ => N5)
      have hfin : grp (sigma ss e) 200 0 x = (gs, xi) := by rw [hgr, hxz, grp_zero, List.append_nil]
      rw [hfin] at ret
      show EndT _ _ _ _ _ _ _ _ _ _ _
      exact ⟨_, (_, _) :: (_, _) :: tups, tb', by k_asm, lg_news N5, K', fun F2 N2 hs => ret _ _ _ _ _ _ _ _ _ _ F2 N2 K' hs hT hb2⟩
    · refine turn_name ?_
      (try dsimp only); (try k_fold)
      k_steps
      (rename News _ _ _ _ => N5)
      (rename Fr _ _ _ _ => F5)
      (rename TabsIn _ => K5)
      simp only [List.push_toArray] at N5
      rw [lg_map1] at F5
      have hi58 := few_cuts hx0 hxz hxi hx58
      have hs1 : 200 - i = (200 - (i + 1)) + 1 := by omega
      show _ ∧ _
      refine ⟨by omega, lgj_mk rfl F5 (lg_news2 N5) K5 hT.snoc hown2 hC2 hgs2 hb2 ?_ c0 (by omega) c1 ?_ ?_⟩
      · rw [show 200 - (i + 1) = 200 - i - 1 by omega]; exact ok2 (by omega)
      · rw [hgr, hs1, grp_some hz hxz, List.append_assoc]; rfl
      · rw [List.length_append, hgl]; rfl
  · intro h2 tk2 gens2 hz F2 N3 hb2
    rw [show 200 - (200 - i) = i by omega] at hz
    have N4 : News g' L' h2 ((G, genObj s.gens.size t9 u9) :: (fl, listOf refs.toArray nn) :: (([] ++ tups) ++ tb')) := fun q hq => N3 q (by rw [List.nil_append] at hq; exact hq)
    clear F N N2 N3 F9 N9 F0 N0
    have hfin : grp (sigma ss e) 200 0 x = (gs, xi) := by rw [hgr, grp_none hz, List.append_nil]
    rw [hfin] at ret
    dsimp only
    (try k_fold)
    k_steps
    (rename News _ _ _ _ => N5)
    show EndT _ _ _ _ _ _ _ _ _ _ _
    exact ⟨_, (_, _) :: (_, _) :: tups, tb', by k_asm, lg_news N5, K', fun F2 N2 hs => ret _ _ _ _ _ _ _ _ _ _ F2 N2 K' hs hT hb2⟩
end
end Mine

/-! part D7 -/

namespace Mine
/-- a group, filled up with noughts -/
def fillS (z x : Int) : Str := Txt.mul (Str.ofString "0") (z - ((Str.ofString (toString x)).length : Int)) ++ Str.ofString (toString x)

section
variable {w : World} {p : Program} {loose : List Str} {mean : ExcName → Option Value} {mg mb : Str → Option Value} {dp un : Nat} {gd : Option (List Code)} {cn : Str} {cs : Scope} {a : Addr} {ccd : Value} {cl : List (Str × Addr)} {outer : List Env} {A₀ : Around} {base h₀ : Heap} {L : Addr} {m : Str → Option Value} {led nw tb : List (Addr × Obj)} {s : Shared} {Q E : Value → Shared → Prop}

theorem spec_law_filled {x z : Int} {tx tz : Tok}
    (B : Below A₀ base outer h₀) (F : Fr h₀ L s.heap m) (X : (hd.heap_39 w.params).In h₀) (N : News h₀ L s.heap led) (T : Top p loose mean mg mb h₀) (hk : cs.kind = .function)
    (hd1 : dp + 10 < recursionLimit) (hx : 0 ≤ x) (hx1 : x < 10000) (hz : 1 ≤ z) (hz4 : z ≤ 4)
    (ret : ∀ (h' : Heap) (tk' : Nat) (t : Tok), Fr h₀ L h' m → News h₀ L h' led → Q (.str (fillS z x) t) { s with heap := h', toks := tk' }) :
    wpAny (model PySem.Challenge.rw_zr0004_01.row.prog w) (ktrTop dp un gd cn cs L a ccd cl outer) (call (.ref 77) [.int x tx, .int z tz]) Q E s := by
  revert X; k_fill; intro X
  refine wpAny_call ?_
  k_dflt (refine' code_def ?k1 ?k2 ?k3 ?k4 ?k5 ?kA ?kF ?kK ?k6 ?k7 ?k8 ?k9 ?kB ?_ ?c2 ?c3 ?c4 ?c5; (case kA => exact rfl); (case kF => exact rfl); (case kK => assumption); (case k1 => k_asm); (case k2 => k_asm); (case k3 => k_asm); (case k4 => k_asm); (case k5 => k_asm); (case k6 => k_is); (case k7 => k_is); (case k8 => ktr_room); (case k9 => exact BindsTo.of_eq rfl); (case c5 => decide); (case kB => exact locs rfl); (case c2 => exact rfl); (case c3 => exact rfl); (case c4 => exact rfl); k_whole)
  intro g' L' h' FG' F' N' B' X' T'
  (try dsimp only); (try k_fold)
  k_steps
  exact ret _ _ _ (by k_asm) (by k_asm)
end
end Mine

/-! part C1 -/

namespace Mine
section
variable {prog : Program} {w : World} {A : Around} {E : Value → Shared → Prop} {s : Shared} {env : Env} {h₀ : Heap} {L : Addr} {m : Str → Option Value}

/-- a comprehension's block at its source -/
def CompAt (prog : Program) (w : World) (A : Around) (E : Value → Shared → Prop) (env : Env) (elt target iter : Expr) (scope : Scope) (pos : Pos) (Q : Value → Shared → Prop) (x : Value) (s₁ : Shared) : Prop :=
  wpAny (model prog w) A (pyIter x) (fun it s₂ => wpAny (model prog w) A (newList []) (fun acc s₃ =>
      wpAny (model prog w) A (newFunctionEnv scope env.globals [] [] env.qual none .none (some env)) (fun cenv s₄ =>
        codeAny (model prog w) A (.compStart (.ListComp elt [⟨target, iter, [], 0⟩] scope pos) 0 it acc { cenv with scope := scope })
          (fun r s' => ∃ m, s'.heap.Ns cenv.locals m ∧ ∀ h', Heap.SameBut cenv.locals s'.heap h' →
            match r with | .ok _ => Q acc { s' with heap := h' } | .error x => wpAny (model prog w) A (passOn "comprehension.variables-let-go" x { cenv with scope := scope }) Q E { s' with heap := h' }) s₄) E s₃) E s₂) E s₁

theorem comp_at {elt target iter : Expr} {scope : Scope} {pos : Pos} {Q : Value → Shared → Prop}
    (hfree : ∀ x ∈ scope.names, x.2 ≠ .free) (hkind : scope.kind = .function) (hnames : ∀ x ∈ scope.names, x.2 = .local → scope.names.lookup x.1 = some .local)
    (h : wpAny (model prog w) A (eval iter env) (CompAt prog w A E env elt target iter scope pos Q) E s) (hs : ∀ x, foldedSetIterable iter env x = pure x) :
    wpAny (model prog w) A (eval (.ListComp elt [⟨target, iter, [], 0⟩] scope pos) env) Q E s := wpAny_ListComp hfree hkind hnames h hs

/-- the block's own environment -/
abbrev blockEnv (scope : Scope) (C : Addr) (env : Env) : Env :=
  { scope, locals := C, globals := env.globals, cells := [], qual := env.qual, func := none, code := env.code, frame := env.frame, builtins := env.builtins }

theorem own_go {target : Expr} {I : Addr} {v : Value} {o : Obj} {l : Value} {i : Int} {t : Tok} {Q : Unit → Shared → Prop} {E : Value → Shared → Prop} (ho : s.heap.get? I = some o) (hc : o.cls = .type "list_iterator") (hd : o.data = .fields #[l, .int i t]) (h : Q () s) :
    wpAny (model prog w) A (letOwnedTupleGo target (.ref I) v) Q E s := by
  unfold letOwnedTupleGo
  split
  · split
    · rename_i r a e
      cases e
      refine wpAny_bind (wpAny_load ho ?_)
      rw [hc, hd]
      exact wpAny_pure h
    · exact wpAny_pure h
  · split
    · rename_i r a e
      cases e
      refine wpAny_bind (wpAny_load ho ?_)
      rw [hc, hd]
      exact wpAny_pure h
    · exact wpAny_pure h
  · exact wpAny_pure h

theorem comp2 {elt iter : Expr} {a b : Str} {pa pb tp : Pos} {kk : Nat} {scope : Scope} {pos : Pos} {Q : Value → Shared → Prop} {lst : Addr} {refs : List Value} {nn : Nat} {vals : List (Value × Value)} {led : List (Addr × Obj)}
    (hh : A.handled = none) (F : Fr h₀ L s.heap m) (N : News h₀ L s.heap led) (hl : (lst, listOf refs.toArray nn) ∈ led) (hlen : refs.length = vals.length) (hsz : vals.length ≤ 200)
    (hT : ∀ (i : Nat) v1 v2, vals[i]? = some (v1, v2) → ∃ T, refs[i]? = some (.ref T) ∧ (T, tup2 v1 v2) ∈ led)
    (hcell : ∀ y ∈ scope.names, y.2 ≠ .cell) (hkind : scope.kind = .function) (hxa : scope.names.lookup a = some .local) (hxb : scope.names.lookup b = some .local) (hab : ¬ a = b) (G : Nat → Value → Prop)
    (helt : ∀ (i : Nat) v1 v2 C (m₂ : Str → Option Value) (s' : Shared) led' (E' : Value → Shared → Prop), vals[i]? = some (v1, v2) → m₂ a = some v1 → m₂ b = some v2 → s'.heap.Ns C m₂ → Fr h₀ L s'.heap m → News h₀ L s'.heap led' → (∃ h tk, s' = { s with heap := h, toks := tk }) →
      wpAny (model prog w) A (eval elt (blockEnv scope C env)) (fun y s'' => G i y ∧ ∃ h tk, s'' = { s' with heap := h, toks := tk } ∧ Fr h₀ L h m ∧ News h₀ L h led') E' s')
    (fin : ∀ D h tk ys n, Fr h₀ L h m → News h₀ L h ((D, listOf (List.toArray ys) n) :: led) → (∀ p ∈ led, p.1 < D) → ys.length = vals.length → (∀ (i : Nat) y, ys[i]? = some y → G i y) → Q (.ref D) { s with heap := h, toks := tk }) :
    CompAt prog w A E env elt (.Tuple [.Name a pa, .Name b pb] kk tp) iter scope pos Q (.ref lst) s := by
  unfold CompAt
  refine iter_list F N (IsL.isList (n := nn) (N _ hl).1) fun I oI h1 F1 N1 hcI hdI hltI => ?_
  refine wpAny_newObj_type (wpAny_newFunctionEnv hcell (by intro y hy; simp at hy) (fun h2 hns hsb => ?_) hkind)
  dsimp only at hns hsb ⊢
  have N2 : News h₀ L (h1.push { cls := .type "list", data := .seq ([] : List Value).toArray }) ((h1.objs.size, listOf ([] : List Value).toArray 0) :: (I, oI) :: led) := News.push F1 N1 _
  have F2 := F1.push { cls := .type "list", data := .seq ([] : List Value).toArray }
  have hIlt : I < h1.objs.size := Heap.lt_size (N1 _ (.head _)).1
  have hledlt : ∀ p ∈ led, p.1 < h1.objs.size := fun p hp => Heap.lt_size (N1 p (.tail _ hp)).1
  have hLlt : L < h1.objs.size := F1.ns.lt
  generalize hD : h1.objs.size = D at *
  generalize hH : h1.push { cls := .type "list", data := .seq ([] : List Value).toArray } = H2 at *
  have hDC : D < H2.objs.size := by rw [← hH, Heap.size_push, hD]; exact Nat.lt_succ_self _
  generalize hC : H2.objs.size = C at *
  have hC0 : h₀.get? C = none := Heap.get?_none_of_le (by rw [← hC]; exact Nat.le_of_lt (Nat.lt_of_le_of_lt F2.above F2.ns.lt))
  have hLC : C ≠ L := Nat.ne_of_gt (Nat.lt_trans hLlt hDC)
  have hIC : I ≠ C := Nat.ne_of_lt (Nat.lt_trans hIlt hDC)
  have hID : I ≠ D := Nat.ne_of_lt hIlt
  have F3 : Fr h₀ L h2 m := (F2.push _).change hsb hLC hC0
  obtain ⟨oC, hoC, hnC⟩ := LCg.ns_obj hns
  have N3 : News h₀ L h2 ((I, oI) :: (D, listOf ([] : List Value).toArray 0) :: (C, oC) :: led) := fun q hq => by
    have old : ∀ q, q ∈ (D, listOf ([] : List Value).toArray 0) :: (I, oI) :: led → h2.get? q.1 = some q.2 ∧ q.1 ≠ L ∧ h₀.get? q.1 = none := fun q hq => by
      have n := N2 q hq
      refine ⟨(hsb.2 _ ?_).trans (Heap.get?_push_of_some _ n.1), n.2⟩
      have := Heap.lt_size n.1
      rw [hC] at this
      exact Nat.ne_of_lt this
    rcases List.mem_cons.mp hq with rfl | hq
    · exact old _ (.tail _ (.head _))
    · rcases List.mem_cons.mp hq with rfl | hq
      · exact old _ (.head _)
      · rcases List.mem_cons.mp hq with rfl | hq
        · exact ⟨hoC, hLC, hC0⟩
        · exact old _ (.tail _ (.tail _ hq))
  have hneI : ∀ (ys : List Value) n oC, ∀ p ∈ (D, listOf ys.toArray n) :: (C, oC) :: led, p.1 ≠ I := fun ys n oC p hp => by
    rcases List.mem_cons.mp hp with rfl | hp
    · exact hID.symm
    · rcases List.mem_cons.mp hp with rfl | hp
      · exact hIC.symm
      · exact Nat.ne_of_lt (hltI p hp)
  have hneD : ∀ oC : Obj, ∀ p ∈ (C, oC) :: led, p.1 ≠ D := fun oC p hp => by
    rcases List.mem_cons.mp hp with rfl | hp
    · exact Nat.ne_of_gt hDC
    · exact Nat.ne_of_lt (hledlt p hp)
  have hneC : ∀ p ∈ led, p.1 ≠ C := fun p hp => Nat.ne_of_lt (Nat.lt_trans (hledlt p hp) hDC)
  have loop : ∀ s₃ : Shared, (∃ tk, s₃ = { s with heap := h2, toks := tk }) → codeAny (model prog w) A (.compLoop (.ListComp elt [⟨.Tuple [.Name a pa, .Name b pb] kk tp, iter, [], 0⟩] scope pos) 0 (.ref I) (.ref D) (blockEnv scope C env))
      (fun r s' => ∃ m, s'.heap.Ns C m ∧ ∀ h', Heap.SameBut C s'.heap h' → match r with | .ok _ => Q (.ref D) { s' with heap := h' } | .error x => wpAny (model prog w) A (passOn "comprehension.variables-let-go" x (blockEnv scope C env)) Q E { s' with heap := h' }) s₃ := by
    rintro s₃ ⟨tk₃, rfl⟩
    refine kcp_loop (fun k s' => ∃ h tk i ys n oI oC m₂, s' = { s with heap := h, toks := tk } ∧ i ≤ vals.length ∧ k = vals.length + 1 - i ∧ List.length ys = i ∧ (∀ (j : Nat) y, ys[j]? = some y → G j y) ∧ Fr h₀ L h m ∧
      News h₀ L h ((I, oI) :: (D, listOf ys.toArray n) :: (C, oC) :: led) ∧ oI.cls = .type "list_iterator" ∧ oI.data = .fields #[.ref lst, .int (i : Int) 0] ∧ LCg.NsObj oC m₂) ?_ (vals.length + 1)
      ⟨h2, tk₃, 0, [], 0, oI, oC, _, rfl, Nat.zero_le _, rfl, rfl, fun j y e => by simp at e, F3, N3, hcI, hdI, hnC⟩
    rintro k s' ⟨h, tk, i, ys, n, oI, oC, m₂, rfl, hi, rfl, hyl, hG, F', N', hc, hd, hnC⟩
    have hlst : h.IsList lst refs.toArray := IsL.isList (n := nn) (N' _ (.tail _ (.tail _ (.tail _ hl)))).1
    by_cases hlt : i < vals.length
    · obtain ⟨⟨v1, v2⟩, hv⟩ : ∃ v, vals[i]? = some v := ⟨_, List.getElem?_eq_getElem hlt⟩
      obtain ⟨T, hrT, hmT⟩ := hT i v1 v2 hv
      refine next_list F' N' hc hd hlst (hneI _ _ _) (by simpa using hrT) fun h3 oI' F4 N4 hc' hd' => ?_
      dsimp only
      refine own_go (N4 _ (.head _)).1 hc' hd' ?_
      refine kcp_assign (env := blockEnv scope C env) hh ⟨_, (N4 _ (.tail _ (.tail _ (.tail _ hmT)))).1, rfl, _, rfl⟩ hxa hxb (by simp [hkind]) (hnC.ns (N4 _ (.tail _ (.tail _ (.head _)))).1) fun h4 tk4 hn4 hk4 => ?_
      have F5 : Fr h₀ L h4 m := ⟨F4.ns.at' fun o e => hk4 _ o hLC.symm e, fun c o e => hk4 c o (fun q => by rw [q, hC0] at e; cases e) (F4.keep c o e), F4.above⟩
      obtain ⟨oC', hoC', hnC'⟩ := LCg.ns_obj hn4
      have N5 : News h₀ L h4 ((I, oI') :: (D, listOf ys.toArray n) :: (C, oC') :: led) := fun q hq => by
        rcases List.mem_cons.mp hq with rfl | hq
        · exact ⟨hk4 _ _ hIC (N4 _ (.head _)).1, (N4 _ (.head _)).2⟩
        · rcases List.mem_cons.mp hq with rfl | hq
          · exact ⟨hk4 _ _ (Nat.ne_of_lt hDC) (N4 _ (.tail _ (.head _))).1, (N4 _ (.tail _ (.head _))).2⟩
          · rcases List.mem_cons.mp hq with rfl | hq
            · exact ⟨hoC', hLC, hC0⟩
            · exact ⟨hk4 _ _ (hneC q hq) (N4 _ (.tail _ (.tail _ (.tail _ hq)))).1, (N4 _ (.tail _ (.tail _ (.tail _ hq)))).2⟩
      refine wpAny_mono (helt i v1 v2 C _ _ _ _ hv (by simp [hab]) (by simp) hn4 F5 N5 ⟨h4, tk4, rfl⟩) (fun y s5 h5 => ?_) fun _ _ e => e
      obtain ⟨hGy, h6, tk6, rfl, F6, N6⟩ := h5
      refine append_K F6 N6 (.tail hID (.head (hneD _))) (fun h7 F7 N7 => ?_) (by rw [sizeLine_eq, List.size_toArray]; omega)
      rw [List.push_toArray] at N7
      refine ⟨vals.length + 1 - (i + 1), by omega, h7, tk6, i + 1, ys ++ [y], n + 1, oI', oC', _, rfl, hlt, rfl, by rw [List.length_append, hyl]; rfl, fun j y' e => ?_, F7, N7, hc', hd', hnC'⟩
      rcases Nat.lt_or_ge j ys.length with h8 | h8
      · rw [List.getElem?_append_left h8] at e; exact hG j y' e
      · have h9 : j = ys.length := by
          have := (List.getElem?_eq_some_iff.mp e).1
          rw [List.length_append] at this; simp at this; omega
        subst h9
        rw [List.getElem?_append_right (Nat.le_refl _), Nat.sub_self] at e
        rw [← Option.some.inj e, hyl]; exact hGy
    · have hin : i = vals.length := by omega
      subst hin
      refine done_list hh F' N' hc hd hlst (hneI _ _ _) (by simp [hlen]) fun h3 F4 N4 => ?_
      dsimp only
      refine ⟨m₂, hnC.ns (N4 _ (.tail _ (.head _))).1, fun h4 hs4 => ?_⟩
      refine fin D h4 tk ys n (F4.change hs4 hLC hC0) (fun q hq => ?_) hledlt hyl hG
      rcases List.mem_cons.mp hq with rfl | hq
      · exact ⟨(hs4.2 _ (Nat.ne_of_lt hDC)).trans (N4 _ (.head _)).1, (N4 _ (.head _)).2⟩
      · exact ⟨(hs4.2 _ (hneC q hq)).trans (N4 _ (.tail _ (.tail _ hq))).1, (N4 _ (.tail _ (.tail _ hq))).2⟩
  have hit : h2.IsListIter I lst 0 := ⟨oI, (N3 _ (.head _)).1, hcI, hdI⟩
  exact codeAny_compStart_list (loop _ ⟨_, rfl⟩) (wpAny_pyIter_listiter hit (loop _ ⟨_, rfl⟩))
end
end Mine

/-! part L2 -/

namespace Mine

def lawIn (K : Frag) (f : Addr) (i : Nat) : Option (Expr × Expr × List Stmt × Scope) := match K.lookup f with
  | some o => (match o.data with
    | .func fd => (match fd.body with
      | .stmts b => (match (b[i]? : Option PySem.Stmt) with
        | some (PySem.Stmt.For target iter body [] _) => some (target, iter, body, fd.scope)
        | _ => none)
      | _ => none)
    | _ => none)
  | none => none

/-- a statement that only hands out tokens -/
abbrev Quiet (s : Shared) (f : Flow) (s' : Shared) : Prop := f = .next ∧ ∃ tk, s' = { s with toks := tk }

/-- the sizes that are due -/
def dueL (ss : List Int) (n : Nat) : List Int := (List.range n).map fun k => ss.getD (min k (ss.length - 1)) 0

theorem intsAre_at {its : List Value} {ns : List Int} (hl : its.length = ns.length) (h : ∀ (i : Nat) y, its[i]? = some y → ∃ z t, ns[i]? = some z ∧ y = .int z t) : IntsAre its ns := by
  induction its generalizing ns with
  | nil => cases ns with
    | nil => exact .nil
    | cons _ _ => simp at hl
  | cons v its ih => cases ns with
    | nil => simp at hl
    | cons z ns =>
      obtain ⟨z', t, h1, h2⟩ := h 0 v rfl
      simp only [List.getElem?_cons_zero, Option.some.injEq] at h1
      subst h1; subst h2
      exact .cons _ _ (ih (by simpa using hl) fun i y e => by simpa using h (i + 1) y (by simpa using e))

theorem due_eq {ys sits : List Value} {ss : List Int} {n : Nat} (hs : IntsAre sits ss) (h1 : 1 ≤ sits.length) (h : IntsAre ys (List.map (fun k' => ss.getD (if (sits.length : Int) - 1 < k' then (sits.length : Int) - 1 else k').toNat 0) (rangeKs 0 ((n : Int) - 0).toNat))) : IntsAre ys (dueL ss n) := by
  have hl := IntsAre.length hs
  have e : List.map (fun k' => ss.getD (if (sits.length : Int) - 1 < k' then (sits.length : Int) - 1 else k').toNat 0) (rangeKs 0 ((n : Int) - 0).toNat) = dueL ss n := by
    unfold dueL rangeKs
    rw [show ((n : Int) - 0).toNat = n by omega, List.map_map]
    refine List.map_congr_left fun k _ => ?_
    simp only [Function.comp]
    congr 1
    split <;> omega
  rw [← e]; exact h

theorem tups_vals {tups : List (Addr × Obj)} {refs : List Value} {gs : List (Int × Int)} (x : Tups tups refs gs) : ∃ vals : List (Value × Value), vals.length = gs.length ∧
    ∀ (i : Nat) v1 v2, vals[i]? = some (v1, v2) → ∃ g z t1 t2 a, gs[i]? = some (g, z) ∧ v1 = .int g t1 ∧ v2 = .int z t2 ∧ refs[i]? = some (.ref a) ∧ (a, tup2 v1 v2) ∈ tups := by
  have h : ∀ i : Fin gs.length, ∃ v : Value × Value, ∃ t1 t2 a, v = (.int gs[i].1 t1, .int gs[i].2 t2) ∧ refs[i.1]? = some (.ref a) ∧ (a, tup2 v.1 v.2) ∈ tups := fun i => by
    obtain ⟨a, t1, t2, h1, h2⟩ := x.at' i.1 gs[i].1 gs[i].2 (by rw [List.getElem?_eq_getElem i.2]; rfl)
    exact ⟨_, t1, t2, a, rfl, h1, h2⟩
  refine ⟨List.ofFn fun i => (h i).choose, by simp, fun i v1 v2 e => ?_⟩
  rw [List.getElem?_ofFn] at e
  split at e
  · rename_i hi
    obtain ⟨t1, t2, a, h1, h2, h3⟩ := (h ⟨i, hi⟩).choose_spec
    have e := Option.some.inj e
    rw [e] at h1 h3
    injection h1 with h4 h5
    exact ⟨_, _, t1, t2, a, List.getElem?_eq_getElem hi, h4, h5, h2, h3⟩
  · cases e

theorem block_name {M : Model} {A : Around} {E : Value → Shared → Prop} {s : Shared} {scope : Scope} {C : Addr} {env : Env} {x : Str} {pos : Pos} {m₂ : Str → Option Value} {v : Value} {Q : Value → Shared → Prop} (hn : s.heap.Ns C m₂) (hv : m₂ x = some v) (hk : scope.kind = .function) (hx : scope.names.lookup x = some .local) (h : Q v s) (hd : (x == ("__debug__" : Str)) = false := by decide) :
    wpAny M A (eval (.Name x pos) (blockEnv scope C env)) Q E s := wpAny_Name (wpAny_loadName_local hk hx hn hv h) hd

section
local macro_rules | `(tactic| k_mem) => `(tactic| first | (with_reducible assumption) | exact List.Mem.head _ | (refine' mem_tl ?_; k_mem))
local macro_rules | `(tactic| walk_at "ite") => `(tactic| (k_here; first | (with_reducible refine ieq_t ?_ ?_; first | with_reducible assumption | omega) | (with_reducible refine ieq_f ?_ ?_; first | with_reducible assumption | omega)))
local macro_rules | `(tactic| walk_at "call builtin:len") => `(tactic| (k_here; (with_reducible show wpAny _ _ (call (Value.builtin "len") [Value.ref _]) _ _ _); (refine KM.len_K (by k_asm) (by k_dflt k_mem) (by with_reducible assumption) (by omega) ?_)))
local macro_rules | `(tactic| walk_at "eval ListComp") => `(tactic| (k_here; k_dflt (refine' comp_at ?hf ?hk ?hn ?_ ?hs; (case hf => decide); (case hk => rfl); (case hn => decide); (case hs => (intro _; rfl)))))
local macro_rules | `(tactic| walk_at "exec Assign cons ListComp") => `(tactic| (k_here; with_reducible refine hold_of ?_))
variable {w : World} {p : Program} {loose : List Str} {mean : ExcName → Option Value} {mg mb : Str → Option Value} {dp un : Nat} {gd : Option (List Code)} {nm : Str} {fa : Addr} {cd : Value} {outer : List Env} {A₀ : Around} {base h₀ : Heap} {L : Addr} {u : Str → Option Value} {s : Shared} {E : Value → Shared → Prop}

theorem law_s2 {target iter : Expr} {body : List Stmt} {sc : Scope} {st : Stmt} (hlaw : lawIn (hd.heap_39 w.params) 82 2 = some (target, iter, body, sc)) (hst : body[1]? = some st)
    {x e r : Int} {tx tw te tr : Tok} {fl sl cS : Addr} {oS : Obj} {nn nn2 : Nat} {R : List (Addr × Obj)} {refs sits : List Value}
    (B : Below A₀ base outer h₀) (F : Fr h₀ L s.heap (fun y => if y = Str.ofString "rest" then some (.int r tr) else if y = Str.ofString "groups" then some (.ref fl) else if y = Str.ofString "end" then some (.int e te) else if y = Str.ofString "number" then some (.int x tx) else if y = Str.ofString "whole" then some (.int x tw) else u y))
    (X : (hd.heap_39 w.params).In h₀) (N : News h₀ L s.heap ((fl, listOf refs.toArray nn2) :: (cS, oS) :: (sl, listOf sits.toArray nn) :: R)) (hoS : oS.data = .cell (some (.ref sl))) (T : Top p loose mean mg mb h₀)
    (hd1 : dp + 250 < recursionLimit) (he : e = 0 ∨ e = 127) (h0 : e = 0 → r = 0) (h1 : e = 127 → refs.length ≤ sits.length) (hz1 : refs.length ≤ 200) (hz2 : sits.length ≤ 3) :
    wpAny (model PySem.Challenge.rw_zr0004_01.row.prog w) (ktrTop dp un gd nm sc L fa cd [(Str.ofString "sizes", cS)] outer) (exec st (envX nm sc L fa cd [(Str.ofString "sizes", cS)])) (Quiet s) E s := by
  cases hlaw
  cases hst
  have z1 : refs.toArray.size = refs.length := by simp
  have z2 : sits.toArray.size = sits.length := by simp
  revert X; k_fill; intro X
  have hln : (refs.length : Int) ≤ sits.length ∨ e = 0 := by rcases he with h | h; exact .inr h; exact .inl (by have := h1 h; omega)
  rcases he with rfl | rfl
  · obtain rfl := h0 rfl
    (try k_fold)
    k_steps
  · have hln := h1 rfl
    (try k_fold)
    k_steps

theorem law_s3 {target iter : Expr} {body : List Stmt} {sc : Scope} {st : Stmt} (hlaw : lawIn (hd.heap_39 w.params) 82 2 = some (target, iter, body, sc)) (hst : body[2]? = some st)
    {x e r : Int} {tx tw te tr : Tok} {fl sl cS : Addr} {oS : Obj} {nn nn2 : Nat} {R : List (Addr × Obj)} {refs sits : List Value} {ss : List Int} {Q : Flow → Shared → Prop}
    (B : Below A₀ base outer h₀) (F : Fr h₀ L s.heap (fun y => if y = Str.ofString "rest" then some (.int r tr) else if y = Str.ofString "groups" then some (.ref fl) else if y = Str.ofString "end" then some (.int e te) else if y = Str.ofString "number" then some (.int x tx) else if y = Str.ofString "whole" then some (.int x tw) else u y))
    (X : (hd.heap_39 w.params).In h₀) (N : News h₀ L s.heap ((fl, listOf refs.toArray nn2) :: (cS, oS) :: (sl, listOf sits.toArray nn) :: R)) (hoS : oS.data = .cell (some (.ref sl))) (T : Top p loose mean mg mb h₀)
    (hd1 : dp + 250 < recursionLimit) (hz1 : refs.length ≤ 200) (hz2 : sits.length ≤ 3) (hz3 : 1 ≤ sits.length) (hIA : IntsAre sits ss)
    (ret : ∀ (h : Heap) (tk : Nat) (dl : Addr) (ys : List Value) (n : Nat), Fr h₀ L h (fun z => if z = Str.ofString "due" then some (.ref dl) else (fun y => if y = Str.ofString "rest" then some (.int r tr) else if y = Str.ofString "groups" then some (.ref fl) else if y = Str.ofString "end" then some (.int e te) else if y = Str.ofString "number" then some (.int x tx) else if y = Str.ofString "whole" then some (.int x tw) else u y) z) → News h₀ L h ((dl, listOf ys.toArray n) :: (fl, listOf refs.toArray nn2) :: (cS, oS) :: (sl, listOf sits.toArray nn) :: R) → IntsAre ys (dueL ss refs.length) → Q .next { s with heap := h, toks := tk }) :
    wpAny (model PySem.Challenge.rw_zr0004_01.row.prog w) (ktrTop dp un gd nm sc L fa cd [(Str.ofString "sizes", cS)] outer) (exec st (envX nm sc L fa cd [(Str.ofString "sizes", cS)])) Q E s := by
  cases hlaw
  cases hst
  have z1 : refs.toArray.size = refs.length := by simp
  have z2 : sits.toArray.size = sits.length := by simp
  revert X; k_fill; intro X
  (try dsimp only); (try k_fold)
  k_steps
  refine (show wpAny _ _ _ _ _ _ from ?_)
  lcf_look
  lcg_calm
  k_dflt (refine LCg.Assign_ListComp_U (F₀ := by k_asm) (by rfl) (by with_unfolding_all rfl) (by with_unfolding_all rfl) (by decide) (by rfl) (by decide) (by rfl) (by rfl) (by rfl) ?_)
  k_dflt lcg_toSrc
  k_steps
  (rename News _ _ _ _ => N5)
  (rename Fr _ _ _ _ => F5)
  (rename IntsAre _ (List.map _ _) => I5)
  refine ret _ _ _ _ _ F5 N5 ?_
  exact due_eq hIA hz3 I5

theorem law_s4 {target iter : Expr} {body : List Stmt} {sc : Scope} {st : Stmt} (hlaw : lawIn (hd.heap_39 w.params) 82 2 = some (target, iter, body, sc)) (hst : body[3]? = some st)
    {x e r : Int} {tx tw te tr : Tok} {fl cS dl : Addr} {nn nn2 : Nat} {R : List (Addr × Obj)} {refs ys : List Value} {gs : List (Int × Int)} {tups : List (Addr × Obj)} {Q : Flow → Shared → Prop}
    (B : Below A₀ base outer h₀) (F : Fr h₀ L s.heap (fun z => if z = Str.ofString "due" then some (.ref dl) else (fun y => if y = Str.ofString "rest" then some (.int r tr) else if y = Str.ofString "groups" then some (.ref fl) else if y = Str.ofString "end" then some (.int e te) else if y = Str.ofString "number" then some (.int x tx) else if y = Str.ofString "whole" then some (.int x tw) else u y) z))
    (X : (hd.heap_39 w.params).In h₀) (N : News h₀ L s.heap ((dl, listOf ys.toArray nn) :: (fl, listOf refs.toArray nn2) :: R)) (T : Top p loose mean mg mb h₀)
    (hd1 : dp + 250 < recursionLimit) (hu : un + 64 < cLine) (hz1 : refs.length ≤ 200) (hT : Tups tups refs gs) (hR : ∀ q ∈ tups, q ∈ R) (hIA : IntsAre ys (gs.map (·.2)))
    (ret : ∀ (h : Heap) (tk : Nat), Fr h₀ L h (fun z => if z = Str.ofString "due" then some (.ref dl) else (fun y => if y = Str.ofString "rest" then some (.int r tr) else if y = Str.ofString "groups" then some (.ref fl) else if y = Str.ofString "end" then some (.int e te) else if y = Str.ofString "number" then some (.int x tx) else if y = Str.ofString "whole" then some (.int x tw) else u y) z) → News h₀ L h ((dl, listOf ys.toArray nn) :: (fl, listOf refs.toArray nn2) :: R) → Q .next { s with heap := h, toks := tk }) :
    wpAny (model PySem.Challenge.rw_zr0004_01.row.prog w) (ktrTop dp un gd nm sc L fa cd [(Str.ofString "sizes", cS)] outer) (exec st (envX nm sc L fa cd [(Str.ofString "sizes", cS)])) Q E s := by
  cases hlaw
  cases hst
  revert X; k_fill; intro X
  (try dsimp only); (try k_fold)
  obtain ⟨vals, hvl, hvs⟩ := tups_vals hT
  k_steps
  refine comp2 (nn := nn2) (vals := vals) rfl F N (.tail _ (.head _)) (by rw [hT.len, hvl]) (by rw [hvl, ← hT.len]; omega) (fun i v1 v2 e => ?_) (by decide) rfl (by rfl) (by rfl) (by decide) (fun i y => ∃ z t, (gs.map (·.2))[i]? = some z ∧ y = .int z t) (fun i v1 v2 C m₂ s' led' E' e h1 h2 hn F2 N2 hs => ?_) (fun D h tk zs n F2 N2 hlt hzl hG => ?_)
  · obtain ⟨g, z, t1, t2, a, h1, h2, h3, h4, h5⟩ := hvs i v1 v2 e
    exact ⟨a, h4, .tail _ (.tail _ (hR _ h5))⟩
  · obtain ⟨g, z, t1, t2, a, k1, k2, k3, k4, k5⟩ := hvs i v1 v2 e
    obtain ⟨hh, tk, rfl⟩ := hs
    exact block_name hn h2 rfl (by rfl) ⟨⟨z, t2, by rw [List.getElem?_map, k1]; rfl, k3⟩, hh, tk, rfl, F2, N2⟩
  · have hI2 : IntsAre zs (gs.map (·.2)) := intsAre_at (by rw [hzl, hvl, List.length_map]) hG
    clear F N
    (try dsimp only); (try k_fold)
    k_steps
    exact ret _ _ F2 (fun q hq => N2 q (.tail _ hq))
end
end Mine

/-! part L3 -/

namespace Mine

theorem range_pick {α : Type} (f : Nat → Option α) (r : List α) (h : ∀ k, k < r.length → f k = r[k]?) : ∀ n, n ≤ r.length → (List.range n).filterMap f = r.take n
  | 0, _ => by simp
  | n + 1, hn => by
    rw [List.range_succ, List.filterMap_append, range_pick f r h n (by omega), List.take_succ]
    congr 1
    rw [List.filterMap_cons, h n (by omega), List.getElem?_eq_getElem (by omega)]
    rfl
theorem pick_rev (l : List Value) : slicePick l.toArray none none (some (-1)) = l.reverse.toArray := by
  unfold slicePick
  congr 1
  have hb : sliceBounds none none (some (-1)) l.toArray.size = ((l.length : Int) - 1, -1, -1) := by simp [sliceBounds]
  rw [hb]
  have hr : sliceRange ((l.length : Int) - 1) (-1) (-1) = (List.range l.length).map fun k => l.length - 1 - k := by
    unfold sliceRange
    simp only [show ¬ ((-1 : Int) > 0) by decide, if_false, Int.neg_neg, Int.ediv_one]
    have hc : (if (l.length : Int) - 1 > -1 then (l.length : Int) - 1 - -1 - -1 - 1 else 0).toNat = l.length := by split <;> omega
    rw [hc]
    refine List.map_congr_left fun k _ => ?_
    omega
  simp only [hr]
  rw [List.filterMap_map]
  have := range_pick (fun k => l.toArray[l.length - 1 - k]?) l.reverse (fun k hk => by
    rw [List.length_reverse] at hk
    rw [List.getElem?_reverse hk, List.getElem?_toArray]) l.length (by simp)
  rw [List.take_of_length_le (by simp)] at this
  exact this

theorem carried_at {α : Type} {its : List Value} {l : List α} {g : α → Str} (hl : its.length = l.length) (h : ∀ (i : Nat) y, its[i]? = some y → ∃ a t, l[i]? = some a ∧ y = .str (g a) t) : CarriedAll its (l.map fun a => PyData.str (g a)) := by
  induction its generalizing l with
  | nil => cases l with
    | nil => exact .nil
    | cons _ _ => simp at hl
  | cons v its ih => cases l with
    | nil => simp at hl
    | cons a l =>
      obtain ⟨a', t, h1, h2⟩ := h 0 v rfl
      simp only [List.getElem?_cons_zero, Option.some.injEq] at h1
      subst h1; subst h2
      exact .cons (.str _ _) (ih (by simpa using hl) fun i y e => by simpa using h (i + 1) y (by simpa using e))

theorem block_glob {M : Model} {A : Around} {E : Value → Shared → Prop} {s : Shared} {scope : Scope} {C : Addr} {env : Env} {x : Str} {pos : Pos} {v : Value} {K : Frag} {h₀ : Heap} {L : Addr} {m mg mb : Str → Option Value} {p : Program} {loose : List Str} {mean : ExcName → Option Value} {Q : Value → Shared → Prop}
    (F : Fr h₀ L s.heap m) (X : K.In h₀) (T : Top p loose mean mg mb h₀) (e : nsIn K mainGlobals x = some (some v)) (h : Q v s) (hg : env.globals = mainGlobals := by rfl)
    (hk : (blockEnv scope C env).scope.kind = .function := by rfl) (hx : (blockEnv scope C env).kindOf x = some .globalImplicit := by rfl) (hd : (x == ("__debug__" : Str)) = false := by decide) :
    wpAny M A (eval (.Name x pos) (blockEnv scope C env)) Q E s :=
  Name_function_global hk hx (loadGlobal_global (env := blockEnv scope C env) (show s.heap.Ns env.globals mg from hg ▸ (T.keeps F.keep).g) (mg_of X T.g e) h) hd

theorem num_len {x : Int} {k : Nat} (hk : 0 < k) (h0 : 0 ≤ x) (h : x < 10 ^ k) : (Str.ofString (toString x)).length ≤ k := by
  obtain ⟨m, rfl⟩ := Int.eq_ofNat_of_zero_le h0
  have h1 : (Str.ofString (toString ((m : Nat) : Int))).length = (Nat.toDigits 10 m).length := by
    show (Str.ofString (toString ((m : Nat) : Int))).cps.size = _
    rw [← Array.length_toList, KIN.signs_num, List.length_map]
  rw [h1]
  exact (Nat.length_toDigits_le_iff (by decide) hk).mpr (by exact_mod_cast h)

/-- an element's end -/
def EltEnd (h₀ : Heap) (L : Addr) (m : Str → Option Value) (G : Value → Prop) (s' : Shared) (led' : List (Addr × Obj)) (y : Value) (s'' : Shared) : Prop := G y ∧ ∃ h tk, s'' = { s' with heap := h, toks := tk } ∧ Fr h₀ L h m ∧ News h₀ L h led'

theorem foldl_cps (a : Array Nat) : ∀ (k : Nat) (acc : Array Nat), ((List.replicate k a).foldl (· ++ ·) acc).toList = acc.toList ++ (List.replicate k a.toList).flatten
  | 0, acc => by simp
  | k + 1, acc => by
    rw [List.replicate_succ, List.foldl_cons, foldl_cps a k, List.replicate_succ, List.flatten_cons, Array.toList_append, List.append_assoc]
theorem mul_cps (n : Int) : (Txt.mul (Str.ofString "0") n).cps.toList = List.replicate n.toNat 48 := by
  have e0 : (Str.ofString "0").cps = #[48] := by decide
  have ef : ∀ k : Nat, (List.replicate k [48]).flatten = List.replicate k 48 := fun k => by
    induction k with
    | zero => rfl
    | succ k ih => rw [List.replicate_succ, List.flatten_cons, ih, List.replicate_succ]; rfl
  unfold Txt.mul
  split
  · rw [show n.toNat = 0 by omega]; rfl
  · split
    · rename_i h1 h2
      have : n = 1 := by
        simp only [Bool.or_eq_true, beq_iff_eq] at h2
        rcases h2 with h2 | h2
        · exact h2
        · exact absurd h2 (by decide)
      subst this
      rw [e0]; rfl
    · show ((List.replicate n.toNat (Str.ofString "0").cps).foldl (· ++ ·) #[]).toList = _
      rw [foldl_cps, e0, ef]; rfl
theorem num_cps {x : Int} (h0 : 0 ≤ x) : (Str.ofString (toString x)).cps.toList = (Nat.toDigits 10 x.toNat).map Char.toNat := by
  obtain ⟨m, rfl⟩ := Int.eq_ofNat_of_zero_le h0
  exact KIN.signs_num m
theorem app_cps (a b : Str) : (a ++ b).cps.toList = a.cps.toList ++ b.cps.toList := by
  rw [PySem.Str.cps_append, Array.toList_append]
theorem len_cps (a : Str) : a.length = a.cps.toList.length := by rw [Array.length_toList]; rfl
theorem fill_cps {z x : Int} (h0 : 0 ≤ x) : (fillS z x).cps.toList = List.replicate (z - ((Nat.toDigits 10 x.toNat).length : Int)).toNat 48 ++ (Nat.toDigits 10 x.toNat).map Char.toNat := by
  unfold fillS
  rw [app_cps, mul_cps, num_cps h0, len_cps, num_cps h0, List.length_map]

theorem fill_len {z x : Int} (h0 : 0 ≤ x) (h : x < 10000) (hz : z ≤ 4) : (fillS z x).length ≤ 8 := by
  have h1 := num_len (k := 4) (by decide) h0 (by omega)
  rw [len_cps, num_cps h0, List.length_map] at h1
  rw [len_cps, fill_cps h0, List.length_append, List.length_replicate, List.length_map]
  omega

section
local macro_rules | `(tactic| k_mem) => `(tactic| first | (with_reducible assumption) | exact List.Mem.head _ | (refine' mem_tl ?_; k_mem))
local macro_rules | `(tactic| walk_at "ite") => `(tactic| (k_here; first | (with_reducible refine ieq_t ?_ ?_; first | with_reducible assumption | omega) | (with_reducible refine ieq_f ?_ ?_; first | with_reducible assumption | omega)))
local macro_rules | `(tactic| walk_at "call builtin:len") => `(tactic| (k_here; (with_reducible show wpAny _ _ (call (Value.builtin "len") [Value.ref _]) _ _ _); (refine KM.len_K (by k_asm) (by k_dflt k_mem) (by with_reducible assumption) (by omega) ?_)))
local macro_rules | `(tactic| walk_at "eval ListComp") => `(tactic| (k_here; k_dflt (refine' comp_at ?hf ?hk ?hn ?_ ?hs; (case hf => decide); (case hk => rfl); (case hn => decide); (case hs => (intro _; rfl)))))
local macro_rules | `(tactic| walk_at "exec Assign cons ListComp") => `(tactic| (k_here; with_reducible refine hold_of ?_))
local macro_rules | `(tactic| walk_at "eval Name") => `(tactic| (k_here; (with_reducible show wpAny _ _ (eval (Expr.Name _ _) (blockEnv _ _ _)) _ _ _); k_dflt (first
  | (refine' block_name ?hn ?hv ?hk ?hx ?_; (case hk => rfl); (case hx => rfl); (case hn => assumption); (case hv => assumption))
  | (refine' block_glob ?F ?X ?T ?e ?_; (case F => k_asm); (case X => k_asm); (case T => k_asm); (case e => k_is)))))
local macro_rules | `(tactic| walk_at "call ref") => `(tactic| (k_here; k_dflt (refine' spec_law_filled ?B ?F ?X ?N ?T ?hk ?hd1 ?hx ?hx1 ?hz ?hz4 ?_; (case B => k_asm); (case F => k_asm); (case X => k_asm); (case N => k_asm); (case T => k_asm); (case hk => exact rfl); (case hd1 => ktr_room); (case hx => assumption); (case hx1 => assumption); (case hz => assumption); (case hz4 => assumption)); intro h9 tk9 t9 F9 N9; (try dsimp only); (try k_fold)))
local macro_rules | `(tactic| walk_at "call builtin:str.join") => `(tactic| (k_here; k_dflt (refine KT.join_B 8 (by is_list) (by assumption) (by assumption) (by assumption) (by decide) ?_); intro _ _))
local macro_rules | `(tactic| walk_at "binaryOp Add str str") => `(tactic| (k_here; k_dflt (refine SBL.add (hsz := ?hsz) ?_; (case hsz => assumption)); intro _ _ _))
local macro_rules | `(tactic| walk_at "call builtin:str.lstrip") => `(tactic| (k_here; (with_reducible show wpAny _ _ (call (Value.builtin "str.lstrip") [Value.str _ _, Value.str _ _]) _ _ _); k_dflt (refine KXw.lstripChars rfl (by assumption) ?_); intro _ _))
variable {w : World} {p : Program} {loose : List Str} {mean : ExcName → Option Value} {mg mb : Str → Option Value} {dp un : Nat} {gd : Option (List Code)} {nm : Str} {fa : Addr} {cd : Value} {outer : List Env} {A₀ : Around} {base h₀ : Heap} {L : Addr} {u : Str → Option Value} {s : Shared} {E : Value → Shared → Prop}

theorem law_s5 {target iter : Expr} {body : List Stmt} {sc : Scope} {st : Stmt} (hlaw : lawIn (hd.heap_39 w.params) 82 2 = some (target, iter, body, sc)) (hst : body[4]? = some st)
    {x e r : Int} {tx tw te tr : Tok} {fl cS : Addr} {nn2 : Nat} {R : List (Addr × Obj)} {refs : List Value} {gs : List (Int × Int)} {tups : List (Addr × Obj)} {Q : Flow → Shared → Prop}
    (B : Below A₀ base outer h₀) (F : Fr h₀ L s.heap (fun y => if y = Str.ofString "rest" then some (.int r tr) else if y = Str.ofString "groups" then some (.ref fl) else if y = Str.ofString "end" then some (.int e te) else if y = Str.ofString "number" then some (.int x tx) else if y = Str.ofString "whole" then some (.int x tw) else u y))
    (X : (hd.heap_39 w.params).In h₀) (N : News h₀ L s.heap ((fl, listOf refs.toArray nn2) :: R)) (T : Top p loose mean mg mb h₀)
    (hd1 : dp + 250 < recursionLimit) (hu : un + 64 < cLine) (hz1 : refs.length ≤ 200) (hT : Tups tups refs gs) (hR : ∀ q ∈ tups, q ∈ R) (hgs : ∀ (i : Nat) g z, gs[i]? = some (g, z) → 0 ≤ g ∧ g < 10000 ∧ 1 ≤ z ∧ z ≤ 4)
    (ret : ∀ (h : Heap) (tk : Nat) (t : Tok), Fr h₀ L h (fun z => if z = Str.ofString "told" then some (.str (Txt.join (Str.ofString "") (gs.reverse.map fun q => fillS q.2 q.1)) t) else (fun y => if y = Str.ofString "rest" then some (.int r tr) else if y = Str.ofString "groups" then some (.ref fl) else if y = Str.ofString "end" then some (.int e te) else if y = Str.ofString "number" then some (.int x tx) else if y = Str.ofString "whole" then some (.int x tw) else u y) z) → News h₀ L h ((fl, listOf refs.toArray nn2) :: R) → Q .next { s with heap := h, toks := tk }) :
    wpAny (model PySem.Challenge.rw_zr0004_01.row.prog w) (ktrTop dp un gd nm sc L fa cd [(Str.ofString "sizes", cS)] outer) (exec st (envX nm sc L fa cd [(Str.ofString "sizes", cS)])) Q E s := by
  cases hlaw
  cases hst
  revert X; k_fill; intro X
  (try dsimp only); (try k_fold)
  obtain ⟨vals, hvl, hvs⟩ := tups_vals hT
  k_steps
  rename_i h1 F1 N1
  rw [pick_rev] at N1
  refine comp2 (nn := 0) (vals := vals.reverse) rfl F1 N1 (.head _) (by rw [List.length_reverse, List.length_reverse, hT.len, hvl]) (by rw [List.length_reverse, hvl, ← hT.len]; omega) (fun i v1 v2 e => ?_) (by decide) rfl (by rfl) (by rfl) (by decide) (fun i y => ∃ q t, gs.reverse[i]? = some q ∧ y = .str (fillS q.2 q.1) t) (fun i v1 v2 C m₂ s' led' E' e h1 h2 hn F2 N2 hs => ?_) (fun D h tk zs n F2 N2 hlt hzl hG => ?_)
  · have hi : i < gs.length := by have := (List.getElem?_eq_some_iff.mp e).1; rw [List.length_reverse, hvl] at this; exact this
    rw [List.getElem?_reverse (by omega)] at e
    obtain ⟨g, z, t1, t2, a, h1, h2, h3, h4, h5⟩ := hvs _ v1 v2 e
    exact ⟨a, by rw [List.getElem?_reverse (by rw [hT.len]; exact hi), hT.len, ← hvl]; exact h4, .tail _ (.tail _ (hR _ h5))⟩
  · have hi : i < gs.length := by have := (List.getElem?_eq_some_iff.mp e).1; rw [List.length_reverse, hvl] at this; exact this
    rw [List.getElem?_reverse (by omega), hvl] at e
    obtain ⟨g, z, t1, t2, a, k1, rfl, rfl, k4, k5⟩ := hvs _ v1 v2 e
    obtain ⟨hh, tk, rfl⟩ := hs
    obtain ⟨b1, b2, b3, b4⟩ := hgs _ _ _ k1
    clear F N F1 N1
    have hq : gs.reverse[i]? = some (g, z) := by rw [List.getElem?_reverse hi]; exact k1
    show wpAny _ _ _ (EltEnd _ _ _ _ _ _) _ _
    (try dsimp only); (try k_fold)
    k_steps
    exact ⟨⟨(g, z), _, hq, rfl⟩, _, _, rfl, by assumption, by assumption⟩
  · have hI2 : CarriedAll zs (gs.reverse.map fun q => PyData.str (fillS q.2 q.1)) := carried_at (by rw [hzl, List.length_reverse, List.length_reverse, hvl]) hG
    have hB : ∀ q ∈ gs.reverse, (fillS q.2 q.1).length ≤ 8 := fun q hq => by
      obtain ⟨i, hi⟩ := List.mem_iff_getElem?.mp (List.mem_reverse.mp hq)
      obtain ⟨b1, b2, b3, b4⟩ := hgs i q.1 q.2 hi
      exact fill_len b1 b2 b4
    have hL : gs.reverse.length ≤ 1048576 := by rw [List.length_reverse, ← hT.len]; omega
    clear F N F1 N1
    (try dsimp only); (try k_fold)
    k_steps
    (rename Fr _ _ _ _ => F9)
    (rename News _ _ _ _ => N9)
    exact ret _ _ _ F9 (fun q hq => N9 q (.tail _ (.tail _ hq)))

theorem law_s6 {target iter : Expr} {body : List Stmt} {sc : Scope} {st : Stmt} (hlaw : lawIn (hd.heap_39 w.params) 82 2 = some (target, iter, body, sc)) (hst : body[5]? = some st)
    {x e r : Int} {tx tw te tr tt : Tok} {fl cS : Addr} {R : List (Addr × Obj)} {told : Str}  {Q : Flow → Shared → Prop}
    (B : Below A₀ base outer h₀) (F : Fr h₀ L s.heap (fun z => if z = Str.ofString "told" then some (.str told tt) else (fun y => if y = Str.ofString "rest" then some (.int r tr) else if y = Str.ofString "groups" then some (.ref fl) else if y = Str.ofString "end" then some (.int e te) else if y = Str.ofString "number" then some (.int x tx) else if y = Str.ofString "whole" then some (.int x tw) else u y) z))
    (X : (hd.heap_39 w.params).In h₀) (N : News h₀ L s.heap R) (T : Top p loose mean mg mb h₀)
    (hd1 : dp + 250 < recursionLimit) (hu : un + 64 < cLine) (hx0 : 0 ≤ x) (hx1 : x < 10 ^ 50) (hr : 0 ≤ r) (hr1 : r < 10 ^ 50) (htl : told.length ≤ 2000)
    (htx : Txt.lstripChars (Str.ofString (toString r) ++ told) (Str.ofString "0") = Txt.lstripChars (Str.ofString (toString x)) (Str.ofString "0"))
    (ret : ∀ tk : Nat, Q .next { s with toks := tk }) :
    wpAny (model PySem.Challenge.rw_zr0004_01.row.prog w) (ktrTop dp un gd nm sc L fa cd [(Str.ofString "sizes", cS)] outer) (exec st (envX nm sc L fa cd [(Str.ofString "sizes", cS)])) Q E s := by
  cases hlaw
  cases hst
  have ln1 := num_len (k := 50) (by decide) hr hr1
  have ln2 := num_len (k := 50) (by decide) hx0 hx1
  have sz1 : (Str.ofString (toString r)).length + told.length ≤ sizeLine := by rw [sizeLine_eq]; omega
  have sz2 : (Str.ofString (toString x)).length ≤ sizeLine := by rw [sizeLine_eq]; omega
  have sz3 : (Str.ofString (toString r) ++ told).length ≤ sizeLine := by rw [show (Str.ofString (toString r) ++ told).length = (Str.ofString (toString r)).length + told.length from Array.size_append]; exact sz1
  revert X; k_fill; intro X
  (try dsimp only); (try k_fold)
  k_steps
  · rename_i hc
    rw [htx] at hc
    simp at hc
  · exact ret _
end
end Mine

/-! part L4 -/

namespace Mine

theorem Led.fr {t : List (Addr × Obj)} {l : List (Addr × Obj)} (h : ∀ p ∈ l, NotTab p.2) : Led t (l ++ t) l := by
  have := Led.app (tb := t) (r := t) (nw := []) (l := l) h Led.tail
  rwa [List.append_nil] at this

theorem s7_map {m : Str → Option Value} {v1 v2 w1 w2 : Option Value} :
    (fun y => if y = Str.ofString "size" then v2 else if y = Str.ofString "group" then v1 else (fun y => if y = Str.ofString "size" then w2 else if y = Str.ofString "group" then w1 else m y) y) =
      fun y => if y = Str.ofString "size" then v2 else if y = Str.ofString "group" then v1 else m y := by
  funext y; dsimp only; (repeat' split) <;> rfl
theorem s7_map0 {m : Str → Option Value} : m = fun y => if y = Str.ofString "size" then m (Str.ofString "size") else if y = Str.ofString "group" then m (Str.ofString "group") else m y := by
  funext y; (repeat' split) <;> first | rfl | (rename_i h; rw [h])

theorem news_tail {h₀ h : Heap} {L : Addr} {a : Addr × Obj} {l : List (Addr × Obj)} (N : News h₀ L h (a :: l)) : News h₀ L h l := fun q hq => N q (.tail _ hq)

theorem small_bits {g : Int} (h0 : 0 ≤ g) (h : g < 10000) : (Builtin.Int.intBits g : Int) ≤ 14 := by
  have := bits_le (b := 14) h0 (by omega); omega

section
local macro_rules | `(tactic| k_mem) => `(tactic| first | (with_reducible assumption) | exact List.Mem.head _ | (refine' mem_tl ?_; k_mem))
local macro_rules | `(tactic| walk_at "ite") => `(tactic| (k_here; first | (with_reducible refine ieq_t ?_ ?_; first | with_reducible assumption | omega) | (with_reducible refine ieq_f ?_ ?_; first | with_reducible assumption | omega)))
local macro_rules | `(tactic| walk_at "exec For") => `(tactic| (k_here; k_dflt (refine' for_at ?_ ?hs; (case hs => (intro _; rfl)))))
local macro_rules | `(tactic| ktr_rel) => `(tactic| repeat' (first | exact Led.tail | exact (show Led _ _ _ by assumption) | exact Led.fr (by assumption) | refine' Led.cons notTab_gen ?_ | refine' Led.cons (notTab_lit rfl) ?_ | refine' Led.cons (notTab_cell (by assumption)) ?_ | refine' Led.cons (notTab_iter (by assumption) (by assumption)) ?_))
local macro_rules | `(tactic| walk_at "call ref") => `(tactic| (k_here; k_dflt (refine' spec_int2digits ?B ?F ?X ?N ?hl ?hK ?T ?hk ?hd1 ?hx ?hb ?hk0 ?hk2 ?_; (case hK => assumption); (case B => k_asm); (case F => k_asm); (case X => k_asm); (case N => k_asm); (case hl => ktr_rel); (case T => k_asm); (case hk => exact rfl); (case hd1 => ktr_room); (case hx => first | assumption | omega); (case hb => first | assumption | omega); (case hk0 => first | assumption | omega); (case hk2 => first | assumption | omega)); intro h9 tk9 l9 its9 tb9 F9 N9 K9 S9 I9; (try simp only [List.cons_append, List.nil_append] at N9); (try dsimp only); (try k_fold)))
local macro_rules | `(tactic| walk_at "call ref") => `(tactic| (k_here; k_dflt (refine' spec_digits2int ?B ?F ?X ?N ?hl ?hK ?T ?hk ?hd1 ?hD ?hIA ?hDD ?hlen ?hk0 ?hk2 ?_; (case hK => assumption); (case B => k_asm); (case F => k_asm); (case X => k_asm); (case N => k_asm); (case hl => ktr_rel); (case T => k_asm); (case hk => exact rfl); (case hd1 => ktr_room); (case hD => k_mem); (case hIA => assumption); (case hDD => assumption); (case hlen => first | assumption | omega); (case hk0 => first | assumption | omega); (case hk2 => first | assumption | omega)); intro h9 tk9 t9 tb9 F9 N9 K9 S9; (try simp only [List.cons_append, List.nil_append] at N9); (try dsimp only); (try k_fold)))
variable {w : World} {p : Program} {loose : List Str} {mean : ExcName → Option Value} {mg mb : Str → Option Value} {dp un : Nat} {gd : Option (List Code)} {nm : Str} {fa : Addr} {cd : Value} {outer : List Env} {A₀ : Around} {base h₀ : Heap} {L : Addr} {u : Str → Option Value} {s : Shared} {E : Value → Shared → Prop}

theorem law_s7 {target iter : Expr} {body : List Stmt} {sc : Scope} {st : Stmt} (hlaw : lawIn (hd.heap_39 w.params) 82 2 = some (target, iter, body, sc)) (hst : body[6]? = some st)
    {x e r : Int} {tx tw te tr : Tok} {fl cS : Addr} {nn2 : Nat} {fr tb : List (Addr × Obj)} {refs : List Value} {gs : List (Int × Int)} {tups : List (Addr × Obj)} {Q : Flow → Shared → Prop}
    (B : Below A₀ base outer h₀) (F : Fr h₀ L s.heap (fun y => if y = Str.ofString "rest" then some (.int r tr) else if y = Str.ofString "groups" then some (.ref fl) else if y = Str.ofString "end" then some (.int e te) else if y = Str.ofString "number" then some (.int x tx) else if y = Str.ofString "whole" then some (.int x tw) else u y))
    (X : (hd.heap_39 w.params).In h₀) (N : News h₀ L s.heap (fr ++ tb)) (hfr : ∀ q ∈ fr, NotTab q.2) (hK : TabsIn tb) (hfl : (fl, listOf refs.toArray nn2) ∈ fr) (T : Top p loose mean mg mb h₀)
    (hd1 : dp + 250 < recursionLimit) (hu : un + 64 < cLine) (hz1 : refs.length ≤ 200) (hT : Tups tups refs gs) (hR : ∀ q ∈ tups, q ∈ fr) (hgs : ∀ (i : Nat) g z, gs[i]? = some (g, z) → 0 ≤ g ∧ g < 10 ^ z.toNat ∧ 1 ≤ z ∧ z ≤ 4)
    (ret : ∀ (h : Heap) (tk : Nat) (tb' : List (Addr × Obj)) (u1 u2 : Option Value), Fr h₀ L h (fun y => if y = Str.ofString "size" then u2 else if y = Str.ofString "group" then u1 else (fun y => if y = Str.ofString "rest" then some (.int r tr) else if y = Str.ofString "groups" then some (.ref fl) else if y = Str.ofString "end" then some (.int e te) else if y = Str.ofString "number" then some (.int x tx) else if y = Str.ofString "whole" then some (.int x tw) else u y) y) → News h₀ L h (fr ++ tb') → TabsIn tb' → Q .next { s with heap := h, toks := tk }) :
    wpAny (model PySem.Challenge.rw_zr0004_01.row.prog w) (ktrTop dp un gd nm sc L fa cd [(Str.ofString "sizes", cS)] outer) (exec st (envX nm sc L fa cd [(Str.ofString "sizes", cS)])) Q E s := by
  cases hlaw
  cases hst
  revert X; k_fill; intro X
  (try dsimp only); (try k_fold)
  obtain ⟨vals, hvl, hvs⟩ := tups_vals hT
  have hflt := List.mem_append_left tb hfl
  k_steps
  refine iter_list F N (IsL.isList (n := nn2) (N _ hflt).1) fun I oI h1 F1 N1 hcI hdI hltI => ?_
  refine for_fr F1 N1 refs.length (fun m₀ i m led => ∃ oI tb' u1 u2, m = (fun y => if y = Str.ofString "size" then u2 else if y = Str.ofString "group" then u1 else m₀ y) ∧ led = (I, oI) :: (fr ++ tb') ∧ TabsIn tb' ∧ oI.cls = .type "list_iterator" ∧ oI.data = .fields #[.ref fl, .int (i : Int) 0])
    ⟨oI, tb, _, _, s7_map0, rfl, hK, hcI, hdI⟩ ?_ ?_
  · rintro i m led h tk hi ⟨oI, tb', u1, u2, rfl, rfl, K2, hc, hd⟩ F2 N2
    have hne : ∀ q ∈ fr ++ tb', q.1 ≠ I := fun q hq => (List.mem_append.mp hq).elim (fun hq => Nat.ne_of_lt (hltI q (List.mem_append_left _ hq))) (fun hq => tb_ne N2 (.head _) (fun p hp => .tail _ (List.mem_append_right _ hp)) K2 (notTab_iter hc hd) q hq)
    obtain ⟨⟨v1, v2⟩, hv⟩ : ∃ v, vals[i]? = some v := ⟨_, List.getElem?_eq_getElem (by rw [hvl, ← hT.len]; exact hi)⟩
    obtain ⟨g, z, t1, t2, a, k1, rfl, rfl, k4, k5⟩ := hvs i v1 v2 hv
    obtain ⟨b1, b2, b3, b4⟩ := hgs _ _ _ k1
    have hmf : ∀ t : List (Addr × Obj), (fl, listOf refs.toArray nn2) ∈ fr ++ t := fun t => List.mem_append_left _ hfl
    refine next_list F2 N2 hc hd (IsL.isList (n := nn2) (N2 _ (.tail _ (hmf _))).1) hne (by simpa using k4) fun h3 oI' F4 N4 hc' hd' => ?_
    dsimp only
    refine ⟨_, rfl, own_go (N4 _ (.head _)).1 hc' hd' ?_⟩
    have hmT : (a, tup2 (.int g t1) (.int z t2)) ∈ fr ++ tb' := List.mem_append_left _ (hR _ k5)
    have hp4 : (10 : Int) ^ z.toNat ≤ 10 ^ 4 := pow10_mono (by omega)
    have hp0 := pow10_pos z.toNat
    have hg4 : g < 10000 := by omega
    have hbits := small_bits b1 hg4
    have hdm := digs_mem (Int.toNat 4) (((Builtin.Int.intBits g : Int) + 4 - 1) / 4).toNat g
    have hdl : (digs (Int.toNat 4) (((Builtin.Int.intBits g : Int) + 4 - 1) / 4).toNat g).length ≤ 200 := by rw [digs_length]; omega
    have hun : undig (Int.toNat 4) (digs (Int.toNat 4) (((Builtin.Int.intBits g : Int) + 4 - 1) / 4).toNat g) = g := by
      refine undig_digs_eq b1 (Int.lt_of_lt_of_le (lt_bits b1) (pow_mono ?_))
      show _ ≤ 4 * _
      omega
    clear F N F1 N1 F2 N2
    (try dsimp only); (try k_fold)
    k_steps
    · rename_i hc
      rw [hun] at hc
      simp at hc
    · (rename Fr _ _ _ _ => F5)
      (rename News _ _ _ _ => N5)
      (rename TabsIn _ => K5)
      exact ⟨_, _, _, _, rfl, F5, news_tail N5, oI', _, _, _, s7_map, rfl, K5, hc', hd'⟩
  · rintro m led h tk ⟨oI, tb', u1, u2, rfl, rfl, K2, hc, hd⟩ F2 N2
    have hne : ∀ q ∈ fr ++ tb', q.1 ≠ I := fun q hq => (List.mem_append.mp hq).elim (fun hq => Nat.ne_of_lt (hltI q (List.mem_append_left _ hq))) (fun hq => tb_ne N2 (.head _) (fun p hp => .tail _ (List.mem_append_right _ hp)) K2 (notTab_iter hc hd) q hq)
    refine done_list rfl F2 N2 hc hd (IsL.isList (n := nn2) (N2 _ (.tail _ (List.mem_append_left _ hfl))).1) hne (by simp) fun h3 F4 N4 => ?_
    exact ⟨rfl, ret _ _ _ _ _ F4 N4 K2⟩
end
end Mine

/-! part L5 -/

namespace Mine

/-- what the turn leans on: the plain facts about a cut number -/
structure PlainOK (ss : List Int) (e x : Int) : Prop where
  r0 : e = 0 → (grp (sigma ss e) 200 0 x).2 = 0
  few : e = 127 → (grp (sigma ss e) 200 0 x).1.length ≤ ss.length
  due : (grp (sigma ss e) 200 0 x).1.map (·.2) = dueL ss (grp (sigma ss e) 200 0 x).1.length
  at' : ∀ (i : Nat) g z, (grp (sigma ss e) 200 0 x).1[i]? = some (g, z) → 0 ≤ g ∧ g < 10 ^ z.toNat ∧ 1 ≤ z ∧ z ≤ 4
  lo : 0 ≤ (grp (sigma ss e) 200 0 x).2
  hi : (grp (sigma ss e) 200 0 x).2 < 10 ^ 50
  len : (grp (sigma ss e) 200 0 x).1.length ≤ 200
  text : Txt.lstripChars (Str.ofString (toString (grp (sigma ss e) 200 0 x).2) ++ Txt.join (Str.ofString "") ((grp (sigma ss e) 200 0 x).1.reverse.map fun q => fillS q.2 q.1)) (Str.ofString "0") = Txt.lstripChars (Str.ofString (toString x)) (Str.ofString "0")
  tlen : (Txt.join (Str.ofString "") ((grp (sigma ss e) 200 0 x).1.reverse.map fun q => fillS q.2 q.1)).length ≤ 2000

theorem s1_news {h₀ h : Heap} {L : Addr} {a b c d e f : Addr × Obj} {tups r : List (Addr × Obj)} (N : News h₀ L h (a :: b :: (tups ++ c :: d :: e :: f :: r))) : News h₀ L h (b :: e :: f :: (tups ++ r)) := fun q hq => N q (by
  simp only [List.mem_cons, List.mem_append] at hq ⊢
  rcases hq with h | h | h | h | h <;> simp only [h, true_or, or_true])

section
local macro_rules | `(tactic| k_mem) => `(tactic| first | (with_reducible assumption) | exact List.Mem.head _ | (refine' mem_tl ?_; k_mem))
local macro_rules | `(tactic| k_ne) => `(tactic| first | (refine neN ?_; (try dsimp only); omega) | (refine' news_ne ?nN ?n1 ?n2 ?n3; (case nN => with_reducible assumption); (case n1 => k_mem); (case n2 => k_mem); (case n3 => (intro e9; (have e8 := congrArg Obj.cls e9); simp [genObj] at e8))))
local macro_rules | `(tactic| ktr_rel) => `(tactic| repeat' (first | exact Led.tail | exact (show Led _ _ _ by assumption) | exact Led.fr (by assumption) | refine' Led.cons notTab_gen ?_ | refine' Led.cons (notTab_lit rfl) ?_ | refine' Led.cons (notTab_cell (by assumption)) ?_ | refine' Led.cons (notTab_iter (by assumption) (by assumption)) ?_))
local macro_rules | `(tactic| walk_at "call ref") => `(tactic| (k_here; k_dflt (refine' spec_law_groups ?B ?F ?X ?N ?hl ?hK ?T ?hk ?hd1 ?hx ?hx1 ?hD ?hIA ?hss ?hs0 ?hsl ?he ?hb ?_; (case hK => assumption); (case B => k_asm); (case F => k_asm); (case X => k_asm); (case N => k_asm); (case hl => ktr_rel); (case T => k_asm); (case hk => exact rfl); (case hd1 => ktr_room); (case hx => assumption); (case hx1 => assumption); (case hD => k_mem); (case hIA => assumption); (case hss => assumption); (case hs0 => assumption); (case hsl => assumption); (case he => assumption); (case hb => assumption)); intro h9 tk9 gens9 tup9 fl9 t9 refs9 nn9 tups9 tb9 F9 N9 K9 S9 T9 b9; (try simp only [List.cons_append, List.nil_append] at N9); (try dsimp only); (try k_fold)))
variable {w : World} {p : Program} {loose : List Str} {mean : ExcName → Option Value} {mg mb : Str → Option Value} {dp un : Nat} {gd : Option (List Code)} {nm : Str} {fa : Addr} {cd : Value} {outer : List Env} {A₀ : Around} {base h₀ : Heap} {L : Addr} {u : Str → Option Value} {s : Shared} {E : Value → Shared → Prop}

theorem law_s1 {target iter : Expr} {body : List Stmt} {sc : Scope} {st : Stmt} (hlaw : lawIn (hd.heap_39 w.params) 82 2 = some (target, iter, body, sc)) (hst : body[0]? = some st)
    {x e : Int} {tx tw te : Tok} {sl cS : Addr} {oS : Obj} {nn : Nat} {fr tb : List (Addr × Obj)} {sits : List Value} {ss : List Int} {Q : Flow → Shared → Prop}
    (B : Below A₀ base outer h₀) (F : Fr h₀ L s.heap (fun y => if y = Str.ofString "end" then some (.int e te) else if y = Str.ofString "number" then some (.int x tx) else if y = Str.ofString "whole" then some (.int x tw) else u y))
    (X : (hd.heap_39 w.params).In h₀) (N : News h₀ L s.heap ((cS, oS) :: (sl, listOf sits.toArray nn) :: (fr ++ tb))) (hoS : oS.data = .cell (some (.ref sl))) (hfr : ∀ q ∈ fr, NotTab q.2) (hK : TabsIn tb) (T : Top p loose mean mg mb h₀)
    (hd1 : dp + 250 < recursionLimit) (hx : 0 ≤ x) (hx1 : x < 10 ^ 50) (hIA : IntsAre sits ss) (hss : ∀ z ∈ ss, 1 ≤ z ∧ z ≤ 4) (hs0 : ss ≠ []) (hsl : ss.length ≤ 3) (he : e = 0 ∨ e = 127) (hb : AllBare s.gens)
    (ret : ∀ (h : Heap) (tk : Nat) (gens : Array GenState) (fl : Addr) (tr : Tok) (refs : List Value) (nn2 : Nat) (tups tb' : List (Addr × Obj)), Fr h₀ L h (fun y => if y = Str.ofString "rest" then some (.int (grp (sigma ss e) 200 0 x).2 tr) else if y = Str.ofString "groups" then some (.ref fl) else if y = Str.ofString "end" then some (.int e te) else if y = Str.ofString "number" then some (.int x tx) else if y = Str.ofString "whole" then some (.int x tw) else u y) →
      News h₀ L h ((fl, listOf refs.toArray nn2) :: (cS, oS) :: (sl, listOf sits.toArray nn) :: (tups ++ (fr ++ tb'))) → TabsIn tb' → Tups tups refs (grp (sigma ss e) 200 0 x).1 → AllBare gens → Q .next { s with heap := h, toks := tk, gens := gens }) :
    wpAny (model PySem.Challenge.rw_zr0004_01.row.prog w) (ktrTop dp un gd nm sc L fa cd [(Str.ofString "sizes", cS)] outer) (exec st (envX nm sc L fa cd [(Str.ofString "sizes", cS)])) Q E s := by
  cases hlaw
  cases hst
  revert X; k_fill; intro X
  have hsl2 : ss.length ≤ 100 := by omega
  (try dsimp only); (try k_fold)
  k_steps
  (rename Fr _ _ _ _ => F5)
  (rename News _ _ _ _ => N5)
  (rename Tups _ _ _ => T5)
  exact ret _ _ _ _ _ _ _ _ _ F5 (s1_news N5) (by assumption) T5 (by assumption)
end
end Mine

/-! part L6 -/

namespace Mine

theorem quiet_exec {M : Model} {A : Around} {E : Value → Shared → Prop} {s : Shared} {env : Env} {st : Stmt} {Q : Flow → Shared → Prop} (h : wpAny M A (exec st env) (Quiet s) E s) (h2 : ∀ tk, Q .next { s with toks := tk }) : wpAny M A (exec st env) Q E s :=
  wpAny_mono h (fun f s' hf => by obtain ⟨rfl, tk, rfl⟩ := hf; exact h2 tk) fun _ _ x => x

theorem fr_mt {h₀ h : Heap} {L fl : Addr} {r e x : Int} {tr te tx tw : Tok} {m : Str → Option Value} (F : Fr h₀ L h m) (h1 : m (Str.ofString "rest") = some (.int r tr)) (h2 : m (Str.ofString "groups") = some (.ref fl)) (h3 : m (Str.ofString "end") = some (.int e te)) (h4 : m (Str.ofString "number") = some (.int x tx)) (h5 : m (Str.ofString "whole") = some (.int x tw)) :
    Fr h₀ L h (fun y => if y = Str.ofString "rest" then some (.int r tr) else if y = Str.ofString "groups" then some (.ref fl) else if y = Str.ofString "end" then some (.int e te) else if y = Str.ofString "number" then some (.int x tx) else if y = Str.ofString "whole" then some (.int x tw) else m y) := by
  have e : m = (fun y => if y = Str.ofString "rest" then some (.int r tr) else if y = Str.ofString "groups" then some (.ref fl) else if y = Str.ofString "end" then some (.int e te) else if y = Str.ofString "number" then some (.int x tx) else if y = Str.ofString "whole" then some (.int x tw) else m y) := by
    funext y; (repeat' split) <;> first | rfl | (rename_i h; rw [h]; assumption)
  rw [← e]; exact F
theorem fr_mb {h₀ h : Heap} {L : Addr} {x : Int} {tx tw : Tok} {m : Str → Option Value} (F : Fr h₀ L h m) (h4 : m (Str.ofString "number") = some (.int x tx)) (h5 : m (Str.ofString "whole") = some (.int x tw)) :
    Fr h₀ L h (fun y => if y = Str.ofString "number" then some (.int x tx) else if y = Str.ofString "whole" then some (.int x tw) else m y) := by
  have e : m = (fun y => if y = Str.ofString "number" then some (.int x tx) else if y = Str.ofString "whole" then some (.int x tw) else m y) := by
    funext y; (repeat' split) <;> first | rfl | (rename_i h; rw [h]; assumption)
  rw [← e]; exact F

theorem body_split {P : Params} {target iter : Expr} {body : List Stmt} {sc : Scope} (hlaw : lawIn (hd.heap_39 P) 82 2 = some (target, iter, body, sc)) : ∃ s1 s2 s3 s4 s5 s6 s7, body = [s1, s2, s3, s4, s5, s6, s7] := by
  cases hlaw; exact ⟨_, _, _, _, _, _, _, rfl⟩

section
variable {w : World} {p : Program} {loose : List Str} {mean : ExcName → Option Value} {mg mb : Str → Option Value} {dp un : Nat} {gd : Option (List Code)} {nm : Str} {fa : Addr} {cd : Value} {outer : List Env} {A₀ : Around} {base h₀ : Heap} {L : Addr} {u : Str → Option Value} {s : Shared} {E : Value → Shared → Prop}

theorem law_turn {target iter : Expr} {body : List Stmt} {sc : Scope} (hlaw : lawIn (hd.heap_39 w.params) 82 2 = some (target, iter, body, sc))
    {x e : Int} {tx tw te : Tok} {sl cS : Addr} {oS : Obj} {nn : Nat} {fr tb : List (Addr × Obj)} {sits : List Value} {ss : List Int} {Q : Flow → Shared → Prop}
    (B : Below A₀ base outer h₀) (F : Fr h₀ L s.heap (fun y => if y = Str.ofString "end" then some (.int e te) else if y = Str.ofString "number" then some (.int x tx) else if y = Str.ofString "whole" then some (.int x tw) else u y))
    (X : (hd.heap_39 w.params).In h₀) (N : News h₀ L s.heap ((cS, oS) :: (sl, listOf sits.toArray nn) :: (fr ++ tb))) (hoS : oS.data = .cell (some (.ref sl))) (hfr : ∀ q ∈ fr, NotTab q.2) (hK : TabsIn tb) (T : Top p loose mean mg mb h₀)
    (hd1 : dp + 250 < recursionLimit) (hu : un + 64 < cLine) (hx : 0 ≤ x) (hx1 : x < 10 ^ 50) (hIA : IntsAre sits ss) (hss : ∀ z ∈ ss, 1 ≤ z ∧ z ≤ 4) (hs0 : ss ≠ []) (hsl : ss.length ≤ 3) (he : e = 0 ∨ e = 127) (hb : AllBare s.gens) (hP : PlainOK ss e x)
    (ret : ∀ (h : Heap) (tk : Nat) (gens : Array GenState) (tb' : List (Addr × Obj)) (u' : Str → Option Value), Fr h₀ L h (fun y => if y = Str.ofString "number" then some (.int x tx) else if y = Str.ofString "whole" then some (.int x tw) else u' y) → News h₀ L h ((cS, oS) :: (sl, listOf sits.toArray nn) :: (fr ++ tb')) → TabsIn tb' → AllBare gens → Q .next { s with heap := h, toks := tk, gens := gens }) :
    wpAny (model PySem.Challenge.rw_zr0004_01.row.prog w) (ktrTop dp un gd nm sc L fa cd [(Str.ofString "sizes", cS)] outer) (execs body (envX nm sc L fa cd [(Str.ofString "sizes", cS)])) Q E s := by
  obtain ⟨s1, s2, s3, s4, s5, s6, s7, rfl⟩ := body_split hlaw
  have hil := IntsAre.length hIA
  have hs1 : 1 ≤ ss.length := List.length_pos_iff.mpr hs0
  refine wpAny_execs_cons (law_s1 hlaw rfl B F X N hoS hfr hK T hd1 hx hx1 hIA hss hs0 hsl he hb fun h tk gens fl tr refs nn2 tups tb' F1 N1 K1 T1 b1 => ?_)
  have hrl := T1.len
  have hr200 : refs.length ≤ 200 := by rw [hrl]; exact hP.len
  refine wpAny_execs_cons (quiet_exec (law_s2 hlaw rfl B F1 X N1 hoS T hd1 he hP.r0 (fun h => by rw [hrl, hil]; exact hP.few h) hr200 (by omega)) fun tk2 => ?_)
  refine wpAny_execs_cons (law_s3 hlaw rfl B F1 X N1 hoS T hd1 hr200 (by omega) (by omega) hIA fun h3 tk3 dl ys n3 F3 N3 I3 => ?_)
  rw [hrl, ← hP.due] at I3
  refine wpAny_execs_cons (law_s4 hlaw rfl B F3 X N3 T hd1 hu hr200 T1 (fun q hq => .tail _ (.tail _ (List.mem_append_left _ hq))) I3 fun h4 tk4 F4 N4 => ?_)
  have F5 := fr_mt F4 rfl rfl rfl rfl rfl
  refine wpAny_execs_cons (law_s5 hlaw rfl B F5 X (news_tail N4) T hd1 hu hr200 T1 (fun q hq => .tail _ (.tail _ (List.mem_append_left _ hq))) (fun i g z hi => by
      obtain ⟨a1, a2, a3, a4⟩ := hP.at' i g z hi
      have := pow10_mono (a := z.toNat) (b := 4) (by omega)
      omega) fun h5 tk5 t5 F6 N6 => ?_)
  refine wpAny_execs_cons (law_s6 hlaw rfl B F6 X N6 T hd1 hu hx hx1 hP.lo hP.hi hP.tlen hP.text fun tk6 => ?_)
  have F7 := fr_mt F6 rfl rfl rfl rfl rfl
  have N7 : News h₀ L h5 (((fl, listOf refs.toArray nn2) :: (cS, oS) :: (sl, listOf sits.toArray nn) :: (tups ++ fr)) ++ tb') := by
    rw [List.cons_append, List.cons_append, List.cons_append, List.append_assoc]; exact N6
  refine wpAny_execs_cons (law_s7 hlaw rfl B F7 X N7 (fun q hq => ?_) K1 (.head _) T hd1 hu hr200 T1 (fun q hq => .tail _ (.tail _ (.tail _ (List.mem_append_left _ hq)))) hP.at' fun h7 tk7 tb7 u1 u2 F8 N8 K8 => ?_)
  · rcases List.mem_cons.mp hq with rfl | hq
    · exact notTab_lit rfl
    · rcases List.mem_cons.mp hq with rfl | hq
      · exact notTab_cell hoS
      · rcases List.mem_cons.mp hq with rfl | hq
        · exact notTab_lit rfl
        · exact (List.mem_append.mp hq).elim (T1.notTab q) (hfr q)
  · refine wpAny_execs_nil (ret _ _ _ tb7 _ (fr_mb F8 rfl rfl) (fun q hq => N8 q ?_) K8 b1)
    rcases List.mem_cons.mp hq with rfl | hq
    · exact .tail _ (.head _)
    · rcases List.mem_cons.mp hq with rfl | hq
      · exact .tail _ (.tail _ (.head _))
      · exact .tail _ (.tail _ (.tail _ ((List.mem_append.mp hq).elim (fun h => List.mem_append_left _ (List.mem_append_right _ h)) (fun h => List.mem_append_right _ h))))
end
end Mine

/-! part L7 -/

namespace Mine
section
variable {prog : Program} {w : World} {A : Around} {E : Value → Shared → Prop} {s : Shared} {h₀ : Heap} {L : Addr} {m : Str → Option Value} {led : List (Addr × Obj)}

/-- an enumerate object -/
abbrev enumObj (it : Addr) (i : Nat) (old : Value) : Obj := { cls := .type "enumerate", dict := none, data := .fields #[.none, .bool false, .ref it, rawInt (i : Int), .none, old], slots := #[] }

/-- the same, its tuple handed out -/
abbrev enumOut (it : Addr) (i : Nat) (x : Value) (T : Addr) : Obj := { cls := .type "enumerate", dict := none, data := .fields #[rawInt (T : Int), .bool false, .ref it, rawInt (i : Int), .none, x], slots := #[] }

theorem enum_make {l : Addr} {items : Array Value} {Q : Value → Shared → Prop} (F : Fr h₀ L s.heap m) (N : News h₀ L s.heap led) (hl : s.heap.IsList l items)
    (h : ∀ h' e it oI, Fr h₀ L h' m → News h₀ L h' ((e, enumObj it 0 .none) :: (it, oI) :: led) → oI.cls = .type "list_iterator" → oI.data = .fields #[.ref l, .int 0 0] → e ≠ it → (∀ p ∈ led, p.1 < it ∧ p.1 < e) → Q (.ref e) { s with heap := h' }) :
    wpAny (model prog w) A (call (.type "enumerate") [.ref l]) Q E s := by
  refine call_enumerate_list hl fun h' he hit hsz hk => ?_
  obtain ⟨oI, hI, hc, hd⟩ := hit
  have hLs : L < s.heap.objs.size := F.ns.lt
  have hab : h₀.objs.size ≤ L := F.above
  have f0 : ∀ k, h₀.get? (s.heap.objs.size + k) = none := fun k => Heap.get?_none_of_le (Nat.le_trans hab (Nat.le_trans (Nat.le_of_lt hLs) (Nat.le_add_right _ _)))
  have fl : ∀ k, s.heap.objs.size + k ≠ L := fun k => Nat.ne_of_gt (Nat.lt_of_lt_of_le hLs (Nat.le_add_right _ _))
  refine h h' _ _ oI ⟨F.ns.keeps hk, fun b o e => hk b o (F.keep b o e), F.above⟩ (fun q hq => ?_) hc hd (Nat.succ_ne_self _) (fun p hp => ?_)
  · rcases List.mem_cons.mp hq with rfl | hq
    · exact ⟨he, fl 1, f0 1⟩
    · rcases List.mem_cons.mp hq with rfl | hq
      · exact ⟨hI, fl 0, f0 0⟩
      · exact ⟨hk _ _ (N q hq).1, (N q hq).2⟩
  · have := Heap.lt_size (N p hp).1
    exact ⟨this, Nat.lt_succ_of_lt this⟩

theorem enum_next {e it l : Addr} {oI : Obj} {i : Nat} {items : Array Value} {x old : Value} {Q : Option Value → Shared → Prop} (F : Fr h₀ L s.heap m) (N : News h₀ L s.heap ((e, enumObj it i old) :: (it, oI) :: led))
    (hc : oI.cls = .type "list_iterator") (hd : oI.data = .fields #[.ref l, .int (i : Int) 0]) (hl : s.heap.IsList l items) (hx : items[i]? = some x) (hne : e ≠ it) (hned : ∀ p ∈ led, p.1 ≠ it ∧ p.1 ≠ e)
    (h : ∀ h' T oI', Fr h₀ L h' m → News h₀ L h' ((T, tup2 (.int (i : Int) s.toks) x) :: (e, enumOut it (i + 1) x T) :: (it, oI') :: led) → oI'.cls = .type "list_iterator" → oI'.data = .fields #[.ref l, .int ((i + 1 : Nat) : Int) 0] →
      (∀ p ∈ led, p.1 < T) → e < T → it < T → Q (some (.ref T)) { s with heap := h', toks := s.toks + 1 }) :
    wpAny (model prog w) A (pyNext (.ref e)) Q E s := by
  have hE := N _ (.head _)
  have hI := N _ (.tail _ (.head _))
  refine wpAny_pyNext_enum_item (i := i) hE.1 ⟨oI, hI.1, hc, hd⟩ hl hx hne fun h' he hit hT hsz hk => ?_
  obtain ⟨oI', hI', hc', hd'⟩ := hit
  have hLs : L < s.heap.objs.size := F.ns.lt
  have hab : h₀.objs.size ≤ L := F.above
  refine h h' _ oI' ⟨F.ns.at' fun o x => hk L o (Ne.symm hE.2.1) (Ne.symm hI.2.1) x, fun b o x => hk b o (fun q => by rw [q, hE.2.2] at x; cases x) (fun q => by rw [q, hI.2.2] at x; cases x) (F.keep b o x), F.above⟩ (fun q hq => ?_) hc' hd' (fun p hp => Heap.lt_size (N p (.tail _ (.tail _ hp))).1) (Heap.lt_size hE.1) (Heap.lt_size hI.1)
  rcases List.mem_cons.mp hq with rfl | hq
  · exact ⟨hT, Nat.ne_of_gt hLs, Heap.get?_none_of_le (Nat.le_trans hab (Nat.le_of_lt hLs))⟩
  · rcases List.mem_cons.mp hq with rfl | hq
    · exact ⟨he, hE.2⟩
    · rcases List.mem_cons.mp hq with rfl | hq
      · exact ⟨hI', hI.2⟩
      · exact ⟨hk _ _ (hned q hq).2 (hned q hq).1 (N q (.tail _ (.tail _ hq))).1, (N q (.tail _ (.tail _ hq))).2⟩

theorem enum_own {e it T : Addr} {i : Nat} {x : Value} {elts : List Expr} {k : Nat} {pos : Pos} {oT oI : Obj} {Q : Unit → Shared → Prop} (F : Fr h₀ L s.heap m) (N : News h₀ L s.heap ((T, oT) :: (e, enumOut it i x T) :: (it, oI) :: led))
    (h1 : T ≠ e) (h2 : it ≠ e) (h3 : ∀ p ∈ led, p.1 ≠ e)
    (h : ∀ h', Fr h₀ L h' m → News h₀ L h' ((T, oT) :: (e, enumObj it i x) :: (it, oI) :: led) → Q () { s with heap := h' }) :
    wpAny (model prog w) A (letOwnedTupleGo (.Tuple elts k pos) (.ref e) (.ref T)) Q E s := by
  have hE := N _ (.tail _ (.head _))
  refine wpAny_letOwnedTupleGo_enum hE.1 fun h' he' hs => ?_
  refine h h' (F.change hs hE.2.1 hE.2.2) fun q hq => ?_
  rcases List.mem_cons.mp hq with rfl | hq
  · exact ⟨(hs.2 _ h1).trans (N _ (.head _)).1, (N _ (.head _)).2⟩
  · rcases List.mem_cons.mp hq with rfl | hq
    · exact ⟨he', hE.2⟩
    · rcases List.mem_cons.mp hq with rfl | hq
      · exact ⟨(hs.2 _ h2).trans (N _ (.tail _ (.tail _ (.head _)))).1, (N _ (.tail _ (.tail _ (.head _)))).2⟩
      · exact ⟨(hs.2 _ (h3 _ hq)).trans (N _ (.tail _ (.tail _ (.tail _ hq)))).1, (N _ (.tail _ (.tail _ (.tail _ hq)))).2⟩

theorem enum_done {e it l : Addr} {oI : Obj} {i : Nat} {items : Array Value} {old : Value} {Q : Option Value → Shared → Prop} (hh : A.handled = none) (F : Fr h₀ L s.heap m) (N : News h₀ L s.heap ((e, enumObj it i old) :: (it, oI) :: led))
    (hc : oI.cls = .type "list_iterator") (hd : oI.data = .fields #[.ref l, .int (i : Int) 0]) (hl : s.heap.IsList l items) (hx : items[i]? = none) (hned : ∀ p ∈ led, p.1 ≠ it)
    (h : ∀ h', Fr h₀ L h' m → News h₀ L h' led → Q none { s with heap := h' }) :
    wpAny (model prog w) A (pyNext (.ref e)) Q E s := by
  have hE := N _ (.head _)
  have hI := N _ (.tail _ (.head _))
  refine wpAny_pyNext_enum_end hh hE.1 ⟨oI, hI.1, hc, hd⟩ hl hx fun h' hs => ?_
  exact h h' ⟨F.ns.extBut hs (Ne.symm hI.2.1), fun b o x => hs b o (fun q => by rw [q, hI.2.2] at x; cases x) (F.keep b o x), F.above⟩ fun q hq => ⟨hs _ _ (hned q hq) (N q (.tail _ (.tail _ hq))).1, (N q (.tail _ (.tail _ hq))).2⟩
end
end Mine

/-! part L8 -/

namespace Mine

def oneOf (gs : List (Int × Int)) : Nat → Int
  | 0 => 0
  | i + 1 => oneOf gs i + (gs.getD i (0, 0)).1
def otherOf (gs : List (Int × Int)) : Nat → Int
  | 0 => 0
  | i + 1 => otherOf gs i + (gs.getD i (0, 0)).1 * (1 - 2 * ((i : Int) % 2))

theorem ml_self {a o pw x : Int} {ta to tp tw : Tok} {m : Str → Option Value} (h1 : m (Str.ofString "one") = some (.int a ta)) (h2 : m (Str.ofString "other") = some (.int o to)) (h4 : m (Str.ofString "power") = some (.int pw tp)) (h5 : m (Str.ofString "whole") = some (.int x tw)) :
    m = (fun y => if y = Str.ofString "one" then some (.int a ta) else if y = Str.ofString "other" then some (.int o to) else if y = Str.ofString "power" then some (.int pw tp) else if y = Str.ofString "whole" then some (.int x tw) else m y) := by
  funext y; (repeat' split) <;> first | rfl | (rename_i h; rw [h]; assumption)
theorem fr_ml {h₀ h : Heap} {L : Addr} {a o pw x : Int} {ta to tp tw : Tok} {m : Str → Option Value} (F : Fr h₀ L h m) (h1 : m (Str.ofString "one") = some (.int a ta)) (h2 : m (Str.ofString "other") = some (.int o to)) (h4 : m (Str.ofString "power") = some (.int pw tp)) (h5 : m (Str.ofString "whole") = some (.int x tw)) :
    Fr h₀ L h (fun y => if y = Str.ofString "one" then some (.int a ta) else if y = Str.ofString "other" then some (.int o to) else if y = Str.ofString "power" then some (.int pw tp) else if y = Str.ofString "whole" then some (.int x tw) else m y) := by
  have e : m = (fun y => if y = Str.ofString "one" then some (.int a ta) else if y = Str.ofString "other" then some (.int o to) else if y = Str.ofString "power" then some (.int pw tp) else if y = Str.ofString "whole" then some (.int x tw) else m y) := by
    funext y; (repeat' split) <;> first | rfl | (rename_i h; rw [h]; assumption)
  rw [← e]; exact F

section
local macro_rules | `(tactic| k_mem) => `(tactic| first | (with_reducible assumption) | exact List.Mem.head _ | (refine' mem_tl ?_; k_mem))
variable {w : World} {p : Program} {loose : List Str} {mean : ExcName → Option Value} {mg mb : Str → Option Value} {dp un : Nat} {gd : Option (List Code)} {nm : Str} {fa : Addr} {cd : Value} {outer : List Env} {A₀ : Around} {base h₀ : Heap} {L : Addr} {u : Str → Option Value} {s : Shared} {E : Value → Shared → Prop}

theorem law_sum {target iter : Expr} {body : List Stmt} {sc : Scope} (hlaw : lawIn (hd.heap_39 w.params) 82 5 = some (target, iter, body, sc))
    {x pw : Int} {tp tw ta0 to0 : Tok} {fl cS e it : Addr} {oI : Obj} {nn2 : Nat} {bs : List (Addr × Obj)} {refs : List Value} {gs : List (Int × Int)} {tups : List (Addr × Obj)} {Q : Flow → Shared → Prop}
    (F : Fr h₀ L s.heap (fun y => if y = Str.ofString "one" then some (.int (oneOf gs 0) ta0) else if y = Str.ofString "other" then some (.int (otherOf gs 0) to0) else if y = Str.ofString "power" then some (.int pw tp) else if y = Str.ofString "whole" then some (.int x tw) else u y))
    (X : (hd.heap_39 w.params).In h₀) (N : News h₀ L s.heap ((e, enumObj it 0 .none) :: (it, oI) :: bs)) (hc0 : oI.cls = .type "list_iterator") (hd0 : oI.data = .fields #[.ref fl, .int 0 0]) (hne : e ≠ it) (hlt : ∀ p ∈ bs, p.1 < it ∧ p.1 < e)
    (hfl : (fl, listOf refs.toArray nn2) ∈ bs) (T : Top p loose mean mg mb h₀)
    (hz1 : refs.length ≤ 200) (hT : Tups tups refs gs) (hR : ∀ q ∈ tups, q ∈ bs)
    (ret : ∀ (h : Heap) (tk : Nat) (ta to : Tok) (u' : Str → Option Value), Fr h₀ L h (fun y => if y = Str.ofString "one" then some (.int (oneOf gs refs.length) ta) else if y = Str.ofString "other" then some (.int (otherOf gs refs.length) to) else if y = Str.ofString "power" then some (.int pw tp) else if y = Str.ofString "whole" then some (.int x tw) else u' y) → News h₀ L h bs → Q .next { s with heap := h, toks := tk }) :
    ForAt PySem.Challenge.rw_zr0004_01.row.prog w (ktrTop dp un gd nm sc L fa cd [(Str.ofString "sizes", cS)] outer) target (.ref e) body (envX nm sc L fa cd [(Str.ofString "sizes", cS)]) Q E s := by
  cases hlaw
  revert X; k_fill; intro X
  obtain ⟨vals, hvl, hvs⟩ := tups_vals hT
  refine for_fr F N refs.length (fun m₀ i m led => ∃ oI old ta to u', m = (fun y => if y = Str.ofString "one" then some (.int (oneOf gs i) ta) else if y = Str.ofString "other" then some (.int (otherOf gs i) to) else if y = Str.ofString "power" then some (.int pw tp) else if y = Str.ofString "whole" then some (.int x tw) else u' y) ∧ led = (e, enumObj it i old) :: (it, oI) :: bs ∧ oI.cls = .type "list_iterator" ∧ oI.data = .fields #[.ref fl, .int (i : Int) 0])
    ⟨oI, .none, ta0, to0, u, rfl, rfl, hc0, hd0⟩ ?_ ?_
  · rintro i m led h tk hi ⟨oI, old, ta, to, u', rfl, rfl, hc, hd⟩ F2 N2
    obtain ⟨⟨v1, v2⟩, hv⟩ : ∃ v, vals[i]? = some v := ⟨_, List.getElem?_eq_getElem (by rw [hvl, ← hT.len]; exact hi)⟩
    obtain ⟨g, z, t1, t2, a, k1, rfl, rfl, k4, k5⟩ := hvs i v1 v2 hv
    have hbs : ∀ q ∈ bs, q.1 ≠ it ∧ q.1 ≠ e := fun q hq => ⟨Nat.ne_of_lt (hlt q hq).1, Nat.ne_of_lt (hlt q hq).2⟩
    refine enum_next F2 N2 hc hd (IsL.isList (n := nn2) (N2 _ (.tail _ (.tail _ hfl))).1) (by simpa using k4) hne hbs fun h3 T9 oI' F4 N4 hc' hd' hT1 hT2 hT3 => ?_
    dsimp only
    refine ⟨_, rfl, enum_own F4 N4 (Nat.ne_of_gt hT2) (Ne.symm hne) (fun q hq => (hbs q hq).2) fun h5 F6 N6 => ?_⟩
    have hmT : (a, tup2 (.int g t1) (.int z t2)) ∈ bs := hR _ k5
    have e1 : oneOf gs (i + 1) = oneOf gs i + g := by rw [oneOf, List.getD_eq_getElem?_getD, k1]; rfl
    have e2 : otherOf gs (i + 1) = otherOf gs i + g * (1 - 2 * ((i : Int) % 2)) := by rw [otherOf, List.getD_eq_getElem?_getD, k1]; rfl
    clear F N F2 N2 F4 N4
    (try dsimp only); (try k_fold)
    k_steps
    (rename Fr _ _ _ _ => F9)
    (rename News _ _ _ _ => N9)
    have e3 : (i : Int).fmod 2 = (i : Int) % 2 := Int.fmod_eq_emod_of_nonneg _ (by decide)
    exact ⟨_, _, _, _, rfl, F9, news_tail (news_tail N9), oI', _, _, _, _, ml_self (by rw [e1]; rfl) (by rw [e2, ← e3]; rfl) rfl rfl, rfl, hc', hd'⟩
  · rintro m led h tk ⟨oI, old, ta, to, u', rfl, rfl, hc, hd⟩ F2 N2
    refine enum_done rfl F2 N2 hc hd (IsL.isList (n := nn2) (N2 _ (.tail _ (.tail _ hfl))).1) (by simp) (fun q hq => Nat.ne_of_lt (hlt q hq).1) fun h3 F4 N4 => ?_
    exact ⟨rfl, ret _ _ _ _ _ F4 N4⟩
end
end Mine

/-! part L9 -/

namespace Mine

def restIn (K : Frag) (f : Addr) (i : Nat) : Option (List Stmt × Scope) := match K.lookup f with
  | some o => (match o.data with
    | .func fd => (match fd.body with
      | .stmts b => some (b.drop i, fd.scope)
      | _ => none)
    | _ => none)
  | none => none

/-- the plain facts about the sums -/
structure SumOK (s0 x : Int) : Prop where
  len : (grp (sigma [s0] 0) 200 0 x).1.length ≤ 200
  one : (oneOf (grp (sigma [s0] 0) 200 0 x).1 (grp (sigma [s0] 0) 200 0 x).1.length - x).fmod (10 ^ s0.toNat - 1) = 0
  other : (otherOf (grp (sigma [s0] 0) 200 0 x).1 (grp (sigma [s0] 0) 200 0 x).1.length - x).fmod (10 ^ s0.toNat + 1) = 0

theorem rest_news {h₀ h : Heap} {L : Addr} {a b c d e f : Addr × Obj} {tups r : List (Addr × Obj)} (N : News h₀ L h (a :: b :: c :: (tups ++ d :: e :: f :: r))) : News h₀ L h (e :: f :: r) := fun q hq => N q (by
  simp only [List.mem_cons, List.mem_append] at hq ⊢
  rcases hq with h | h | h <;> simp only [h, true_or, or_true])

section
local macro_rules | `(tactic| k_mem) => `(tactic| first | (with_reducible assumption) | exact List.Mem.head _ | (refine' mem_tl ?_; k_mem))
local macro_rules | `(tactic| k_ne) => `(tactic| first | (refine neN ?_; (try dsimp only); omega) | (refine' news_ne ?nN ?n1 ?n2 ?n3; (case nN => with_reducible assumption); (case n1 => k_mem); (case n2 => k_mem); (case n3 => (intro e9; (have e8 := congrArg Obj.cls e9); simp [genObj] at e8))))
local macro_rules | `(tactic| ktr_rel) => `(tactic| repeat' (first | exact Led.tail | exact (show Led _ _ _ by assumption) | exact Led.fr (by assumption) | refine' Led.cons notTab_gen ?_ | refine' Led.cons (notTab_lit rfl) ?_ | refine' Led.cons (notTab_cell (by assumption)) ?_ | refine' Led.cons (notTab_iter (by assumption) (by assumption)) ?_))
local macro_rules | `(tactic| walk_at "ite") => `(tactic| (k_here; first | (with_reducible refine ieq_t ?_ ?_; first | with_reducible assumption | omega) | (with_reducible refine ieq_f ?_ ?_; first | with_reducible assumption | omega)))
local macro_rules | `(tactic| walk_at "call ref") => `(tactic| (k_here; k_dflt (refine' spec_law_groups ?B ?F ?X ?N ?hl ?hK ?T ?hk ?hd1 ?hx ?hx1 ?hD ?hIA ?hss ?hs0 ?hsl ?he ?hb ?_; (case hK => assumption); (case B => k_asm); (case F => k_asm); (case X => k_asm); (case N => k_asm); (case hl => ktr_rel); (case T => k_asm); (case hk => exact rfl); (case hd1 => ktr_room); (case hx => assumption); (case hx1 => assumption); (case hD => k_mem); (case hIA => assumption); (case hss => assumption); (case hs0 => assumption); (case hsl => assumption); (case he => assumption); (case hb => assumption)); intro h9 tk9 gens9 tup9 fl9 t9 refs9 nn9 tups9 tb9 F9 N9 K9 S9 T9 b9; (try simp only [List.cons_append, List.nil_append] at N9); (try dsimp only); (try k_fold)))
local macro_rules | `(tactic| walk_at "exec For") => `(tactic| (k_here; k_dflt (refine' for_at ?_ ?hs; (case hs => (intro _; rfl)))))
local macro_rules | `(tactic| walk_at "callWith type:enumerate") => `(tactic| (k_here; with_unfolding_all refine Pv.callWith_type1 ?_))
local macro_rules | `(tactic| walk_at "binaryOp Pow int int") => `(tactic| (k_here; (with_reducible refine pow_int_small ?_ ?_ ?_ ?_); (k_dflt assumption); (k_dflt assumption); (decide)))
local macro_rules | `(tactic| walk_at "call type:enumerate") => `(tactic| (k_here; with_reducible refine hold_of ?_))
variable {w : World} {p : Program} {loose : List Str} {mean : ExcName → Option Value} {mg mb : Str → Option Value} {dp un : Nat} {gd : Option (List Code)} {nm : Str} {fa : Addr} {cd : Value} {outer : List Env} {A₀ : Around} {base h₀ : Heap} {L : Addr} {u : Str → Option Value} {s : Shared} {E : Value → Shared → Prop}

theorem law_rest {body : List Stmt} {sc : Scope} (hlaw : restIn (hd.heap_39 w.params) 82 3 = some (body, sc))
    {x s0 : Int} {tx tw : Tok} {sl cS : Addr} {oS : Obj} {nn : Nat} {fr tb : List (Addr × Obj)} {sits : List Value} {ss : List Int} {Q : Flow → Shared → Prop}
    (B : Below A₀ base outer h₀) (F : Fr h₀ L s.heap (fun y => if y = Str.ofString "number" then some (.int x tx) else if y = Str.ofString "whole" then some (.int x tw) else u y))
    (X : (hd.heap_39 w.params).In h₀) (N : News h₀ L s.heap ((cS, oS) :: (sl, listOf sits.toArray nn) :: (fr ++ tb))) (hoS : oS.data = .cell (some (.ref sl))) (hfr : ∀ q ∈ fr, NotTab q.2) (hK : TabsIn tb) (T : Top p loose mean mg mb h₀)
    (hd1 : dp + 250 < recursionLimit) (hu : un + 64 < cLine) (hx : 0 ≤ x) (hx1 : x < 10 ^ 50) (hIA : IntsAre sits (s0 :: ss)) (hss : 1 ≤ s0 ∧ s0 ≤ 4) (hsl : ss.length ≤ 2) (hb : AllBare s.gens) (hP : SumOK s0 x)
    (ret : ∀ (h : Heap) (tk : Nat) (gens : Array GenState) (m : Str → Option Value) (tb' : List (Addr × Obj)), Fr h₀ L h m → News h₀ L h ((cS, oS) :: (sl, listOf sits.toArray nn) :: (fr ++ tb')) → TabsIn tb' → AllBare gens → Q (.ret (.bool true)) { s with heap := h, toks := tk, gens := gens }) :
    wpAny (model PySem.Challenge.rw_zr0004_01.row.prog w) (ktrTop dp un gd nm sc L fa cd [(Str.ofString "sizes", cS)] outer) (execs body (envX nm sc L fa cd [(Str.ofString "sizes", cS)])) Q E s := by
  cases hlaw
  revert X; k_fill; intro X
  (try dsimp only); (try k_fold)
  k_steps
  (rename Fr _ _ _ _ => F1)
  (rename News _ _ _ _ => N1)
  have hss1 : ∀ z ∈ [s0], 1 ≤ z ∧ z ≤ 4 := fun z hz => by rw [List.mem_singleton.mp hz]; exact hss
  refine spec_law_groups (ss := [s0]) (e := 0) (rits := [_, _]) B F1 X N1 (by ktr_rel) hK T (by exact rfl) (by ktr_room) hx hx1 (.head _) (.cons _ _ (.cons _ _ .nil)) hss1 (by simp) (by simp) (.inl rfl) hb ?_
  intro h9 tk9 gens9 tup9 fl9 t9 refs9 nn9 tups9 tb9 F9 N9 K9 S9 T9 b9
  simp only [List.cons_append, List.nil_append] at N9
  clear F1 N1
  have hs1 : 0 ≤ s0 := by omega
  have hs4 : s0 ≤ 1000000 := by omega
  (try dsimp only); (try k_fold)
  k_steps
  (rename Fr _ _ _ _ => F2)
  (rename News _ _ _ _ => N2)
  refine (show wpAny _ _ _ _ _ _ from ?_)
  refine enum_make F2 N2 (IsL.isList (n := nn9) (N2 _ (.tail _ (.tail _ (.head _)))).1) fun h3 e it oI F3 N3 hc hd hne hlt => ?_
  refine wpAny_pyIter_enum (N3 _ (.head _)).1 ?_
  refine law_sum (gs := (grp (sigma [s0] 0) 200 0 x).1) (pw := 10 ^ s0.toNat) (tups := tups9) rfl (fr_ml F3 rfl rfl rfl rfl) X N3 hc hd hne hlt (.tail _ (.tail _ (.head _))) T (by rw [T9.len]; exact hP.len) T9 (fun q hq => ?_) fun h4 tk4 ta to u' F4 N4 => ?_
  · exact .tail _ (.tail _ (.tail _ (List.mem_append_left _ hq)))
  · clear F2 N2 F3 N3
    (try dsimp only); (try k_fold)
    have hA : (oneOf (grp (sigma [s0] 0) 200 0 x).1 refs9.length - x).fmod (10 ^ s0.toNat - 1) = 0 := by rw [T9.len]; exact hP.one
    have hB : (otherOf (grp (sigma [s0] 0) 200 0 x).1 refs9.length - x).fmod (10 ^ s0.toNat + 1) = 0 := by rw [T9.len]; exact hP.other
    have hp10 : (10 : Int) ≤ 10 ^ s0.toNat := by simpa using pow10_mono (a := 1) (b := s0.toNat) (by omega)
    k_steps
    · show Q (.ret (.bool (_ == 0))) _
      rw [hB]
      exact ret _ _ _ _ _ F4 (rest_news N4) K9 b9
    all_goals (exact absurd hA (by assumption))
end
end Mine

/-! part L10 -/

namespace Mine

theorem loop_ne {h₀ h : Heap} {L I : Addr} {oI : Obj} {a b c : Addr × Obj} {fr tb tb' : List (Addr × Obj)} {v : Value} {i : Int} {t : Tok} {cl : String} (hlt : ∀ p ∈ a :: b :: c :: (fr ++ tb), p.1 < I) (N : News h₀ L h ((I, oI) :: a :: b :: c :: (fr ++ tb'))) (K : TabsIn tb')
    (hc : oI.cls = .type cl) (hd : oI.data = .fields #[v, .int i t]) : ∀ q ∈ a :: b :: c :: (fr ++ tb'), q.1 ≠ I := fun q hq => by
  rcases List.mem_cons.mp hq with rfl | hq
  · exact Nat.ne_of_lt (hlt _ (.head _))
  · rcases List.mem_cons.mp hq with rfl | hq
    · exact Nat.ne_of_lt (hlt _ (.tail _ (.head _)))
    · rcases List.mem_cons.mp hq with rfl | hq
      · exact Nat.ne_of_lt (hlt _ (.tail _ (.tail _ (.head _))))
      · exact (List.mem_append.mp hq).elim (fun hq => Nat.ne_of_lt (hlt q (.tail _ (.tail _ (.tail _ (List.mem_append_left _ hq)))))) (fun hq => tb_ne N (.head _) (fun p hp => .tail _ (.tail _ (.tail _ (.tail _ (List.mem_append_right _ hp))))) K (notTab_iter hc hd) q hq)
theorem notTab_cons {a : Addr × Obj} {l : List (Addr × Obj)} (h : NotTab a.2) (k : ∀ q ∈ l, NotTab q.2) : ∀ q ∈ a :: l, NotTab q.2 := fun q hq => by
  rcases List.mem_cons.mp hq with rfl | hq
  · exact h
  · exact k q hq
theorem loop_news {h₀ h : Heap} {L : Addr} {i a b c : Addr × Obj} {fr tb : List (Addr × Obj)} (N : News h₀ L h (i :: a :: b :: c :: (fr ++ tb))) : News h₀ L h (b :: c :: ((i :: a :: fr) ++ tb)) := fun q hq => N q (by
  simp only [List.mem_cons, List.mem_append] at hq ⊢
  rcases hq with h | h | (h | h | h) | h <;> simp only [h, true_or, or_true])
theorem loop_news2 {h₀ h : Heap} {L : Addr} {i a b c : Addr × Obj} {fr tb : List (Addr × Obj)} (N : News h₀ L h (b :: c :: ((i :: a :: fr) ++ tb))) : News h₀ L h (i :: a :: b :: c :: (fr ++ tb)) := fun q hq => N q (by
  simp only [List.mem_cons, List.mem_append] at hq ⊢
  rcases hq with h | h | h | h | h | h <;> simp only [h, true_or, or_true])

section
local macro_rules | `(tactic| k_mem) => `(tactic| first | (with_reducible assumption) | exact List.Mem.head _ | (refine' mem_tl ?_; k_mem))
local macro_rules | `(tactic| k_ne) => `(tactic| first | (refine neN ?_; (try dsimp only); omega) | (refine' news_ne ?nN ?n1 ?n2 ?n3; (case nN => with_reducible assumption); (case n1 => k_mem); (case n2 => k_mem); (case n3 => (intro e9; (have e8 := congrArg Obj.cls e9); simp [genObj] at e8))))
local macro_rules | `(tactic| walk_at "exec For") => `(tactic| (k_here; k_dflt (refine' for_at ?_ ?hs; (case hs => (intro _; rfl)))))
local macro_rules | `(tactic| walk_at "pyIter ref") => `(tactic| (k_here; with_reducible refine hold_of ?_))
local macro_rules | `(tactic| walk_at "execs cons") => `(tactic| (k_here; with_reducible refine hold_of ?_))
variable {w : World} {p : Program} {loose : List Str} {mean : ExcName → Option Value} {mg mb : Str → Option Value} {dp un : Nat} {gd : Option (List Code)} {nm : Str} {fa : Addr} {cd : Value} {outer : List Env} {A₀ : Around} {base h₀ : Heap} {L : Addr} {u : Str → Option Value} {s : Shared} {E : Value → Shared → Prop}

theorem law_loop {target iter : Expr} {body : List Stmt} {sc : Scope} {pos : Pos} (hlaw : lawIn (hd.heap_39 w.params) 82 2 = some (target, iter, body, sc))
    {x : Int} {tx tw : Tok} {sl cS : Addr} {oS : Obj} {nn : Nat} {fr tb : List (Addr × Obj)} {sits : List Value} {ss : List Int} {Q : Flow → Shared → Prop}
    (B : Below A₀ base outer h₀) (F : Fr h₀ L s.heap (fun y => if y = Str.ofString "number" then some (.int x tx) else if y = Str.ofString "whole" then some (.int x tw) else u y))
    (X : (hd.heap_39 w.params).In h₀) (N : News h₀ L s.heap ((cS, oS) :: (sl, listOf sits.toArray nn) :: (fr ++ tb))) (hoS : oS.data = .cell (some (.ref sl))) (hfr : ∀ q ∈ fr, NotTab q.2) (hK : TabsIn tb) (T : Top p loose mean mg mb h₀)
    (hd1 : dp + 250 < recursionLimit) (hu : un + 64 < cLine) (hx : 0 ≤ x) (hx1 : x < 10 ^ 50) (hIA : IntsAre sits ss) (hss : ∀ z ∈ ss, 1 ≤ z ∧ z ≤ 4) (hs0 : ss ≠ []) (hsl : ss.length ≤ 3) (hb : AllBare s.gens) (hP : ∀ e : Int, e = 0 ∨ e = 127 → PlainOK ss e x)
    (ret : ∀ (h : Heap) (tk : Nat) (gens : Array GenState) (tb' : List (Addr × Obj)) (u' : Str → Option Value), Fr h₀ L h (fun y => if y = Str.ofString "number" then some (.int x tx) else if y = Str.ofString "whole" then some (.int x tw) else u' y) → News h₀ L h ((cS, oS) :: (sl, listOf sits.toArray nn) :: (fr ++ tb')) → TabsIn tb' → AllBare gens → Q .next { s with heap := h, toks := tk, gens := gens }) :
    wpAny (model PySem.Challenge.rw_zr0004_01.row.prog w) (ktrTop dp un gd nm sc L fa cd [(Str.ofString "sizes", cS)] outer) (exec (.For target iter body [] pos) (envX nm sc L fa cd [(Str.ofString "sizes", cS)])) Q E s := by
  have hl := hlaw
  cases hlaw
  revert X; k_fill; intro X
  (try dsimp only); (try k_fold)
  k_steps
  rename_i lst h1 F1 N1 hlt1
  refine (show wpAny _ _ _ _ _ _ from ?_)
  refine iter_list F1 N1 (IsL.isList (n := 0) (N1 _ (.head _)).1) fun I oI h2 F2 N2 hcI hdI hltI => ?_
  refine for_go 2 (fun i s' => ∃ h tk gens oI tb' u', s' = { s with heap := h, toks := tk, gens := gens } ∧ Fr h₀ L h (fun y => if y = Str.ofString "number" then some (.int x tx) else if y = Str.ofString "whole" then some (.int x tw) else u' y) ∧ News h₀ L h ((I, oI) :: (lst, _) :: (cS, oS) :: (sl, listOf sits.toArray nn) :: (fr ++ tb')) ∧ TabsIn tb' ∧ AllBare gens ∧ oI.cls = .type "list_iterator" ∧ oI.data = .fields #[.ref lst, .int (i : Int) 0])
    ⟨h2, _, _, oI, tb, u, rfl, F2, N2, hK, hb, hcI, hdI⟩ ?_ ?_
  · rintro i s' hi ⟨h, tk, gens, oI, tb', u', rfl, F3, N3, K3, b3, hc, hd⟩
    have hne := loop_ne hltI N3 K3 hc hd
    have two : ∀ a b : Value, ∀ k, k < 2 → (#[a, b] : Array Value)[k]? = some (if k = 0 then a else b) := fun a b k hk => by
      rcases k with _ | _ | k
      · rfl
      · rfl
      · omega
    refine next_list F3 N3 hc hd (IsL.isList (n := 0) (N3 _ (.tail _ (.head _))).1) hne (two _ _ i hi) fun h4 oI' F4 N4 hc' hd' => ?_
    refine ⟨_, rfl, ?_⟩
    clear F1 F2 F3 N1 N2 N3
    have N5 := loop_news N4
    clear N4
    rcases Nat.eq_zero_or_pos i with rfl | hpos
    · refine turn_name ?_
      (try dsimp only); (try k_fold)
      k_steps
      (rename Fr _ _ _ _ => F6)
      (rename News _ _ _ _ => N6)
      refine (show wpAny _ _ _ _ _ _ from ?_)
      exact law_turn hl B F6 X N6 hoS (notTab_cons (notTab_iter hc' hd') (notTab_cons (notTab_lit rfl) hfr)) K3 T hd1 hu hx hx1 hIA hss hs0 hsl (.inl rfl) b3 (hP _ (.inl rfl)) fun h7 tk7 gens7 tb7 u7 F7 N7 K7 b7 => ⟨h7, tk7, gens7, oI', tb7, u7, rfl, F7, loop_news2 N7, K7, b7, hc', hd'⟩
    · obtain rfl : i = 1 := by omega
      refine turn_name ?_
      (try dsimp only); (try k_fold)
      k_steps
      (rename Fr _ _ _ _ => F6)
      (rename News _ _ _ _ => N6)
      refine (show wpAny _ _ _ _ _ _ from ?_)
      exact law_turn hl B F6 X N6 hoS (notTab_cons (notTab_iter hc' hd') (notTab_cons (notTab_lit rfl) hfr)) K3 T hd1 hu hx hx1 hIA hss hs0 hsl (.inr rfl) b3 (hP _ (.inr rfl)) fun h7 tk7 gens7 tb7 u7 F7 N7 K7 b7 => ⟨h7, tk7, gens7, oI', tb7, u7, rfl, F7, loop_news2 N7, K7, b7, hc', hd'⟩
  · rintro s' ⟨h, tk, gens, oI, tb', u', rfl, F3, N3, K3, b3, hc, hd⟩
    refine done_list rfl F3 N3 hc hd (IsL.isList (n := 0) (N3 _ (.tail _ (.head _))).1) (loop_ne hltI N3 K3 hc hd) rfl fun h4 F4 N4 => ?_
    exact ⟨rfl, ret _ _ _ _ _ F4 (news_tail N4) K3 b3⟩
end
end Mine

/-! part L11 -/

namespace Mine

/-- the law's end: it says True; what stood before stands, but for the tables of codes, which have grown -/
theorem my_post {M : Model} {A : Around} {cd : Code} {s s₁ : Shared} {cw : ClaimW} {cl : Str → Option Addr} {mean : ExcName → Option Value} {args : List WData} {tabs : List (Addr × Addr)} (hT : TabsAt tabs s₁.heap) (hr : ∀ x, cw.raises args x = false) (hp : cw.post args (.bool true) args = true)
    (h : codeAny M A cd (fun r s' => r = .ok (.ret (.bool true)) ∧ (∀ b o, (ghostOf s₁.heap tabs).get? b = some o → s'.heap.get? b = some o) ∧ GrownAll tabs s'.heap ∧ s'.os = s₁.os ∧ AllBare s'.gens) s) : codeAny M A cd (GoodWG cw cl mean args s₁) s := by
  refine codeAny_mono h fun r s' ⟨e, hk, hgr, hos, hb⟩ => ?_
  subst e
  have each : ∀ b o, s₁.heap.get? b = some o → s'.heap.get? b = some o ∨ ∃ q ∈ tabs, q.2 = b := fun b o e => by
    by_cases hm : b ∈ tabs.map (·.2)
    · exact .inr (List.mem_map.mp hm)
    · exact .inl (hk b o (ghost_ne e hm))
  refine ⟨.inl ⟨_, _, [], rfl, hr, ReadsW.bool true, hp, fun _ => ⟨List.nodup_nil, fun _ hm => nomatch hm⟩⟩, ⟨fun b o e => ?_, fun b o e => ?_⟩, hos, hb⟩
  · rcases each b o e with k | ⟨q, hq, rfl⟩
    · exact .inl k
    · obtain ⟨ps, hP⟩ := hgr.get q hq
      obtain ⟨hC, hE⟩ := hT q hq
      obtain rfl : o = tabObj #[] := Option.some.inj (e.symm.trans hE)
      exact .inr (.inl ⟨(hC.tab hE).isCodeTable, rfl, #[], ps, rfl, by simpa using hP⟩)
  · rcases each b o e with k | ⟨q, hq, rfl⟩
    · exact ⟨o, k⟩
    · obtain ⟨ps, hP⟩ := hgr.get q hq
      exact ⟨_, hP⟩

section
variable {w : World} {p : Program} {loose : List Str} {mean : ExcName → Option Value} {mg mb : Str → Option Value} {dp un : Nat} {gd : Option (List Code)} {nm : Str} {fa : Addr} {cd : Value} {outer : List Env} {A₀ : Around} {base h₀ : Heap} {L : Addr} {m : Str → Option Value} {s : Shared} {E : Value → Shared → Prop}

theorem law_tail {body : List Stmt} {sc : Scope} (hlaw : restIn (hd.heap_39 w.params) 82 2 = some (body, sc))
    {x s0 : Int} {tx tw : Tok} {sl cS : Addr} {oS : Obj} {nn : Nat} {fr tb : List (Addr × Obj)} {sits : List Value} {ss : List Int} {Q : Flow → Shared → Prop}
    (B : Below A₀ base outer h₀) (F : Fr h₀ L s.heap m) (hm1 : m (Str.ofString "number") = some (.int x tx)) (hm2 : m (Str.ofString "whole") = some (.int x tw))
    (X : (hd.heap_39 w.params).In h₀) (N : News h₀ L s.heap ((cS, oS) :: (sl, listOf sits.toArray nn) :: (fr ++ tb))) (hoS : oS.data = .cell (some (.ref sl))) (hfr : ∀ q ∈ fr, NotTab q.2) (hK : TabsIn tb) (T : Top p loose mean mg mb h₀)
    (hd1 : dp + 250 < recursionLimit) (hu : un + 64 < cLine) (hx : 0 ≤ x) (hx1 : x < 10 ^ 50) (hIA : IntsAre sits (s0 :: ss)) (hss : ∀ z ∈ s0 :: ss, 1 ≤ z ∧ z ≤ 4) (hsl : ss.length ≤ 2) (hb : AllBare s.gens) (hP : ∀ e : Int, e = 0 ∨ e = 127 → PlainOK (s0 :: ss) e x) (hP2 : SumOK s0 x)
    (ret : ∀ (h : Heap) (tk : Nat) (gens : Array GenState) (m : Str → Option Value) (tb' : List (Addr × Obj)), Fr h₀ L h m → News h₀ L h ((cS, oS) :: (sl, listOf sits.toArray nn) :: (fr ++ tb')) → TabsIn tb' → AllBare gens → Q (.ret (.bool true)) { s with heap := h, toks := tk, gens := gens }) :
    wpAny (model PySem.Challenge.rw_zr0004_01.row.prog w) (ktrTop dp un gd nm sc L fa cd [(Str.ofString "sizes", cS)] outer) (execs body (envX nm sc L fa cd [(Str.ofString "sizes", cS)])) Q E s := by
  cases hlaw
  refine wpAny_execs_cons (law_loop rfl B (fr_mb F hm1 hm2) X N hoS hfr hK T hd1 hu hx hx1 hIA hss (by simp) (by simpa using hsl) hb hP fun h2 tk2 gens2 tb2 u2 F2 N2 K2 b2 => ?_)
  exact law_rest rfl B F2 X N2 hoS hfr K2 T hd1 hu hx hx1 hIA (hss _ (.head _)) hsl b2 hP2 fun h3 tk3 gens3 m3 tb3 F3 N3 K3 b3 => ret _ _ _ _ _ F3 N3 K3 b3
end
end Mine

/-! part P3 -/

namespace Mine
open PySem.NumText

/-! the sizes that a rule gives -/
theorem sigma_some {ss : List Int} {j : Nat} (h : ss ≠ []) : ∃ z, sigma ss 0 j = some z ∧ ss.getD (min j (ss.length - 1)) 0 = z := by
  have hl : 0 < ss.length := List.length_pos_iff.mpr h
  unfold sigma
  split
  · rename_i hj
    exact ⟨ss[j], List.getElem?_eq_getElem hj, by rw [show min j (ss.length - 1) = j by omega, List.getD_eq_getElem?_getD, List.getElem?_eq_getElem hj]; rfl⟩
  · rw [if_pos rfl]
    refine ⟨ss.getLast h, List.getLast?_eq_some_getLast h, ?_⟩
    rw [show min j (ss.length - 1) = ss.length - 1 by omega, List.getD_eq_getElem?_getD, List.getElem?_eq_getElem (by omega), List.getLast_eq_getElem]
    rfl
theorem sigma_due {ss : List Int} {e z : Int} {j : Nat} (he : e = 0 ∨ e = 127) (h : ss ≠ []) (hz : sigma ss e j = some z) : ss.getD (min j (ss.length - 1)) 0 = z := by
  rcases he with rfl | rfl
  · obtain ⟨z', h1, h2⟩ := sigma_some (j := j) h
    rw [h1] at hz
    rw [← Option.some.inj hz]; exact h2
  · unfold sigma at hz
    split at hz
    · rename_i hj
      rw [show min j (ss.length - 1) = j by omega, List.getD_eq_getElem?_getD, hz]; rfl
    · rw [if_neg (by decide)] at hz; cases hz
theorem sigma_stop {ss : List Int} {j : Nat} (h : ss.length ≤ j) : sigma ss 127 j = none := by
  unfold sigma
  rw [if_neg (by omega), if_neg (by decide)]
theorem sigma_one {s0 : Int} (j : Nat) : sigma [s0] 0 j = some s0 := by
  obtain ⟨z, h1, h2⟩ := sigma_some (ss := [s0]) (j := j) (by simp)
  rw [h1, ← h2]
  simp

/-! the groups -/
theorem grp_len (σ : Nat → Option Int) : ∀ (f j : Nat) (x : Int), (grp σ f j x).1.length ≤ f
  | 0, _, _ => Nat.le_refl _
  | f + 1, j, x => by
    cases h : σ j with
    | none => rw [grp_none h]; exact Nat.zero_le _
    | some z =>
      by_cases hx : x = 0
      · subst hx; rw [grp_zero]; exact Nat.zero_le _
      · rw [grp_some h hx]
        have := grp_len σ f (j + 1) (x / 10 ^ z.toNat)
        simp only [List.length_cons]; omega
theorem grp_few {σ : Nat → Option Int} {n : Nat} (hn : ∀ j, n ≤ j → σ j = none) : ∀ (f j : Nat) (x : Int), (grp σ f j x).1.length ≤ n - j
  | 0, _, _ => Nat.zero_le _
  | f + 1, j, x => by
    cases h : σ j with
    | none => rw [grp_none h]; exact Nat.zero_le _
    | some z =>
      have hj : j < n := by
        rcases Nat.lt_or_ge j n with h1 | h1
        · exact h1
        · rw [hn j h1] at h; cases h
      by_cases hx : x = 0
      · subst hx; rw [grp_zero]; exact Nat.zero_le _
      · rw [grp_some h hx]
        have := grp_few hn f (j + 1) (x / 10 ^ z.toNat)
        simp only [List.length_cons]; omega
theorem grp_at {σ : Nat → Option Int} : ∀ (f j : Nat) (x : Int) (i : Nat) (g z : Int), 0 ≤ x → (grp σ f j x).1[i]? = some (g, z) → σ (j + i) = some z ∧ 0 ≤ g ∧ g < 10 ^ z.toNat
  | 0, _, _, i, _, _, _, e => by simp [grp] at e
  | f + 1, j, x, i, g, z, hx0, e => by
    cases h : σ j with
    | none => rw [grp_none h] at e; simp at e
    | some z' =>
      by_cases hx : x = 0
      · subst hx; rw [grp_zero] at e; simp at e
      · rw [grp_some h hx] at e
        have hp := pow10_pos z'.toNat
        cases i with
        | zero =>
          simp only [List.getElem?_cons_zero, Option.some.injEq, Prod.mk.injEq] at e
          obtain ⟨rfl, rfl⟩ := e
          exact ⟨h, Int.emod_nonneg _ (by omega), Int.emod_lt_of_pos _ hp⟩
        | succ i =>
          rw [List.getElem?_cons_succ] at e
          have := grp_at f (j + 1) _ i g z (Int.ediv_nonneg hx0 (by omega)) e
          rw [show j + (i + 1) = j + 1 + i by omega]; exact this
theorem grp_rest {σ : Nat → Option Int} : ∀ (f j : Nat) (x : Int), 0 ≤ x → 0 ≤ (grp σ f j x).2 ∧ (grp σ f j x).2 ≤ x
  | 0, _, _, h => ⟨h, Int.le_refl _⟩
  | f + 1, j, x, hx0 => by
    cases h : σ j with
    | none => rw [grp_none h]; exact ⟨hx0, Int.le_refl _⟩
    | some z =>
      by_cases hx : x = 0
      · subst hx; rw [grp_zero]; exact ⟨Int.le_refl _, Int.le_refl _⟩
      · rw [grp_some h hx]
        have hp := pow10_pos z.toNat
        have := grp_rest (σ := σ) f (j + 1) (x / 10 ^ z.toNat) (Int.ediv_nonneg hx0 (by omega))
        have h2 : x / 10 ^ z.toNat ≤ x := Int.ediv_le_self _ hx0
        exact ⟨this.1, Int.le_trans this.2 h2⟩
theorem div_lt {x z : Int} {f : Nat} (h : x < 10 ^ (f + 1)) (hz : 1 ≤ z) : x / 10 ^ z.toNat < 10 ^ f := by
  have hp := pow10_pos z.toNat
  refine Int.ediv_lt_of_lt_mul hp (Int.lt_of_lt_of_le h ?_)
  rw [← Int.pow_add]
  exact pow10_mono (by omega)
theorem grp_all {σ : Nat → Option Int} (hσ : ∀ j, ∃ z, σ j = some z ∧ 1 ≤ z) : ∀ (f j : Nat) (x : Int), 0 ≤ x → x < 10 ^ f → (grp σ f j x).2 = 0
  | 0, _, x, h0, h1 => by show x = 0; simp at h1; omega
  | f + 1, j, x, h0, h1 => by
    obtain ⟨z, h, hz⟩ := hσ j
    by_cases hx : x = 0
    · subst hx; rw [grp_zero]
    · rw [grp_some h hx]
      exact grp_all hσ f (j + 1) _ (Int.ediv_nonneg h0 (Int.le_of_lt (pow10_pos _))) (div_lt h1 hz)

/-! the sums -/
theorem oneOf_cons (p : Int × Int) (gs : List (Int × Int)) : ∀ i, oneOf (p :: gs) (i + 1) = p.1 + oneOf gs i
  | 0 => by simp [oneOf]
  | i + 1 => by
    rw [oneOf, oneOf_cons p gs i, oneOf, List.getD_cons_succ]; omega
theorem otherOf_cons (p : Int × Int) (gs : List (Int × Int)) : ∀ i, otherOf (p :: gs) (i + 1) = p.1 - otherOf gs i
  | 0 => by simp [otherOf]
  | i + 1 => by
    rw [otherOf, otherOf_cons p gs i, otherOf, List.getD_cons_succ]
    have e : (1 : Int) - 2 * (((i + 1 : Nat) : Int) % 2) = -(1 - 2 * ((i : Int) % 2)) := by omega
    rw [e, Int.mul_neg]
    generalize (gs.getD i (0, 0)).1 * (1 - 2 * ((i : Int) % 2)) = c
    omega
theorem sums_grp {σ : Nat → Option Int} {z : Int} (hσ : ∀ j, σ j = some z) : ∀ (f j : Nat) (x : Int), (grp σ f j x).2 = 0 →
    (10 ^ z.toNat - 1 : Int) ∣ oneOf (grp σ f j x).1 (grp σ f j x).1.length - x ∧ (10 ^ z.toNat + 1 : Int) ∣ otherOf (grp σ f j x).1 (grp σ f j x).1.length - x
  | 0, _, x, h => by
    have h : x = 0 := h
    subst h
    exact ⟨⟨0, by simp [grp, oneOf]⟩, ⟨0, by simp [grp, otherOf]⟩⟩
  | f + 1, j, x, h => by
    by_cases hx : x = 0
    · subst hx; rw [grp_zero]; exact ⟨⟨0, by simp [oneOf]⟩, ⟨0, by simp [otherOf]⟩⟩
    · rw [grp_some (hσ j) hx] at h ⊢
      have ih := sums_grp hσ f (j + 1) (x / 10 ^ z.toNat) h
      have hd := Int.mul_ediv_add_emod x (10 ^ z.toNat)
      simp only [List.length_cons]
      rw [oneOf_cons, otherOf_cons]
      dsimp only
      generalize x / 10 ^ z.toNat = q at *
      generalize x % 10 ^ z.toNat = g at *
      generalize oneOf (grp σ f (j + 1) q).1 (grp σ f (j + 1) q).1.length = a at *
      generalize otherOf (grp σ f (j + 1) q).1 (grp σ f (j + 1) q).1.length = b at *
      generalize (10 : Int) ^ z.toNat = P at *
      obtain ⟨⟨k, hk⟩, ⟨l, hl⟩⟩ := ih
      refine ⟨⟨k - q, ?_⟩, ⟨-l - q, ?_⟩⟩
      · rw [Int.mul_sub, ← hk, Int.sub_mul, Int.one_mul]; omega
      · rw [Int.mul_sub, Int.mul_neg, ← hl, Int.add_mul, Int.one_mul]; omega

theorem sum_ok {s0 x : Int} (h : 1 ≤ s0 ∧ s0 ≤ 4) (hx : 0 ≤ x) (hx1 : x < 10 ^ 50) : SumOK s0 x := by
  have hr := grp_all (σ := sigma [s0] 0) (fun j => ⟨s0, sigma_one j, h.1⟩) 200 0 x hx (Int.lt_of_lt_of_le hx1 (pow10_mono (by decide)))
  obtain ⟨h1, h2⟩ := sums_grp (fun j => sigma_one (s0 := s0) j) 200 0 x hr
  have hp10 : (10 : Int) ≤ 10 ^ s0.toNat := by simpa using pow10_mono (a := 1) (b := s0.toNat) (by omega)
  refine ⟨grp_len _ _ _ _, ?_, ?_⟩
  · rw [Int.fmod_eq_emod_of_nonneg _ (by omega)]; exact Int.emod_eq_zero_of_dvd h1
  · rw [Int.fmod_eq_emod_of_nonneg _ (by omega)]; exact Int.emod_eq_zero_of_dvd h2

/-! the text -/
theorem drop_take {p : Nat → Bool} : ∀ l : List Nat, l.drop (l.takeWhile p).length = l.dropWhile p
  | [] => rfl
  | a :: l => by
    by_cases h : p a = true
    · rw [List.takeWhile_cons_of_pos h, List.dropWhile_cons_of_pos h]; exact drop_take l
    · rw [List.takeWhile_cons_of_neg h, List.dropWhile_cons_of_neg h]; rfl
theorem zero_has : (Str.ofString "0").cps.contains = fun c => c == 48 := by
  have e0 : (Str.ofString "0").cps = #[48] := by decide
  funext c
  rw [e0]
  by_cases h : c = 48 <;> simp [h]
theorem drop_head {p : Nat → Bool} : ∀ {l : List Nat} {c : Nat} {r : List Nat}, l.dropWhile p = c :: r → p c = false
  | [], _, _, h => by simp at h
  | a :: l, c, r, h => by
    by_cases ha : p a = true
    · rw [List.dropWhile_cons_of_pos ha] at h; exact drop_head h
    · rw [List.dropWhile_cons_of_neg ha] at h
      injection h with h1 h2
      rw [← h1]; simpa using ha
theorem strip_cps (x : Str) : (Txt.lstripChars x (Str.ofString "0")).cps.toList = x.cps.toList.dropWhile (· == 48) := by
  unfold Txt.lstripChars
  rw [PyProof.Rows.stripBy_eq, StrLaws.strSub_toList, zero_has]
  show (x.cps.toList.drop (x.cps.toList.takeWhile (· == 48)).length).take (x.length - (x.cps.toList.takeWhile (· == 48)).length) = _
  rw [List.take_of_length_le (by rw [List.length_drop, len_cps]; exact Nat.le_refl _), drop_take]
theorem chars_back : ∀ {l : List Nat}, AllDigits l → (l.map Char.ofNat).map Char.toNat = l
  | [], _ => rfl
  | c :: l, h => by
    have hc := h.head
    have e : ∀ c : Nat, c < 58 → (Char.ofNat c).toNat = c := by decide
    rw [List.map_cons, List.map_cons, chars_back h.tail, e c (by omega)]
theorem AllDigits.drop {p : Nat → Bool} {l : List Nat} (h : AllDigits l) : AllDigits (l.dropWhile p) := fun d hd => h d (List.dropWhile_sublist p |>.mem hd)
/-- what is left behind the noughts depends on the value alone -/
theorem strip_val {A B : List Nat} (hA : AllDigits A) (hB : AllDigits B) (h : digitsVal A = digitsVal B) : A.dropWhile (· == 48) = B.dropWhile (· == 48) := by
  have key : ∀ C : List Nat, AllDigits C → C.dropWhile (· == 48) = if digitsVal C = 0 then [] else (Nat.toDigits 10 (digitsVal C)).map Char.toNat := fun C hC => by
    have ht := toDigits_all C hC
    have hD := AllDigits.drop (p := (· == 48)) hC
    cases hc : C.dropWhile (· == 48) with
    | nil =>
      rw [hc] at ht
      have : digitsVal C = 0 := by
        have hv := KIN.val_back (digitsVal C)
        rw [ht] at hv
        rw [← hv]; rfl
      rw [if_pos this]
    | cons c r =>
      rw [hc] at ht hD
      have hc48 : c ≠ 48 := fun e => by
        have := drop_head hc
        rw [e] at this
        exact absurd this (by decide)
      have hne : digitsVal C ≠ 0 := fun e => by
        rw [e] at ht
        have : (Nat.toDigits 10 0).map Char.toNat = ((c :: r).map Char.ofNat).map Char.toNat := by rw [ht]
        rw [chars_back hD] at this
        have h0 : (Nat.toDigits 10 0).map Char.toNat = [48] := by decide
        rw [h0] at this
        injection this with h1 _
        exact hc48 h1.symm
      rw [if_neg hne, ht, chars_back hD]
  rw [key A hA, key B hB, h]

theorem foldl_val (b : List Nat) : ∀ a : Nat, b.foldl (fun acc c => acc * 10 + (c - 48)) a = a * 10 ^ b.length + digitsVal b := by
  induction b with
  | nil => intro a; simp [digitsVal]
  | cons c b ih =>
    intro a
    have h1 := ih (a * 10 + (c - 48))
    have h2 := ih (0 * 10 + (c - 48))
    show List.foldl _ (a * 10 + (c - 48)) b = _
    rw [h1]
    have e : digitsVal (c :: b) = List.foldl (fun acc c => acc * 10 + (c - 48)) (0 * 10 + (c - 48)) b := rfl
    rw [e, h2, List.length_cons, Nat.pow_succ, Nat.add_mul, Nat.zero_mul, Nat.zero_add]
    rw [show a * (10 ^ b.length * 10) = a * 10 * 10 ^ b.length by rw [Nat.mul_comm (10 ^ b.length) 10, Nat.mul_assoc]]
    omega
theorem val_app (a b : List Nat) : digitsVal (a ++ b) = digitsVal a * 10 ^ b.length + digitsVal b := by
  unfold digitsVal
  rw [List.foldl_append]
  exact foldl_val b _
theorem val_rep (n : Nat) (l : List Nat) : digitsVal (List.replicate n 48 ++ l) = digitsVal l := by
  induction n with
  | zero => rfl
  | succ n ih => rw [List.replicate_succ, List.cons_append, digitsVal_zero, ih]

theorem num_digits (m : Nat) : AllDigits ((Nat.toDigits 10 m).map Char.toNat) := fun c hc => by
  obtain ⟨ch, hch, e⟩ := List.mem_map.mp hc
  have r := digit_range (Nat.isDigit_of_mem_toDigits (by decide) (by decide) hch)
  rw [← e]
  exact r

theorem join_cps (l : List Str) : (Txt.join (Str.ofString "") l).cps.toList = (l.map fun a => a.cps.toList).flatten := by
  show (Builtin.Str.glued (Str.ofString "") l).cps.toList = _
  rw [StrLaws.glued_eq_join]
  have e0 : (Str.ofString "").cps.toList = [] := by decide
  induction l with
  | nil => rfl
  | cons a l ih =>
    cases l with
    | nil => show a.cps.toList = _; simp
    | cons b l =>
      show (a ++ Str.ofString "" ++ Str.join (Str.ofString "") (b :: l)).cps.toList = _
      rw [app_cps, app_cps, e0, ih, List.append_nil, List.map_cons (l := b :: l), List.flatten_cons]

/-- the cut number's figures -/
def told (gs : List (Int × Int)) : List Nat := (gs.reverse.map fun q => (fillS q.2 q.1).cps.toList).flatten
theorem told_cons (p : Int × Int) (gs : List (Int × Int)) : told (p :: gs) = told gs ++ (fillS p.2 p.1).cps.toList := by
  unfold told
  rw [List.reverse_cons, List.map_append, List.flatten_append]; simp
theorem fill_facts {z g : Int} (h0 : 0 ≤ g) (h : g < 10 ^ z.toNat) (hz : 1 ≤ z) : AllDigits (fillS z g).cps.toList ∧ (fillS z g).cps.toList.length = z.toNat ∧ digitsVal (fillS z g).cps.toList = g.toNat := by
  rw [fill_cps h0]
  have hl : (Nat.toDigits 10 g.toNat).length ≤ z.toNat := (Nat.length_toDigits_le_iff (by decide) (by omega)).mpr (by
    have : ((g.toNat : Nat) : Int) < ((10 ^ z.toNat : Nat) : Int) := by rw [Int.toNat_of_nonneg h0]; simpa using h
    exact Int.ofNat_lt.mp this)
  refine ⟨fun c hc => ?_, ?_, ?_⟩
  · rcases List.mem_append.mp hc with hc | hc
    · rw [List.eq_of_mem_replicate hc]; decide
    · exact num_digits _ c hc
  · rw [List.length_append, List.length_replicate, List.length_map]; omega
  · rw [val_rep, KIN.val_back]

theorem told_val {σ : Nat → Option Int} (hσ : ∀ j z, σ j = some z → 1 ≤ z) : ∀ (f j : Nat) (x : Int), 0 ≤ x →
    AllDigits ((Str.ofString (toString (grp σ f j x).2)).cps.toList ++ told (grp σ f j x).1) ∧ digitsVal ((Str.ofString (toString (grp σ f j x).2)).cps.toList ++ told (grp σ f j x).1) = x.toNat := by
  have base : ∀ x : Int, 0 ≤ x → AllDigits ((Str.ofString (toString x)).cps.toList ++ told []) ∧ digitsVal ((Str.ofString (toString x)).cps.toList ++ told []) = x.toNat := fun x hx => by
    have e : told [] = [] := rfl
    rw [e, List.append_nil, num_cps hx]
    exact ⟨num_digits _, KIN.val_back _⟩
  intro f
  induction f with
  | zero => exact fun j x hx => base x hx
  | succ f ih =>
    intro j x hx
    cases h : σ j with
    | none => rw [grp_none h]; exact base x hx
    | some z =>
      by_cases hx0 : x = 0
      · subst hx0; rw [grp_zero]; exact base 0 (Int.le_refl _)
      · rw [grp_some h hx0]
        have hp := pow10_pos z.toNat
        have hz := hσ j z h
        have hq : 0 ≤ x / 10 ^ z.toNat := Int.ediv_nonneg hx (by omega)
        have hg0 : 0 ≤ x % 10 ^ z.toNat := Int.emod_nonneg _ (by omega)
        have hg1 : x % 10 ^ z.toNat < 10 ^ z.toNat := Int.emod_lt_of_pos _ hp
        obtain ⟨i1, i2⟩ := ih (j + 1) _ hq
        obtain ⟨f1, f2, f3⟩ := fill_facts hg0 hg1 hz
        dsimp only
        rw [told_cons, ← List.append_assoc]
        dsimp only
        refine ⟨fun c hc => (List.mem_append.mp hc).elim (i1 c) (f1 c), ?_⟩
        rw [val_app, i2, f2, f3]
        have hd := Int.mul_ediv_add_emod x (10 ^ z.toNat)
        have e : ((10 ^ z.toNat : Nat) : Int) = (10 : Int) ^ z.toNat := by simp
        rw [← e] at hd hq hg0 ⊢
        generalize 10 ^ z.toNat = P at *
        apply Int.ofNat.inj
        show ((_ : Nat) : Int) = ((x.toNat : Nat) : Int)
        rw [Int.natCast_add, Int.natCast_mul, Int.toNat_of_nonneg hq, Int.toNat_of_nonneg hg0, Int.toNat_of_nonneg hx, Int.mul_comm]
        exact hd

theorem str_ext {a b : Str} (h : a.cps.toList = b.cps.toList) : a = b := PySem.Str.ext' (Array.toList_inj.mp h)

theorem plain_ok {ss : List Int} {e x : Int} (hs0 : ss ≠ []) (hss : ∀ z ∈ ss, 1 ≤ z ∧ z ≤ 4) (hsl : ss.length ≤ 3) (he : e = 0 ∨ e = 127) (hx : 0 ≤ x) (hx1 : x < 10 ^ 50) : PlainOK ss e x := by
  have hσ : ∀ j z, sigma ss e j = some z → 1 ≤ z ∧ z ≤ 4 := fun j z h => sigma_range hss h
  have hat : ∀ (i : Nat) g z, (grp (sigma ss e) 200 0 x).1[i]? = some (g, z) → 0 ≤ g ∧ g < 10 ^ z.toNat ∧ 1 ≤ z ∧ z ≤ 4 := fun i g z h => by
    obtain ⟨h1, h2, h3⟩ := grp_at _ _ _ _ _ _ hx h
    exact ⟨h2, h3, hσ _ _ h1⟩
  have hlen := grp_len (sigma ss e) 200 0 x
  obtain ⟨hr0, hr1⟩ := grp_rest (σ := sigma ss e) 200 0 x hx
  have hj : (Txt.join (Str.ofString "") ((grp (sigma ss e) 200 0 x).1.reverse.map fun q => fillS q.2 q.1)).cps.toList = told (grp (sigma ss e) 200 0 x).1 := by
    rw [join_cps, List.map_map]; rfl
  refine ⟨?_, ?_, ?_, hat, hr0, Int.lt_of_le_of_lt hr1 hx1, hlen, ?_, ?_⟩
  · rintro rfl
    exact grp_all (fun j => by obtain ⟨z, h, _⟩ := sigma_some (j := j) hs0; exact ⟨z, h, (hσ j z h).1⟩) 200 0 x hx (Int.lt_of_lt_of_le hx1 (pow10_mono (by decide)))
  · rintro rfl
    exact grp_few (fun j h => sigma_stop h) 200 0 x
  · refine List.ext_getElem? fun i => ?_
    unfold dueL
    rw [List.getElem?_map, List.getElem?_map]
    rcases Nat.lt_or_ge i (grp (sigma ss e) 200 0 x).1.length with hi | hi
    · rw [List.getElem?_range hi]
      cases hg : (grp (sigma ss e) 200 0 x).1[i]? with
      | none => rw [List.getElem?_eq_none_iff] at hg; omega
      | some p =>
        obtain ⟨g, z⟩ := p
        obtain ⟨h1, _, _⟩ := grp_at _ _ _ _ _ _ hx hg
        rw [Nat.zero_add] at h1
        show some z = some (ss.getD (min i (ss.length - 1)) 0)
        rw [sigma_due he hs0 h1]
    · rw [List.getElem?_eq_none hi, List.getElem?_eq_none (by simpa using hi)]; rfl
  · obtain ⟨t1, t2⟩ := told_val (fun j z h => (hσ j z h).1) 200 0 x hx
    refine str_ext ?_
    rw [strip_cps, strip_cps, app_cps, hj, num_cps hx]
    exact strip_val t1 (num_digits _) (by rw [t2, KIN.val_back])
  · rw [len_cps, hj]
    unfold told
    have : ∀ l : List (Int × Int), (∀ q ∈ l, (fillS q.2 q.1).cps.toList.length ≤ 8) → (l.map fun q => (fillS q.2 q.1).cps.toList).flatten.length ≤ l.length * 8 := fun l => by
      induction l with
      | nil => intro _; simp
      | cons q l ih =>
        intro h
        have h1 := h q (.head _)
        have h2 := ih fun q hq => h q (.tail _ hq)
        rw [List.map_cons, List.flatten_cons, List.length_append, List.length_cons]
        omega
    refine Nat.le_trans (this _ fun q hq => ?_) (by rw [List.length_reverse]; omega)
    obtain ⟨i, hi⟩ := List.mem_iff_getElem?.mp (List.mem_reverse.mp hq)
    obtain ⟨b1, b2, b3, b4⟩ := hat i q.1 q.2 hi
    rw [← len_cps]
    have := pow10_mono (a := q.2.toNat) (b := 4) (by omega)
    exact fill_len b1 (by omega) b4
end Mine

/-! part L12 -/

namespace Mine

theorem tabs_start : TabsIn [(44, tabObj #[]), (37, tabObj #[])] :=
  ⟨fun q hq => by
    rcases List.mem_cons.mp hq with rfl | hq
    · exact ⟨_, rfl, .inl rfl⟩
    · rw [List.mem_singleton.mp hq]; exact ⟨_, rfl, .inl rfl⟩, .inl (.tail _ (.head _)), .inl (.head _)⟩

theorem grown_at {g h : Heap} {L P ln col : Nat} {q : Str} {front tb : List (Addr × Obj)} (N : News g L h (front ++ tb)) (t : TabAtP P ln col q tb) : GrownAt P h := by
  rcases t with t | ⟨_, _, _, _, t, _⟩
  · exact ⟨_, (N _ (List.mem_append_right _ t)).1⟩
  · exact ⟨_, (N _ (List.mem_append_right _ t)).1⟩

theorem law_end {s₁ : Shared} {h₀ h : Heap} {g : Array GenState} {d : Drawn} {t : Nat} {L : Addr} {m : Str → Option Value} {a b : Addr × Obj} {fr tb : List (Addr × Obj)}
    (F : Fr h₀ L h m) (N : News h₀ L h (a :: b :: (fr ++ tb))) (K : TabsIn tb) (hb : AllBare g) (s' : Shared) (e : s' = ⟨h, g, d, t, s₁.os⟩) :
    (Except.ok (Flow.ret (.bool true)) : Result) = .ok (.ret (.bool true)) ∧ (∀ b o, h₀.get? b = some o → s'.heap.get? b = some o) ∧ GrownAll [(48, 44), (41, 37)] s'.heap ∧ s'.os = s₁.os ∧ AllBare s'.gens := by
  subst e
  have N2 : News h₀ L h ((a :: b :: fr) ++ tb) := N
  exact ⟨rfl, F.keep, ⟨grown_at N2 K.t44, grown_at N2 K.t37, True.intro⟩, rfl, hb⟩

theorem start_news {g h : Heap} {L : Addr} {l b c d e f : Addr × Obj} (N : News g L h [l, b, c, d, e, f]) : News g L h (d :: l :: ([b, c] ++ [e, f])) := fun q hq => N q (by
  simp only [List.mem_cons, List.mem_append, List.not_mem_nil, or_false] at hq ⊢
  rcases hq with h | h | (h | h) | h | h <;> simp only [h, true_or, or_true])
theorem start_news2 {g h : Heap} {L : Addr} {l b b' c d e f : Addr × Obj} (N : News g L h [l, b, b', c, d, e, f]) : News g L h (d :: l :: ([b, b', c] ++ [e, f])) := fun q hq => N q (by
  simp only [List.mem_cons, List.mem_append, List.not_mem_nil, or_false] at hq ⊢
  rcases hq with h | h | (h | h | h) | h | h <;> simp only [h, true_or, or_true])

theorem sizes_of {ws : List Int} (h : decide (ws = []) = false) : ∃ s0 ss, (ws.take 3).map (fun k' => 1 + Int.fmod k' 4) = s0 :: ss ∧ (∀ z ∈ s0 :: ss, 1 ≤ z ∧ z ≤ 4) ∧ ss.length ≤ 2 := by
  have hne : ws ≠ [] := of_decide_eq_false h
  obtain ⟨a, r, rfl⟩ := List.exists_cons_of_ne_nil hne
  refine ⟨1 + Int.fmod a 4, (r.take 2).map (fun k' => 1 + Int.fmod k' 4), rfl, fun z hz => ?_, by rw [List.length_map, List.length_take]; omega⟩
  have all : ∀ k : Int, 1 ≤ 1 + Int.fmod k 4 ∧ 1 + Int.fmod k 4 ≤ 4 := fun k => by
    have h1 := fmod_lo k (n := 4) (by decide)
    have h2 := fmod_hi k (n := 4) (by decide)
    omega
  rcases List.mem_cons.mp hz with rfl | hz
  · exact all a
  · obtain ⟨k, _, rfl⟩ := List.mem_map.mp hz
    exact all k

section
local macro_rules | `(tactic| walk_at "execs cons") => `(tactic| (k_here; (with_reducible show wpAny _ _ (execs (Stmt.For _ _ _ _ _ :: _) _) _ _ _); with_reducible refine hold_of ?_))

theorem law_holds : PySem.Challenge.rw_zr0004_01.Holds := hd (by
  k_fill
  intro w s₀ s₁ mg mb G Y fa o pm cd doc dV kV ho hd hcd hD hmg hg args vals as hpre hlay hrd hwl hlo
  have KX := km_in_of Y
  km_tabs Y
  have X := (Ground.X G).1
  have V := (Ground.X G).2
  refine Ground.open G ?_
  intro T B D TE TW
  try (refine guard_noD D (by decide +kernel) ?_; clear D)
  km_lay T hmg ho hd cd
  clear hmg
  wrow_args hpre hlay hrd hwl hlo
  all_goals (
    first | refine callC_kw (enter_call ?_) | refine enter_call ?_
    w_top on
    refine my_post hT9 (fun _ => rfl) (by first | rfl | wrow_post) ?_
    w_call any ho hd hcd hD T F
    clear hd
    kn_ghosts F T
    k_drop)
  (try k_fold)
  k_steps
  · (rename Fr _ _ _ _ => F9)
    (rename News _ _ _ _ => N9)
    refine (show wpAny _ _ _ _ _ _ from ?_)
    refine law_tail (nm := Str.ofString "law") (sits := [_]) (nn := 0) (tb := [(44, tabObj #[]), (37, tabObj #[])]) (s0 := 3) (ss := []) rfl (by assumption) F9 rfl rfl (by assumption) (start_news N9) (by assumption) ?_ tabs_start (by assumption) ?_ ?_ (fmod_lo _ ?_) (fmod_hi _ ?_) (.cons _ _ .nil) ?_ ?_ ?_ ?_ ?_ ?_
    · intro q hq
      rcases List.mem_cons.mp hq with rfl | hq
      · exact notTab_lit rfl
      · rw [List.mem_singleton.mp hq]; exact notTab_lit rfl
    · decide +kernel
    · decide +kernel
    · decide
    · decide
    · intro z hz; rw [List.mem_singleton.mp hz]; decide
    · decide
    · exact .of_eq hg
    · exact fun e he => plain_ok (by simp) (fun z hz => by rw [List.mem_singleton.mp hz]; decide) (by decide) he (fmod_lo _ (by decide)) (fmod_hi _ (by decide))
    · exact sum_ok (by decide) (fmod_lo _ (by decide)) (fmod_hi _ (by decide))
    · intro h2 tk2 gens2 m2 tb2 F2 N2 K2 b2
      exact law_end (s₁ := s₁) F2 N2 K2 b2 _ rfl
  · (rename Fr _ _ _ _ => F9)
    (rename News _ _ _ _ => N9)
    (rename IntsAre _ (List.map _ _) => hI8)
    (rename (decide (_ = _) = false) => hne)
    obtain ⟨s0, ss, es, hs1, hs2⟩ := sizes_of hne
    rw [es] at hI8
    refine (show wpAny _ _ _ _ _ _ from ?_)
    refine law_tail (nm := Str.ofString "law") (tb := [(44, tabObj #[]), (37, tabObj #[])]) (s0 := s0) (ss := ss) rfl (by assumption) F9 rfl rfl (by assumption) (start_news2 N9) (by assumption) ?_ tabs_start (by assumption) ?_ ?_ (fmod_lo _ ?_) (fmod_hi _ ?_) hI8 hs1 hs2 ?_ ?_ ?_ ?_
    · intro q hq
      rcases List.mem_cons.mp hq with rfl | hq
      · exact notTab_lit rfl
      · rcases List.mem_cons.mp hq with rfl | hq
        · exact notTab_lit rfl
        · rw [List.mem_singleton.mp hq]; exact notTab_lit rfl
    · decide +kernel
    · decide +kernel
    · decide
    · decide
    · exact .of_eq hg
    · exact fun e he => plain_ok (by simp) hs1 (by simpa using hs2) he (fmod_lo _ (by decide)) (fmod_hi _ (by decide))
    · exact sum_ok (hs1 _ (.head _)) (fmod_lo _ (by decide)) (fmod_hi _ (by decide))
    · intro h2 tk2 gens2 m2 tb2 F2 N2 K2 b2
      exact law_end (s₁ := s₁) F2 N2 K2 b2 _ rfl)
end
end Mine

theorem PySem.Challenge.cw_zr0004_01_holds : PySem.Challenge.rw_zr0004_01.Holds := by
  exact Mine.law_holds
