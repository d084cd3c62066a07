import PyProof.Rows.All
import Wide.All
import OpenK.AllK
import KE.KNest
import KE.KPairComp
import Wide.FinOn
import Lean
import PySem.Challenge.RW_ez0233_01
open PySem PySem.W PyProof.Rows
set_option Elab.async false
set_option maxRecDepth 100000
set_option maxHeartbeats 8000000
open_top hd for PySem.Challenge.rw_ez0233_01
section
open PySem PySem.W PySem.Spec PySem.Calls PyProof.Rows
set_option Elab.async false
set_option maxRecDepth 100000
namespace Mine

/-- a call of a plain def that does not raise: no frames below are asked for -/
theorem enter {prog : Program} {w : World} {A : Around} {s : Shared} {K : Frag} {g : Heap} {Q : Value → Shared → Prop} {E : Value → Shared → Prop}
    {name qual : Str} {params : Arguments} {body : List Stmt} {scope : Scope} {dV kV doc pm cdv ct oc : Value} {an od : Option Addr} {osl : Array (Option Value)} {f : Addr} {vals : List Value} {binds : List (Str × Value)}
    (st : ∀ b o, g.get? b = some o → s.heap.get? b = some o) (sz : g.objs.size ≤ s.heap.objs.size)
    (X : K.In s.heap) (hlim : s.heap.NoLimit)
    (ho : K.lookup f = some ⟨oc, od, .func (fnOf name qual params body scope dV kV doc pm an cdv ct), osl⟩) (hcd : codeIn K cdv qual = true) (hroom : A.depth < recursionLimit)
    (hbind : BindsTo s (fnOf name qual params body scope dV kV doc pm an cdv ct) ⟨vals, []⟩ binds) (hloc : ∀ y ∈ binds, scope.names.lookup y.1 = some .local)
    (h : ∀ L' h₁ tk, s.heap.objs.size = L' → Fr g L' h₁ (fun y => binds.reverse.lookup y) → (∀ b o, s.heap.get? b = some o → h₁.get? b = some o) →
      wpAny (model prog w) (A.deeper (envOf qual scope L' f cdv)) (execs body (envOf qual scope L' f cdv))
        (fun fl s' => Q (match fl with | .ret v => v | _ => .none) s') (fun _ _ => False)
        { s with heap := h₁, toks := tk })
    (hco : scope.isCoroutine = false) (hgen : scope.isGenerator = false) (hk : scope.kind = .function)
    (hcell : ∀ x ∈ scope.names, x.2 ≠ .cell) : wpAny (model prog w) A (call (.ref f) vals) Q E s := by
  refine wpAny_call (codeAny_call_def (fd := fnOf name qual params body scope dV kV doc pm an cdv ct) (body := body) (binds := binds) hroom (X _ _ ho) rfl hlim (codeRec_of X hcd) rfl hbind hcell hloc (fun h₁ hns hk₁ => ?_) hco hgen hk)
  exact wpAny_mono (h s.heap.objs.size h₁ _ rfl ⟨hns, fun b o e => hk₁ b o (st b o e), sz⟩ hk₁) (fun fl s' hq => hq) (fun _ _ x => x.elim)

/-- a call of a def with cells that does not raise -/
theorem enterC {prog : Program} {w : World} {A : Around} {s : Shared} {K : Frag} {g : Heap} {Q : Value → Shared → Prop} {E : Value → Shared → Prop}
    {name qual : Str} {params : Arguments} {body : List Stmt} {scope : Scope} {dV kV doc pm cdv ct oc : Value} {an od : Option Addr} {osl : Array (Option Value)} {f : Addr} {vals : List Value} {binds : List (Str × Value)}
    (st : ∀ b o, g.get? b = some o → s.heap.get? b = some o) (sz : g.objs.size ≤ s.heap.objs.size)
    (X : K.In s.heap) (hlim : s.heap.NoLimit)
    (ho : K.lookup f = some ⟨oc, od, .func (fnOf name qual params body scope dV kV doc pm an cdv ct), osl⟩) (hcd : codeIn K cdv qual = true) (hroom : A.depth < recursionLimit)
    (hbind : BindsTo s (fnOf name qual params body scope dV kV doc pm an cdv ct) ⟨vals, []⟩ binds) (hkind : (binds.all fun y => scope.names.lookup y.1 == some .local || scope.names.lookup y.1 == some .cell) = true)
    (hnd : ((cellsFrom 0 scope.names []).map (·.1)).Nodup)
    (h : ∀ L' h₁ tk cells, s.heap.objs.size = L' → Fr g L' h₁ (bindL (envOfC qual scope L' f cdv).kindOf binds fun _ => none) → News g L' h₁ cells →
      CellsAre (bindC (envOfC qual scope L' f cdv).kindOf binds fun _ => none) (cellsFrom (L' + 1) scope.names []) cells → (∀ b o, s.heap.get? b = some o → h₁.get? b = some o) →
      wpAny (model prog w) (A.deeper (envOfC qual scope L' f cdv)) (execs body (envOfC qual scope L' f cdv))
        (fun fl s' => Q (match fl with | .ret v => v | _ => .none) s') (fun _ _ => False)
        { s with heap := h₁, toks := tk })
    (hco : scope.isCoroutine = false) (hgen : scope.isGenerator = false) (hk : scope.kind = .function) : wpAny (model prog w) A (call (.ref f) vals) Q E s := by
  refine wpAny_call (codeAny_call_function hroom (X _ _ ho) rfl hco hgen rfl (codeRec_of X hcd) (hbind _ _ _ _ ?_))
  refine wpAny_newFunctionEnv_cells hk (kindsX hkind _) fun env' he s' x => ?_
  subst he
  refine ⟨hlim.keeps x.toInCall.keep, codeAny_func ?_⟩
  obtain ⟨h₁, tk, rfl, _⟩ := x.done
  have hk₁ := x.toInCall.keep
  obtain ⟨cells, NC, Y⟩ := Cl.news (h₀ := s.heap) (Nat.le_refl _) fun n c hm => ⟨x.cell n c (lookup_of_mem_nodup (cellsFrom_names scope.names 0 (s.heap.objs.size + 1) [] [] rfl ▸ hnd) hm), x.above n c hm⟩
  refine wpAny_mono (h s.heap.objs.size h₁ tk cells rfl ⟨x.toInCall.ns, fun b o e => hk₁ b o (st b o e), sz⟩ (fun p hp => ⟨(NC p hp).1, (NC p hp).2.1, ?_⟩) Y hk₁) (fun fl s' hl => hl) fun _ _ y => y.elim
  cases q : g.get? p.1 with
  | none => rfl
  | some o => have := st _ _ q; rw [(NC p hp).2.2] at this; cases this

noncomputable abbrev LO : List Str := looseW hd.view_39 [Str.ofString "_json_document_contains"] ++ (recsOf hd.view_39).map (·.name) ++ (litsOf hd.view_39).map (·.1) ++ (clssOf hd.view_39 (looseW hd.view_39 [Str.ofString "_json_document_contains"])).map (·.name)

/-- a code's table of codes -/
def Tab (h : Heap) (P : Addr) : Prop := ∃ ps, h.get? P = some (tabObj ps) ∧ TriplesOk ps.toList
theorem Tab.at {h h' : Heap} {P : Addr} (t : Tab h P) (k : ∀ o, h.get? P = some o → h'.get? P = some o) : Tab h' P := let ⟨ps, e, r⟩ := t; ⟨ps, k _ e, r⟩

/-- the text's part and the two tables that grow (of array_has, of contains) -/
structure Base (w : World) (mean : ExcName → Option Value) (mg mb : Str → Option Value) (hB : Heap) : Prop where
  X : (hd.heap_39 w.params).In hB
  T : Top topProg LO mean mg mb hB
  n1 : hB.get? 23 = none
  n2 : hB.get? 31 = none
  c1 : CodeHd hB 27 23
  c2 : CodeHd hB 35 31
structure Wld (w : World) (mean : ExcName → Option Value) (mg mb : Str → Option Value) (hB h : Heap) : Prop where
  B : Base w mean mg mb hB
  st : ∀ b o, hB.get? b = some o → h.get? b = some o
  t1 : Tab h 23
  t2 : Tab h 31
section
variable {w : World} {mean : ExcName → Option Value} {mg mb : Str → Option Value} {hB h h' : Heap}
theorem Wld.keeps (W : Wld w mean mg mb hB h) (k : ∀ b o, h.get? b = some o → h'.get? b = some o) : Wld w mean mg mb hB h' :=
  ⟨W.B, fun b o e => k b o (W.st b o e), W.t1.at fun o => k _ o, W.t2.at fun o => k _ o⟩
theorem Wld.X (W : Wld w mean mg mb hB h) : (hd.heap_39 w.params).In h := W.B.X.keeps W.st
theorem Wld.T (W : Wld w mean mg mb hB h) : Top topProg LO mean mg mb h := W.B.T.keeps W.st
theorem Wld.keepsBut (W : Wld w mean mg mb hB h) (k : ∀ b o, b ≠ 23 → b ≠ 31 → h.get? b = some o → h'.get? b = some o) (t1 : Tab h' 23) (t2 : Tab h' 31) : Wld w mean mg mb hB h' :=
  ⟨W.B, fun b o e => k b o (fun q => by rw [q, W.B.n1] at e; cases e) (fun q => by rw [q, W.B.n2] at e; cases e) (W.st b o e), t1, t2⟩
/-- all but one object of the call's own -/
theorem Wld.keepsOne (W : Wld w mean mg mb hB h) {a : Addr} (ha : hB.get? a = none) (h1 : a ≠ 23) (h2 : a ≠ 31) (k : ∀ b o, b ≠ a → h.get? b = some o → h'.get? b = some o) : Wld w mean mg mb hB h' :=
  ⟨W.B, fun b o e => k b o (fun q => by rw [q, ha] at e; cases e) (W.st b o e), W.t1.at fun o => k _ o (Ne.symm h1), W.t2.at fun o => k _ o (Ne.symm h2)⟩
end

/-- the heap less some objects: what a def may lean on -/
theorem hide_stays {h : Heap} {l : List Addr} : ∀ b o, (hideAll h l).get? b = some o → h.get? b = some o := fun _ _ e => of_hideAll l e
theorem hide_size {h : Heap} {l : List Addr} : (hideAll h l).objs.size ≤ h.objs.size := Nat.le_of_eq (hideAll_size l h)
theorem stays_hide {hB h : Heap} {l : List Addr} (st : ∀ b o, hB.get? b = some o → h.get? b = some o) (n : ∀ a ∈ l, hB.get? a = none) : ∀ b o, hB.get? b = some o → (hideAll h l).get? b = some o :=
  fun b o e => hideAll_get l (st b o e) fun q => by rw [n b q] at e; cases e
end Mine
end
section
open PySem PySem.W PySem.Spec PySem.Calls PyProof.Rows
set_option Elab.async false
set_option maxRecDepth 100000
namespace Mine

/-- what a run may turn: the addresses in W; the generators only grow, and stay bare -/
structure Grow (W : Addr → Prop) (s s' : Shared) : Prop where
  heap : ∀ b o, ¬ W b → s.heap.get? b = some o → s'.heap.get? b = some o
  gsz : s.gens.size ≤ s'.gens.size
  gold : ∀ k, k < s.gens.size → s'.gens[k]? = s.gens[k]?
  bare : AllBare s.gens → AllBare s'.gens
  drawn : s'.drawn = s.drawn
  os : s'.os = s.os
theorem Grow.refl (W : Addr → Prop) (s : Shared) : Grow W s s := ⟨fun _ _ _ e => e, Nat.le_refl _, fun _ _ => rfl, id, rfl, rfl⟩
theorem Grow.trans {W : Addr → Prop} {s s' s'' : Shared} (x : Grow W s s') (y : Grow W s' s'') : Grow W s s'' :=
  ⟨fun b o h e => y.heap b o h (x.heap b o h e), Nat.le_trans x.gsz y.gsz, fun k hk => (y.gold k (Nat.lt_of_lt_of_le hk x.gsz)).trans (x.gold k hk), fun h => y.bare (x.bare h), y.drawn.trans x.drawn, y.os.trans x.os⟩
theorem Grow.mono {W W' : Addr → Prop} {s s' : Shared} (x : Grow W s s') (h : ∀ b, W b → W' b) : Grow W' s s' :=
  ⟨fun b o hb e => x.heap b o (fun q => hb (h b q)) e, x.gsz, x.gold, x.bare, x.drawn, x.os⟩
theorem Grow.of_heap {W : Addr → Prop} {s : Shared} {h' : Heap} {tk : Nat} (h : ∀ b o, ¬ W b → s.heap.get? b = some o → h'.get? b = some o) : Grow W s { s with heap := h', toks := tk } :=
  ⟨h, Nat.le_refl _, fun _ _ => rfl, id, rfl, rfl⟩
theorem Grow.then_heap {W : Addr → Prop} {s s' : Shared} {h' : Heap} {tk : Nat} (x : Grow W s s') (h : ∀ b o, ¬ W b → s'.heap.get? b = some o → h'.get? b = some o) : Grow W s { s' with heap := h', toks := tk } :=
  x.trans (.of_heap h)

structure Turns (prog : Program) (w : World) (cenv : Env) (target elt : Expr) (I : Addr) (W : Addr → Prop) (n : Nat) (B : Nat → Bool) (J : Nat → Shared → Prop) (Z : Shared → Prop) (D U : Nat) : Prop where
  item : ∀ (A' : Around) (E' : Value → Shared → Prop) (i : Nat) (s : Shared), A'.handled = none → A'.depth ≤ D → A'.units ≤ U → i < n → J i s →
    wpAny (model prog w) A' (pyNext (.ref I)) (fun o s₁ => ∃ v, o = some v ∧ wpAny (model prog w) A' (letOwnedTupleGo target (.ref I) v) (fun _ s₂ =>
      wpAny (model prog w) A' (assign target cenv v) (fun _ s₃ => wpAny (model prog w) A' (eval elt cenv) (fun y s₄ => y = .bool (B i) ∧ J (i + 1) s₄ ∧ Grow W s s₄) E' s₃) E' s₂) E' s₁) E' s
  done : ∀ (A' : Around) (E' : Value → Shared → Prop) (s : Shared), A'.handled = none → A'.depth ≤ D → A'.units ≤ U → J n s →
    wpAny (model prog w) A' (pyNext (.ref I)) (fun o s₁ => o = none ∧ Grow W s s₁ ∧ Z s₁) E' s
  self : ∀ (A' : Around) (E' : Value → Shared → Prop) (Q : Value → Shared → Prop) (s : Shared), J 0 s → Q (.ref I) s → wpAny (model prog w) A' (pyIter (.ref I)) Q E' s

section
variable {prog : Program} {w : World} {A : Around} {cenv : Env} {target elt iter : Expr} {scope : Scope} {pos : Pos} {I : Addr} {W : Addr → Prop} {n : Nat} {B : Nat → Bool} {J : Nat → Shared → Prop} {Z : Shared → Prop} {D U : Nat}
abbrev RR (W : Addr → Prop) (Z : Shared → Prop) : GenEnd := fun m s₀ r s₁ => r = .ok .next ∧ (m = 0 ∧ Grow W s₀ s₁ ∧ Z s₁)
abbrev YY (W : Addr → Prop) (n : Nat) (B : Nat → Bool) (J : Nat → Shared → Prop) : Protocol := fun m s₀ v s kap => v = .bool (B (n - 1 - m)) ∧ J (n - m) s ∧ Grow W s₀ s ∧ ∀ s'', J (n - m) s'' → kap (.send .none) s''

theorem seg_loop (hh : A.handled = none) (hD : A.depth + 1 ≤ D) (hU : A.units + 3 ≤ U) (T : Turns prog w cenv target elt I W n B J Z D U) (hco : cenv.scope.isCoroutine = false) :
    ∀ (k i : Nat) (s₀ s : Shared), n = i + k → J i s → Grow W s₀ s →
      Seg (model prog w) A (RR W Z) (YY W n B J) k s₀ (.compLoop (.GeneratorExp elt [⟨target, iter, [], 0⟩] scope pos) 0 (.ref I) .none cenv)
        ((model prog w).den (.compLoop (.GeneratorExp elt [⟨target, iter, [], 0⟩] scope pos) 0 (.ref I) .none cenv)) [] s := by
  have hh' : (A.over (.compLoop (.GeneratorExp elt [⟨target, iter, [], 0⟩] scope pos) 0 (.ref I) .none cenv) []).handled = none := hh
  have hdep' : (A.over (.compLoop (.GeneratorExp elt [⟨target, iter, [], 0⟩] scope pos) 0 (.ref I) .none cenv) []).depth ≤ D := Nat.le_trans (Nat.le_of_eq rfl) hD
  have huni' : (A.over (.compLoop (.GeneratorExp elt [⟨target, iter, [], 0⟩] scope pos) 0 (.ref I) .none cenv) []).units ≤ U := Nat.le_trans (Nat.le_of_eq rfl) hU
  intro k
  induction k with
  | zero =>
    intro i s₀ s hk hJ hg
    obtain rfl : n = i := by omega
    show Seg _ A _ _ _ s₀ _ ((compTurn (.GeneratorExp elt [⟨target, iter, [], 0⟩] scope pos) 0 (.ref I) .none cenv).onRaise (leaving cenv)) [] s
    rw [compTurn_gen, Sem.onRaise_eq_wrap]
    refine seg_bind_wrap (wpAny_standAt ?_)
    refine seg_bind_wrap (wpAny_mono (T.done _ _ s hh' hdep' huni' hJ) (fun o s₁ h₁ => ?_) fun _ _ e => e)
    obtain ⟨rfl, g₁, z₁⟩ := h₁
    exact seg_end (.ok .next) ⟨rfl, rfl, hg.trans g₁, z₁⟩
  | succ k ih =>
    intro i s₀ s hk hJ hg
    have hlt : i < n := by omega
    show Seg _ A _ _ _ s₀ _ ((compTurn (.GeneratorExp elt [⟨target, iter, [], 0⟩] scope pos) 0 (.ref I) .none cenv).onRaise (leaving cenv)) [] s
    rw [compTurn_gen, Sem.onRaise_eq_wrap]
    refine seg_bind_wrap (wpAny_standAt ?_)
    refine seg_bind_wrap (wpAny_mono (T.item _ _ i s hh' hdep' huni' hlt hJ) (fun o s₁ h₁ => ?_) fun _ _ e => e)
    obtain ⟨v, rfl, h₁⟩ := h₁
    refine seg_bind_wrap (wpAny_mono h₁ (fun _ s₂ h₂ => ?_) fun _ _ e => e)
    refine seg_bind_wrap (wpAny_mono h₂ (fun _ s₃ h₃ => ?_) fun _ _ e => e)
    simp only [List.forIn_nil]
    refine seg_bind_wrap (wpAny_pure ?_)
    simp only [if_true]
    have hy : ∀ v, yieldOut cenv v = yieldValue v := fun v => by simp only [yieldOut, hco, Bool.false_eq_true, if_false]
    simp only [hy]
    rw [Sem.bind_eq_wrap', Sem.bind_eq_wrap', Sem.wrap_wrap, Sem.wrap_wrap]
    refine seg_wrap (wpAny_mono h₃ (fun y s₄ h₄ => ?_) fun _ _ e => e)
    obtain ⟨rfl, hJ₄, g₄⟩ := h₄
    have e1 : n - 1 - k = i := by omega
    have e2 : n - k = i + 1 := by omega
    refine seg_at (seg_yield rfl rfl rfl ⟨by rw [e1], by rw [e2]; exact hJ₄, hg.trans g₄, fun s'' hJ'' => ?_⟩)
    rw [e2] at hJ''
    exact seg_again rfl (ih (i + 1) s'' s'' (by omega) hJ'' (Grow.refl _ _))

theorem seg_start (hh : A.handled = none) (hD : A.depth + 1 ≤ D) (hU : A.units + 3 ≤ U) (T : Turns prog w cenv target elt I W n B J Z D U) (hco : cenv.scope.isCoroutine = false)
    (s₀ s : Shared) (hJ : J 0 s) (hg : Grow W s₀ s) :
    Seg (model prog w) A (RR W Z) (YY W n B J) n s₀ (.compStart (.GeneratorExp elt [⟨target, iter, [], 0⟩] scope pos) 0 (.ref I) .none cenv)
      ((model prog w).den (.compStart (.GeneratorExp elt [⟨target, iter, [], 0⟩] scope pos) 0 (.ref I) .none cenv)) [] s := by
  have loop := seg_loop (iter := iter) (scope := scope) (pos := pos) hh hD hU T hco n 0 s₀ s (by omega) hJ hg
  show Seg _ A _ _ _ s₀ _ ((compStart (.GeneratorExp elt [⟨target, iter, [], 0⟩] scope pos) 0 (.ref I) .none cenv).onRaise (leaving cenv)) [] s
  unfold compStart
  rw [Sem.onRaise_eq_wrap]
  show Seg _ A _ _ _ s₀ _ ((ask >>= _).wrap _ _ _ _) [] s
  refine seg_bind_wrap (wpAny_askSetting ?_)
  split
  · exact seg_again rfl loop
  · refine seg_bind_wrap (wpAny_rule ?_)
    show Seg _ A _ _ _ s₀ _ ((standAt iter.pos >>= _).wrap _ _ _ _) [] s
    exact seg_bind_wrap (wpAny_standAt (seg_bind_wrap (T.self _ _ _ s hJ (seg_again rfl loop))))

def GensOk (g : Nat) (a b : Array GenState) : Prop := a.size ≤ b.size ∧ (∀ k, k < a.size → k ≠ g → b[k]? = a[k]?) ∧ (AllBare a → AllBare b)
theorem GensOk.refl (g : Nat) (a : Array GenState) : GensOk g a a := ⟨Nat.le_refl _, fun _ _ _ => rfl, id⟩
theorem GensOk.trans {g : Nat} {a b c : Array GenState} (x : GensOk g a b) (y : GensOk g b c) : GensOk g a c :=
  ⟨Nat.le_trans x.1 y.1, fun k hk hn => (y.2.1 k (Nat.lt_of_lt_of_le hk x.1) hn).trans (x.2.1 k hk hn), fun h => y.2.2 (x.2.2 h)⟩
theorem GensOk.set (g : Nat) (a : Array GenState) {x : GenState} (hx : x.bare = true) : GensOk g a (a.setIfInBounds g x) := by
  refine ⟨by simp, fun k hk hn => by rw [Array.getElem?_setIfInBounds_ne (Ne.symm hn)], fun h y hy => ?_⟩
  obtain ⟨j, hj, rfl⟩ := Array.mem_iff_getElem.mp hy
  rw [Array.getElem_setIfInBounds (by simpa using hj)]
  split
  · exact hx
  · exact h _ (Array.getElem_mem (by simpa using hj))
theorem GensOk.of_grow {W : Addr → Prop} {s s' : Shared} (g : Nat) (x : Grow W s s') : GensOk g s.gens s'.gens := ⟨x.gsz, fun k hk _ => x.gold k hk, x.bare⟩

/-- what the reading of a generator turns -/
structure MV (W : Addr → Prop) (g : Nat) (s s' : Shared) : Prop where
  heap : ∀ b o, ¬ W b → s.heap.get? b = some o → s'.heap.get? b = some o
  gens : GensOk g s.gens s'.gens
  drawn : s'.drawn = s.drawn
  os : s'.os = s.os
theorem MV.refl (W : Addr → Prop) (g : Nat) (s : Shared) : MV W g s s := ⟨fun _ _ _ e => e, GensOk.refl _ _, rfl, rfl⟩
theorem MV.trans {W : Addr → Prop} {g : Nat} {s s' s'' : Shared} (x : MV W g s s') (y : MV W g s' s'') : MV W g s s'' :=
  ⟨fun b o h e => y.heap b o h (x.heap b o h e), x.gens.trans y.gens, y.drawn.trans x.drawn, y.os.trans x.os⟩

/-- the generator stands at its i-th item -/
def GAt (prog : Program) (w : World) (A : Around) (a : Addr) (g : Nat) (W : Addr → Prop) (n : Nat) (B : Nat → Bool) (J : Nat → Shared → Prop) (Z : Shared → Prop) (i : Nat) (s : Shared) : Prop :=
  s.heap.IsGen a g ∧ s.heap.NoLimit ∧ J i s ∧ ∃ gs, s.gens[g]? = some gs ∧ ∀ s'', J i s'' → gs.Goes (model prog w) A.in1 (RR W Z) (YY W n B J) (n - i) (.send .none) s''

/-- J and Z are matters of the heap -/
structure Heapy (J : Nat → Shared → Prop) (Z : Shared → Prop) : Prop where
  j : ∀ i s s', J i s → (∀ b o, s.heap.get? b = some o → s'.heap.get? b = some o) → J i s'
  z : ∀ s s', Z s → (∀ b o, s.heap.get? b = some o → s'.heap.get? b = some o) → Z s'
  jz : ∀ i s, J i s → Z s

theorem gitem {a : Addr} {g i : Nat} {s : Shared} {Q : Option Value → Shared → Prop} {E : Value → Shared → Prop} (hh : A.handled = none) (hroom : A.depth < recursionLimit) (haW : ¬ W a) (hcW : ¬ W cStatics) (H : Heapy J Z) (hi : i < n)
    (st : GAt prog w A a g W n B J Z i s) (hQ : ∀ s', GAt prog w A a g W n B J Z (i + 1) s' → MV W g s s' → Q (some (.bool (B i))) s') : wpAny (model prog w) A (pyNext (.ref a)) Q E s := by
  obtain ⟨hg, hl, hJi, gs, hgs, hgo⟩ := st
  obtain ⟨m, hm⟩ : ∃ m, n - i = m + 1 := ⟨n - i - 1, by omega⟩
  rw [hm] at hgo
  refine wpAny_pyNext_genexpQ (P := fun n s₀ s₁ => n = 0 ∧ Grow W s₀ s₁ ∧ Z s₁) hh hl hroom hg hgs (hgo _ (H.j _ _ _ hJi fun _ _ e => e)) (fun v s₁ gs' hb hv => ?_) (fun s₁ hp h' hk => ?_)
  · obtain ⟨rfl, hJ₁, g₁, hkap⟩ := hv
    have e1 : n - 1 - (m + 1 - 1) = i := by omega
    have e2 : n - (m + 1 - 1) = i + 1 := by omega
    have e3 : n - (i + 1) = m := by omega
    rw [e2] at hJ₁ hkap
    rw [e1]
    have hgr : (s.setGen g .running).gens[g]? = some .running := setGen_self hgs
    have hgr₁ : s₁.gens[g]? = some .running := (g₁.gold g (by have := (Array.getElem?_eq_some_iff.mp hgr).1; exact this)).trans hgr
    refine hQ _ ⟨let ⟨o, nm, qn, ho, r⟩ := hg; ⟨o, nm, qn, g₁.heap a o haW ho, r⟩, (let ⟨mc, hns, hnn⟩ := hl; ⟨mc, hns.at' fun o e => g₁.heap cStatics o hcW e, hnn⟩), H.j _ _ _ hJ₁ (fun _ _ e => e), gs', setGen_self hgr₁, fun s'' hJ'' => ?_⟩
      ⟨fun b o hb e => g₁.heap b o hb e, ((GensOk.set g s.gens (x := .running) rfl).trans (GensOk.of_grow g g₁)).trans (GensOk.set g s₁.gens hb), g₁.drawn, g₁.os⟩
    rw [e3]
    exact hkap s'' hJ''
  · exact absurd hp.1 (Nat.succ_ne_zero m)
theorem gdone {a : Addr} {g : Nat} {s : Shared} {Q : Option Value → Shared → Prop} {E : Value → Shared → Prop} (hh : A.handled = none) (hroom : A.depth < recursionLimit) (H : Heapy J Z)
    (st : GAt prog w A a g W n B J Z n s) (hQ : ∀ s', Z s' → MV W g s s' → Q none s') : wpAny (model prog w) A (pyNext (.ref a)) Q E s := by
  obtain ⟨hg, hl, hJi, gs, hgs, hgo⟩ := st
  rw [Nat.sub_self] at hgo
  refine wpAny_pyNext_genexpQ (P := fun n s₀ s₁ => n = 0 ∧ Grow W s₀ s₁ ∧ Z s₁) hh hl hroom hg hgs (hgo _ (H.j _ _ _ hJi fun _ _ e => e)) (fun v s₁ gs' hb hv => ?_) (fun s₁ hp h' hk => ?_)
  · obtain ⟨_, hJ₁, _, hkap⟩ := hv
    exact False.elim (hkap s₁ (by first | exact hJ₁ | (simpa using hJ₁)))
  · obtain ⟨_, g₁, z₁⟩ := hp
    exact hQ _ (H.z _ _ z₁ hk) ⟨fun b o hb e => hk b o (g₁.heap b o hb e), ((GensOk.set g s.gens (x := .running) rfl).trans (GensOk.of_grow g g₁)).trans (GensOk.set g s₁.gens rfl), g₁.drawn, g₁.os⟩

theorem any_loop {a : Addr} {g : Nat} {R : Result → Shared → Prop} (hh : A.handled = none) (hroom : A.depth < recursionLimit) (haW : ¬ W a) (hcW : ¬ W cStatics) (H : Heapy J Z) :
    ∀ (k i : Nat) (s : Shared), n = i + k → GAt prog w A.in1 a g W n B J Z i s → (∀ s', Z s' → MV W g s s' → R (.ok (.ret (.bool (((List.range n).drop i).any B)))) s') → codeAny (model prog w) A (.builtin "any.loop" ⟨[.ref a], []⟩) R s := by
  intro k
  induction k with
  | zero =>
    intro i s hk hst hR
    obtain rfl : n = i := by omega
    refine codeAny_builtin PySem.F.entry_any_loop ?_
    rw [Around.under_plainId PySem.F.plain_any_loop _]
    show wpAny _ A.in1 (pyNext (.ref a) >>= _) _ _ s
    refine wpAny_bind (gdone (A := A.in1) hh hroom H hst fun s' hz hm => ?_)
    refine wpAny_bind (wpAny_rule (wpAny_pure ?_))
    have := hR s' hz hm
    rw [List.drop_of_length_le (by simp)] at this
    exact this
  | succ k ih =>
    intro i s hk hst hR
    have hlt : i < n := by omega
    have hd : (List.range n).drop i = i :: (List.range n).drop (i + 1) := by
      rw [List.drop_eq_getElem_cons (by simpa using hlt)]; simp
    refine codeAny_builtin PySem.F.entry_any_loop ?_
    rw [Around.under_plainId PySem.F.plain_any_loop _]
    show wpAny _ A.in1 (pyNext (.ref a) >>= _) _ _ s
    refine wpAny_bind (gitem (A := A.in1) hh hroom haW hcW H hlt hst fun s' hst' hm => ?_)
    refine wpAny_bind (wpAny_holding (wpAny_truthy_bool ?_))
    refine wpAny_bind (wpAny_letGo ?_)
    cases hb : B i with
    | false =>
      simp only [Bool.false_eq_true, if_false]
      refine wpAny_pure ⟨plainId_quiet PySem.F.plain_any_loop _, ih (i + 1) _ (by omega) hst' fun s'' hz hm' => ?_⟩
      have := hR s'' hz (hm.trans hm')
      rw [hd, List.any_cons, hb, Bool.false_or] at this
      exact this
    | true =>
      simp only [if_true]
      refine wpAny_bind (wpAny_rule (wpAny_pure ?_))
      have := hR s' (H.jz _ _ hst'.2.2.1) hm
      rw [hd, List.any_cons, hb, Bool.true_or] at this
      exact this

theorem all_loop {a : Addr} {g : Nat} {R : Result → Shared → Prop} (hh : A.handled = none) (hroom : A.depth < recursionLimit) (haW : ¬ W a) (hcW : ¬ W cStatics) (H : Heapy J Z) :
    ∀ (k i : Nat) (s : Shared), n = i + k → GAt prog w A.in1 a g W n B J Z i s → (∀ s', Z s' → MV W g s s' → R (.ok (.ret (.bool (((List.range n).drop i).all B)))) s') → codeAny (model prog w) A (.builtin "all.loop" ⟨[.ref a], []⟩) R s := by
  intro k
  induction k with
  | zero =>
    intro i s hk hst hR
    obtain rfl : n = i := by omega
    refine codeAny_builtin PySem.F.entry_all_loop ?_
    rw [Around.under_plainId PySem.F.plain_all_loop _]
    show wpAny _ A.in1 (pyNext (.ref a) >>= _) _ _ s
    refine wpAny_bind (gdone (A := A.in1) hh hroom H hst fun s' hz hm => ?_)
    refine wpAny_bind (wpAny_rule (wpAny_pure ?_))
    have := hR s' hz hm
    rw [List.drop_of_length_le (by simp)] at this
    exact this
  | succ k ih =>
    intro i s hk hst hR
    have hlt : i < n := by omega
    have hd : (List.range n).drop i = i :: (List.range n).drop (i + 1) := by
      rw [List.drop_eq_getElem_cons (by simpa using hlt)]; simp
    refine codeAny_builtin PySem.F.entry_all_loop ?_
    rw [Around.under_plainId PySem.F.plain_all_loop _]
    show wpAny _ A.in1 (pyNext (.ref a) >>= _) _ _ s
    refine wpAny_bind (gitem (A := A.in1) hh hroom haW hcW H hlt hst fun s' hst' hm => ?_)
    refine wpAny_bind (wpAny_holding (wpAny_truthy_bool ?_))
    refine wpAny_bind (wpAny_letGo ?_)
    cases hb : B i with
    | true =>
      simp only [if_true]
      refine wpAny_pure ⟨plainId_quiet PySem.F.plain_all_loop _, ih (i + 1) _ (by omega) hst' fun s'' hz hm' => ?_⟩
      have := hR s'' hz (hm.trans hm')
      rw [hd, List.all_cons, hb, Bool.true_and] at this
      exact this
    | false =>
      simp only [Bool.false_eq_true, if_false]
      refine wpAny_bind (wpAny_rule (wpAny_pure ?_))
      have := hR s' (H.jz _ _ hst'.2.2.1) hm
      rw [hd, List.all_cons, hb, Bool.false_and] at this
      exact this
end

/-- what any and all ask of a generator that was just made -/
def Ready (prog : Program) (w : World) (A : Around) (s : Shared) (a : Addr) (g : Nat) (W : Addr → Prop) (n : Nat) (B : Nat → Bool) (Z : Shared → Prop) : Prop :=
  A.handled = none ∧ A.depth < recursionLimit ∧ ¬ W a ∧ ¬ W cStatics ∧ ∃ J, Heapy J Z ∧ GAt prog w A.in1 a g W n B J Z 0 s
section
variable {prog : Program} {w : World} {A : Around} {E : Value → Shared → Prop} {s : Shared}
theorem ready_any {a : Addr} {g : Nat} {W : Addr → Prop} {n : Nat} {B : Nat → Bool} {Z : Shared → Prop} {Q : Value → Shared → Prop} (R : Ready prog w A s a g W n B Z)
    (hQ : ∀ s', Z s' → MV W g s s' → Q (.bool ((List.range n).any B)) s') : wpAny (model prog w) A (call (.builtin "any") [.ref a]) Q E s := by
  obtain ⟨hh, hroom, haW, hcW, J, H, G⟩ := R
  refine call_function_tree PySem.F.kind_any PySem.F.plain_any PySem.F.entry_any (PySem.F.args_any1 _) ?_
  unfold Builtin.«any»
  refine wpAny_bind (m := oneArg "any" _) (wpAny_pure ?_)
  refine wpAny_bind (wpAny_pyIter_gen G.1 ?_)
  exact wpAny_pure ⟨plainId_quiet PySem.F.plain_any_loop _, any_loop (A := A) hh hroom haW hcW H n 0 s (by omega) G fun s' hz hm => by simpa using hQ s' hz hm⟩
theorem ready_all {a : Addr} {g : Nat} {W : Addr → Prop} {n : Nat} {B : Nat → Bool} {Z : Shared → Prop} {Q : Value → Shared → Prop} (R : Ready prog w A s a g W n B Z)
    (hQ : ∀ s', Z s' → MV W g s s' → Q (.bool ((List.range n).all B)) s') : wpAny (model prog w) A (call (.builtin "all") [.ref a]) Q E s := by
  obtain ⟨hh, hroom, haW, hcW, J, H, G⟩ := R
  refine call_function_tree PySem.F.kind_all PySem.F.plain_all PySem.F.entry_all (PySem.F.args_all1 _) ?_
  unfold Builtin.«all»
  refine wpAny_bind (m := oneArg "all" _) (wpAny_pure ?_)
  refine wpAny_bind (wpAny_pyIter_gen G.1 ?_)
  exact wpAny_pure ⟨plainId_quiet PySem.F.plain_all_loop _, all_loop (A := A) hh hroom haW hcW H n 0 s (by omega) G fun s' hz hm => by simpa using hQ s' hz hm⟩
theorem ready {target elt iter : Expr} {scope : Scope} {pos : Pos} {cenv : Env} {I a : Addr} {g : Nat} {W : Addr → Prop} {n : Nat} {B : Nat → Bool} {J : Nat → Shared → Prop} {Z : Shared → Prop} {D U : Nat}
    (hh : A.handled = none) (hroom : A.depth < recursionLimit) (hD : A.depth + 1 ≤ D) (hU : A.units + 6 ≤ U) (T : Turns prog w cenv target elt I W n B J Z D U) (hco : cenv.scope.isCoroutine = false)
    (hg : s.heap.IsGen a g) (hl : s.heap.NoLimit) (hgs : s.gens[g]? = some (.fresh (.compStart (.GeneratorExp elt [⟨target, iter, [], 0⟩] scope pos) 0 (.ref I) .none cenv)))
    (haw : ¬ W a) (hcw : ¬ W cStatics) (hJ0 : J 0 s) (H : Heapy J Z) : Ready prog w A s a g W n B Z :=
  ⟨hh, hroom, haw, hcw, J, H, hg, hl, hJ0, _, hgs, fun s'' hJ'' => ⟨rfl, by rw [Nat.sub_zero]; exact seg_start (A := A.in1.in1) hh hD (Nat.le_trans (by show A.units + 1 + 1 + 3 ≤ A.units + 6; omega) hU) T hco s'' s'' hJ'' (Grow.refl _ _)⟩⟩
end
end Mine
end
section
open PySem PySem.W PySem.Spec PySem.Calls PyProof.Rows
set_option Elab.async false
set_option maxRecDepth 100000
namespace Mine
section
variable {prog : Program} {w : World} {A : Around} {E : Value → Shared → Prop} {s : Shared} {env : Env}

/-- the code of a genexp: found in the table, or made and put there -/
theorem gcode {c P : Addr} {pos : Pos} {qualname : Str} {scope : Scope} {M : Model} {Q : Value → Shared → Prop} (hc : env.code = .ref c) (C : CodeHd s.heap c P) (t : Tab s.heap P)
    (hQ : ∀ code h' tk, Heap.ExtBut P s.heap h' → s.heap.objs.size ≤ h'.objs.size → Tab h' P → Q code { s with heap := h', toks := tk }) :
    wpAny M A (genexprCode env pos qualname scope) Q E s := by
  obtain ⟨ps, hP, ht⟩ := t
  cases hf : codeAmong pos ps.toList with
  | some cv => exact wpAny_genexprCode_hit hc (C.code hP ht) hf (hQ cv s.heap s.toks (Heap.ExtBut.refl _ _) (Nat.le_refl _) ⟨ps, hP, ht⟩)
  | none =>
    refine wpAny_genexprCodeX hc (C.code hP ht) (C.tab hP) hf fun c' h' tk hx hge hlt hcode _ htab _ => hQ _ h' tk hx (Nat.le_of_lt (Nat.lt_of_le_of_lt hge hlt)) ⟨_, htab.2, ?_⟩
    obtain ⟨_, _, _, _, _, _, _, _, _, op, _, _, _, _, _, _, _, _, _, htr, _⟩ := hcode
    exact htr

/-- a generator expression is made -/
theorem gen_make {target elt iter : Expr} {scope : Scope} {cl : List (Str × Addr)} {pos : Pos} {Q : Value → Shared → Prop} {c P : Addr}
    (hco : scope.isCoroutine = false) (hclos : closureFor scope env = pure cl) (hcell : ∀ y ∈ scope.names, y.2 ≠ .cell) (h0 : scope.names.lookup (".0" : Str) = some NameKind.local) (hkind : scope.kind = .function)
    (hroom : A.depth < recursionLimit) (hglob : env.globals = mainGlobals) (hcode : env.code = .ref c) (hs : ∀ x, genFold iter env x = pure x)
    (h : wpAny (model prog w) A (eval iter env) (fun xv s₁ => wpAny (model prog w) A (pyIter xv) (fun it s₂ => ∃ p loose mean mg mb, Top p loose mean mg mb (hideAll s₂.heap [P]) ∧ CodeHd s₂.heap c P ∧ Tab s₂.heap P ∧
      ∀ s₅ C a code, (∀ b o, b ≠ P → s₂.heap.get? b = some o → s₅.heap.get? b = some o) → Tab s₅.heap P → s₂.heap.objs.size ≤ C → C < a → s₅.heap.objs.size = a + 1 →
        s₅.heap.Ns C (fun y => if y = ".0" then some it else none) → s₅.heap.IsGen a s₂.gens.size → s₅.drawn = s₂.drawn → s₅.os = s₂.os →
        s₅.gens = s₂.gens.push (.fresh (.compStart (.GeneratorExp elt [⟨target, iter, [], 0⟩] scope pos) 0 it .none (genEnv scope cl C code builtinsNs env))) → Q (.ref a) s₅) E s₁) E s) :
    wpAny (model prog w) A (eval (.GeneratorExp elt [⟨target, iter, [], 0⟩] scope pos) env) Q E s := by
  refine wpAny_GeneratorExp_make hco hclos hcell h0 hkind hroom (wpAny_mono h (fun xv s₁ h₁ => wpAny_mono h₁ (fun it s₂ h₂ => ?_) fun _ _ e => e) fun _ _ e => e) hs
  obtain ⟨p, loose, mean, mg, mb, T, C, t, hQ⟩ := h₂
  have hst : ∀ b o, (hideAll s₂.heap [P]).get? b = some o → s₂.heap.get? b = some o := fun b o e => of_hideAll _ e
  refine ⟨T.nolimit.keeps hst, gcode hcode C t fun code h₃ tk hx hsz₃ ht => ?_⟩
  have T₃ := T.keeps (h' := h₃) fun b o e => hx b o (fun q => by rw [q, hideAll_none [P] (List.Mem.head _)] at e; cases e) (hst b o e)
  obtain ⟨bm, ob, b1, b2, b3, b4, b5, b6⟩ := T₃.bmain
  refine wpAny_builtinsFor (by rw [hglob]; exact T₃.g) b1 b2 b3 b4 b5 b6 ?_
  intro h' hn' hs'
  have hsz : h'.objs.size = h₃.objs.size + 1 := by rw [hs'.1, Heap.size_push]
  have keep' : ∀ b o, h₃.get? b = some o → h'.get? b = some o := fun b o e => hs'.extBut b o (Nat.ne_of_lt (Heap.lt_size e)) (Heap.get?_push_of_some _ e)
  refine hQ _ h₃.objs.size h'.objs.size code (fun b o hb e => Heap.get?_push_of_some _ (keep' b o (hx b o hb e))) (ht.at fun o e => Heap.get?_push_of_some _ (keep' _ o e)) hsz₃ (by rw [hsz]; exact Nat.lt_succ_self _)
    (by rw [Heap.size_push]) (hn'.push _) ⟨_, _, _, Heap.get?_push_size _ rfl, rfl, rfl, rfl⟩ rfl rfl rfl

end
end Mine
end
section
open PySem
set_option Elab.async false
namespace Mine
inductive Atom where
  | none | bool (b : Bool) | int (i : Int) | str (s : Str)
  deriving DecidableEq
inductive Doc where
  | atom (a : Atom)
  | list (ds : List Doc)
  | dict (kvs : List (Str × Doc))

def look {α : Type} (es : List (Str × α)) (k : Str) : Option α := (es.find? fun kv => kv.1 = k).map (·.2)

mutual
/-- does a contain b (told not at the top) -/
def cont : Doc → Doc → Bool
  | a, .atom c => match a with | .atom x => decide (x = c) | _ => false
  | a, .list ys => match a with | .list xs => contAll xs ys | _ => false
  | a, .dict kvs => match a with | .dict es => contKvs es kvs | _ => false
def contAll : List Doc → List Doc → Bool
  | _, [] => true
  | xs, y :: ys => xs.any (fun x => cont x y) && contAll xs ys
def contKvs : List (Str × Doc) → List (Str × Doc) → Bool
  | _, [] => true
  | es, (k, v) :: r => (match look es k with | some d => cont d v | none => false) && contKvs es r
end
def contTop : Doc → Doc → Bool
  | .list xs, .atom c => xs.any fun x => cont x (.atom c)
  | a, b => cont a b

theorem contAll_iff {xs ys : List Doc} : contAll xs ys = true ↔ ∀ y ∈ ys, ∃ x ∈ xs, cont x y = true := by
  induction ys with
  | nil => simp [contAll]
  | cons y ys ih => simp [contAll, ih]
theorem contKvs_iff {es kvs : List (Str × Doc)} : contKvs es kvs = true ↔ ∀ p ∈ kvs, ∃ d, look es p.1 = some d ∧ cont d p.2 = true := by
  induction kvs with
  | nil => simp [contKvs]
  | cons p r ih =>
    obtain ⟨k, v⟩ := p
    rw [contKvs, Bool.and_eq_true, ih]
    simp only [List.mem_cons, forall_eq_or_imp]
    refine and_congr ?_ Iff.rfl
    cases h : look es k <;> simp

mutual
/-- how deep: an atom is 0 -/
def dep : Doc → Nat
  | .atom _ => 0
  | .list ds => depL ds + 1
  | .dict kvs => depK kvs + 1
def depL : List Doc → Nat
  | [] => 0
  | d :: r => max (dep d) (depL r)
def depK : List (Str × Doc) → Nat
  | [] => 0
  | (_, d) :: r => max (dep d) (depK r)
end
theorem dep_mem {d : Doc} {ds : List Doc} (h : d ∈ ds) : dep d ≤ depL ds := by
  induction ds with
  | nil => cases h
  | cons x r ih =>
    rw [depL]
    rcases List.mem_cons.mp h with rfl | h
    · exact Nat.le_max_left _ _
    · exact Nat.le_trans (ih h) (Nat.le_max_right _ _)
theorem dep_memK {p : Str × Doc} {kvs : List (Str × Doc)} (h : p ∈ kvs) : dep p.2 ≤ depK kvs := by
  induction kvs with
  | nil => cases h
  | cons x r ih =>
    obtain ⟨k, v⟩ := x
    rw [depK]
    rcases List.mem_cons.mp h with rfl | h
    · exact Nat.le_max_left _ _
    · exact Nat.le_trans (ih h) (Nat.le_max_right _ _)
theorem depL_le {ds : List Doc} {n : Nat} (h : ∀ d ∈ ds, dep d ≤ n) : depL ds ≤ n := by
  induction ds with
  | nil => exact Nat.zero_le _
  | cons x r ih => rw [depL]; exact Nat.max_le.mpr ⟨h x (.head _), ih fun d hd => h d (.tail _ hd)⟩
theorem depK_le {kvs : List (Str × Doc)} {n : Nat} (h : ∀ p ∈ kvs, dep p.2 ≤ n) : depK kvs ≤ n := by
  induction kvs with
  | nil => exact Nat.zero_le _
  | cons x r ih => obtain ⟨k, v⟩ := x; rw [depK]; exact Nat.max_le.mpr ⟨h (k, v) (.head _), ih fun d hd => h d (.tail _ hd)⟩

/-- the plain items, the keys that documents have -/
def plains : List Atom := [.int 0, .int 1, .int 2, .str (Str.ofString "u"), .str (Str.ofString "v"), .none, .bool false]
def keyz : List Str := [Str.ofString "p", Str.ofString "q", Str.ofString "r"]
mutual
/-- a document as the law builds them: three items and keys at most -/
def clean : Doc → Prop
  | .atom a => a ∈ plains
  | .list ds => ds.length ≤ 3 ∧ cleanL ds
  | .dict kvs => (kvs.map (·.1)).Nodup ∧ cleanK kvs
def cleanL : List Doc → Prop
  | [] => True
  | d :: r => clean d ∧ cleanL r
def cleanK : List (Str × Doc) → Prop
  | [] => True
  | (k, d) :: r => (k ∈ keyz ∧ clean d) ∧ cleanK r
end
theorem cleanL_iff {ds : List Doc} : cleanL ds ↔ ∀ d ∈ ds, clean d := by
  induction ds with
  | nil => simp [cleanL]
  | cons d r ih => simp [cleanL, ih]
theorem cleanK_iff {kvs : List (Str × Doc)} : cleanK kvs ↔ ∀ p ∈ kvs, p.1 ∈ keyz ∧ clean p.2 := by
  induction kvs with
  | nil => simp [cleanK]
  | cons p r ih => obtain ⟨k, d⟩ := p; simp [cleanK, ih]

theorem look_mem {α : Type} {es : List (Str × α)} {k : Str} {d : α} (h : look es k = some d) : (k, d) ∈ es := by
  unfold look at h
  obtain ⟨p, hp, rfl⟩ := Option.map_eq_some_iff.mp h
  have h1 := List.mem_of_find?_eq_some hp
  have h2 := List.find?_some hp
  obtain ⟨a, b⟩ := p
  simp at h2
  subst h2
  exact h1
theorem look_of_mem {α : Type} {es : List (Str × α)} {k : Str} {d : α} (hn : (es.map (·.1)).Nodup) (h : (k, d) ∈ es) : look es k = some d := by
  induction es with
  | nil => cases h
  | cons p r ih =>
    obtain ⟨k', d'⟩ := p
    rw [List.map_cons, List.nodup_cons] at hn
    unfold look
    rw [List.find?_cons]
    rcases List.mem_cons.mp h with e | h
    · cases e; simp
    · have hne : k' ≠ k := fun q => hn.1 (q ▸ List.mem_map_of_mem (f := (·.1)) h)
      simp only [hne, decide_false]
      exact ih hn.2 h
theorem look_none {α : Type} {es : List (Str × α)} {k : Str} (h : k ∉ es.map (·.1)) : look es k = none := by
  cases q : look es k with
  | none => rfl
  | some d => exact absurd (List.mem_map_of_mem (f := (·.1)) (look_mem q)) h

theorem len_le_of (K : List Str) : ∀ l : List Str, l.Nodup → (∀ k ∈ l, k ∈ K) → l.length ≤ K.length := by
  induction K with
  | nil => intro l _ h; cases l with
    | nil => exact Nat.le_refl _
    | cons a r => exact absurd (h a (.head _)) List.not_mem_nil
  | cons a K ih =>
    intro l hn h
    have h1 := ih (l.erase a) (hn.erase a) fun k hk => by
      have := (hn.mem_erase_iff).mp hk
      rcases List.mem_cons.mp (h k this.2) with q | q
      · exact absurd q this.1
      · exact q
    have h2 : l.length ≤ (l.erase a).length + 1 := by
      rw [List.length_erase]; split <;> omega
    exact Nat.le_trans h2 (Nat.succ_le_succ h1)
theorem key_three (l : List Str) (hn : l.Nodup) (hk : ∀ k ∈ l, k ∈ keyz) : l.length ≤ 3 := len_le_of keyz l hn hk
theorem clean_len {kvs : List (Str × Doc)} (h : clean (.dict kvs)) : kvs.length ≤ 3 := by
  rw [clean, cleanK_iff] at h
  have := key_three (kvs.map (·.1)) h.1 fun k hk => by
    obtain ⟨p, hp, rfl⟩ := List.mem_map.mp hk
    exact (h.2 p hp).1
  simpa using this

/-- every document contains itself -/
theorem cont_refl : ∀ n d, dep d ≤ n → clean d → cont d d = true := by
  intro n
  induction n with
  | zero =>
    intro d hd h
    cases d with
    | atom a => simp [cont]
    | list ds => simp [dep] at hd
    | dict kvs => simp [dep] at hd
  | succ n ih =>
    intro d hd h
    cases d with
    | atom a => simp [cont]
    | list ds =>
      rw [clean, cleanL_iff] at h
      rw [cont, contAll_iff]
      rw [dep] at hd
      exact fun y hy => ⟨y, hy, ih y (Nat.le_of_succ_le_succ (Nat.le_trans (Nat.succ_le_succ (dep_mem hy)) hd)) (h.2 y hy)⟩
    | dict kvs =>
      rw [clean, cleanK_iff] at h
      rw [cont, contKvs_iff]
      rw [dep] at hd
      exact fun p hp => ⟨p.2, look_of_mem h.1 hp, ih p.2 (Nat.le_of_succ_le_succ (Nat.le_trans (Nat.succ_le_succ (dep_memK hp)) hd)) (h.2 p hp).2⟩

theorem cont_trans : ∀ n c, dep c ≤ n → ∀ a b, cont a b = true → cont b c = true → cont a c = true := by
  intro n
  induction n with
  | zero =>
    intro c hc a b h1 h2
    cases c with
    | atom z =>
      cases b with
      | atom y =>
        rw [cont] at h2; obtain rfl : y = z := by simpa using h2
        exact h1
      | _ => simp [cont] at h2
    | list ds => simp [dep] at hc
    | dict kvs => simp [dep] at hc
  | succ n ih =>
    intro c hc a b h1 h2
    cases c with
    | atom z =>
      cases b with
      | atom y =>
        rw [cont] at h2; obtain rfl : y = z := by simpa using h2
        exact h1
      | _ => simp [cont] at h2
    | list zs =>
      cases b with
      | list ys =>
        cases a with
        | list xs =>
          rw [cont, contAll_iff] at h1 h2 ⊢
          rw [dep] at hc
          intro z hz
          obtain ⟨y, hy, h3⟩ := h2 z hz
          obtain ⟨x, hx, h4⟩ := h1 y hy
          exact ⟨x, hx, ih z (Nat.le_of_succ_le_succ (Nat.le_trans (Nat.succ_le_succ (dep_mem hz)) hc)) x y h4 h3⟩
        | _ => simp [cont] at h1
      | _ => simp [cont] at h2
    | dict zs =>
      cases b with
      | dict ys =>
        cases a with
        | dict xs =>
          rw [cont, contKvs_iff] at h1 h2 ⊢
          rw [dep] at hc
          intro z hz
          obtain ⟨y, hy, h3⟩ := h2 z hz
          obtain ⟨x, hx, h4⟩ := h1 _ (look_mem hy)
          exact ⟨x, hx, ih z.2 (Nat.le_of_succ_le_succ (Nat.le_trans (Nat.succ_le_succ (dep_memK hz)) hc)) x y h4 h3⟩
        | _ => simp [cont] at h1
      | _ => simp [cont] at h2

/-- no clean document contains it -/
def bad (f : Doc) : Prop := ∀ a, clean a → cont a f = false
theorem bad_atom {c : Atom} (h : c ∉ plains) : bad (.atom c) := fun a ha => by
  cases a with
  | atom x =>
    rw [clean] at ha
    rw [cont]
    exact decide_eq_false fun q => h (q ▸ ha)
  | _ => simp [cont]
theorem bad_list {ys : List Doc} {f : Doc} (hf : f ∈ ys) (h : bad f) : bad (.list ys) := fun a ha => by
  cases a with
  | list xs =>
    rw [clean, cleanL_iff] at ha
    rw [cont]
    cases q : contAll xs ys with
    | false => rfl
    | true =>
      obtain ⟨x, hx, h2⟩ := contAll_iff.mp q f hf
      rw [h x (ha.2 x hx)] at h2; cases h2
  | _ => simp [cont]
theorem bad_dict {kvs : List (Str × Doc)} {k : Str} {f : Doc} (hf : (k, f) ∈ kvs) (h : k ∉ keyz ∨ bad f) : bad (.dict kvs) := fun a ha => by
  cases a with
  | dict es =>
    rw [clean, cleanK_iff] at ha
    rw [cont]
    cases q : contKvs es kvs with
    | false => rfl
    | true =>
      obtain ⟨d, hd, h2⟩ := contKvs_iff.mp q _ hf
      have hm := ha.2 _ (look_mem hd)
      rcases h with h | h
      · exact absurd hm.1 h
      · rw [h d hm.2] at h2; cases h2
  | _ => simp [cont]
/-- the foreign things of the law -/
def foreigns : List Doc := [.atom (.int 7), .atom (.str (Str.ofString "w")), .atom (.bool true), .dict [(Str.ofString "p", .atom (.int 7))], .list [.atom (.bool true)]]
theorem bad_foreign : ∀ f ∈ foreigns, bad f := by
  have h7 : bad (.atom (.int 7)) := bad_atom (by decide +kernel)
  have ht : bad (.atom (.bool true)) := bad_atom (by decide +kernel)
  intro f hf
  simp only [foreigns, List.mem_cons, List.not_mem_nil, or_false] at hf
  rcases hf with rfl | rfl | rfl | rfl | rfl
  · exact h7
  · exact bad_atom (by decide +kernel)
  · exact ht
  · exact bad_dict (List.Mem.head _) (.inr h7)
  · exact bad_list (List.Mem.head _) ht
end Mine
end
section
open PySem PySem.W PySem.Spec PySem.Calls PyProof.Rows
set_option Elab.async false
set_option maxRecDepth 100000
namespace Mine
variable {prog : Program} {w : World}
abbrev lobj (vs : List Value) (n : Nat) : Obj := { cls := .type "list", data := .seq vs.toArray n }
/-- a dict's object, its keys strs -/
def dobj (prog : Program) (w : World) (o : Obj) (kvs : List (Str × Value)) : Prop :=
  o.ExactDict ∧ ∃ es ep, o.data = .dict es ep ∧ KeysOf (strKind prog w) es ∧ Pairs (strKind prog w) es.toList kvs ∧ (kvs.map (·.1)).Nodup

mutual
inductive DocIn (prog : Program) (w : World) (P : Addr → Obj → Prop) : Value → Doc → Prop
  | none : DocIn prog w P .none (.atom .none)
  | bool (b : Bool) : DocIn prog w P (.bool b) (.atom (.bool b))
  | int (i : Int) (t : Tok) : DocIn prog w P (.int i t) (.atom (.int i))
  | str (x : Str) (t : Tok) : DocIn prog w P (.str x t) (.atom (.str x))
  | list {a : Addr} {n : Nat} {vs : List Value} {ds : List Doc} : P a (lobj vs n) → DocsIn prog w P vs ds → DocIn prog w P (.ref a) (.list ds)
  | dict {a : Addr} {o : Obj} {kvs : List (Str × Value)} {es : List (Str × Doc)} : P a o → (a == sysModules) = false → dobj prog w o kvs → KvsIn prog w P kvs es → DocIn prog w P (.ref a) (.dict es)
inductive DocsIn (prog : Program) (w : World) (P : Addr → Obj → Prop) : List Value → List Doc → Prop
  | nil : DocsIn prog w P [] []
  | cons {v : Value} {d : Doc} {vs : List Value} {ds : List Doc} : DocIn prog w P v d → DocsIn prog w P vs ds → DocsIn prog w P (v :: vs) (d :: ds)
inductive KvsIn (prog : Program) (w : World) (P : Addr → Obj → Prop) : List (Str × Value) → List (Str × Doc) → Prop
  | nil : KvsIn prog w P [] []
  | cons {k : Str} {v : Value} {d : Doc} {vs : List (Str × Value)} {ds : List (Str × Doc)} : DocIn prog w P v d → KvsIn prog w P vs ds → KvsIn prog w P ((k, v) :: vs) ((k, d) :: ds)
end

theorem DocIn.mono {P P' : Addr → Obj → Prop} (k : ∀ a o, P a o → (o.cls = .type "list" ∨ o.cls = .type "dict") → P' a o) {v : Value} {d : Doc} (h : DocIn prog w P v d) : DocIn prog w P' v d :=
  DocIn.rec (motive_1 := fun v d _ => DocIn prog w P' v d) (motive_2 := fun v d _ => DocsIn prog w P' v d) (motive_3 := fun v d _ => KvsIn prog w P' v d)
    .none .bool .int .str (fun hp _ r => .list (k _ _ hp (.inl rfl)) r) (fun hp hs hd _ r => .dict (k _ _ hp (.inr hd.1.1)) hs hd r) .nil (fun _ _ a b => .cons a b) .nil (fun _ _ a b => .cons a b) h
theorem DocsIn.mono {P P' : Addr → Obj → Prop} (k : ∀ a o, P a o → (o.cls = .type "list" ∨ o.cls = .type "dict") → P' a o) : ∀ {vs : List Value} {ds : List Doc}, DocsIn prog w P vs ds → DocsIn prog w P' vs ds
  | _, _, .nil => .nil
  | _, _, .cons a b => .cons (a.mono k) (DocsIn.mono k b)
theorem KvsIn.mono {P P' : Addr → Obj → Prop} (k : ∀ a o, P a o → (o.cls = .type "list" ∨ o.cls = .type "dict") → P' a o) : ∀ {vs : List (Str × Value)} {ds : List (Str × Doc)}, KvsIn prog w P vs ds → KvsIn prog w P' vs ds
  | _, _, .nil => .nil
  | _, _, .cons a b => .cons (a.mono k) (KvsIn.mono k b)

theorem DocsIn.length {P : Addr → Obj → Prop} : ∀ {vs : List Value} {ds : List Doc}, DocsIn prog w P vs ds → vs.length = ds.length
  | _, _, .nil => rfl
  | _, _, .cons _ b => congrArg (· + 1) b.length
theorem DocsIn.get {P : Addr → Obj → Prop} : ∀ {vs : List Value} {ds : List Doc}, DocsIn prog w P vs ds → ∀ {i : Nat} {v : Value} {d : Doc}, vs[i]? = some v → ds[i]? = some d → DocIn prog w P v d
  | _, _, .cons a b, 0, v, d, h1, h2 => by cases h1; cases h2; exact a
  | _, _, .cons a b, i + 1, v, d, h1, h2 => b.get (by simpa using h1) (by simpa using h2)
theorem DocsIn.append {P : Addr → Obj → Prop} : ∀ {vs : List Value} {ds : List Doc} {us : List Value} {es : List Doc}, DocsIn prog w P vs ds → DocsIn prog w P us es → DocsIn prog w P (vs ++ us) (ds ++ es)
  | _, _, _, _, .nil, h => h
  | _, _, _, _, .cons a b, h => .cons a (b.append h)
theorem DocsIn.take {P : Addr → Obj → Prop} : ∀ (n : Nat) {vs : List Value} {ds : List Doc}, DocsIn prog w P vs ds → DocsIn prog w P (vs.take n) (ds.take n)
  | 0, _, _, _ => by simp only [List.take_zero]; exact .nil
  | _ + 1, _, _, .nil => .nil
  | n + 1, _, _, .cons a b => .cons a (b.take n)
theorem DocsIn.drop {P : Addr → Obj → Prop} : ∀ (n : Nat) {vs : List Value} {ds : List Doc}, DocsIn prog w P vs ds → DocsIn prog w P (vs.drop n) (ds.drop n)
  | 0, _, _, h => h
  | _ + 1, _, _, .nil => .nil
  | n + 1, _, _, .cons _ b => b.drop n
theorem KvsIn.length {P : Addr → Obj → Prop} : ∀ {vs : List (Str × Value)} {ds : List (Str × Doc)}, KvsIn prog w P vs ds → vs.length = ds.length
  | _, _, .nil => rfl
  | _, _, .cons _ b => congrArg (· + 1) b.length
theorem KvsIn.keys {P : Addr → Obj → Prop} : ∀ {vs : List (Str × Value)} {ds : List (Str × Doc)}, KvsIn prog w P vs ds → vs.map (·.1) = ds.map (·.1)
  | _, _, .nil => rfl
  | _, _, .cons (k := k) _ b => congrArg (k :: ·) b.keys
theorem KvsIn.get {P : Addr → Obj → Prop} : ∀ {vs : List (Str × Value)} {ds : List (Str × Doc)}, KvsIn prog w P vs ds → ∀ {i : Nat} {p : Str × Value}, vs[i]? = some p → ∃ d, ds[i]? = some (p.1, d) ∧ DocIn prog w P p.2 d
  | _, _, .cons a b, 0, p, h => by cases h; exact ⟨_, rfl, a⟩
  | _, _, .cons a b, i + 1, p, h => by
    obtain ⟨d, h1, h2⟩ := b.get (i := i) (by simpa using h)
    exact ⟨d, by simpa using h1, h2⟩
theorem look_valueAt (kvs : List (Str × Value)) (k : Str) : valueAt kvs k = look kvs k := rfl
theorem KvsIn.look {P : Addr → Obj → Prop} {k : Str} : ∀ {vs : List (Str × Value)} {ds : List (Str × Doc)}, KvsIn prog w P vs ds →
    (match look vs k, look ds k with | some v, some d => DocIn prog w P v d | .none, .none => True | _, _ => False)
  | _, _, .nil => trivial
  | _, _, .cons (k := k') (v := v) (d := d) (vs := vs) (ds := ds) a b => by
    have ih := b.look (k := k)
    unfold Mine.look at ih ⊢
    rw [List.find?_cons, List.find?_cons]
    by_cases q : k' = k
    · simp [q]; exact a
    · simp only [q, decide_false]; exact ih
theorem KvsIn.append {P : Addr → Obj → Prop} : ∀ {vs us : List (Str × Value)} {ds es : List (Str × Doc)}, KvsIn prog w P vs ds → KvsIn prog w P us es → KvsIn prog w P (vs ++ us) (ds ++ es)
  | _, _, _, _, .nil, h => h
  | _, _, _, _, .cons a b, h => .cons a (b.append h)

abbrev DocAt (prog : Program) (w : World) (h : Heap) : Value → Doc → Prop := DocIn prog w (fun a o => h.get? a = some o)
section
variable {h h' : Heap} {v : Value} {d : Doc}
theorem lobj_list {a n : Nat} {vs : List Value} (e : h.get? a = some (lobj vs n)) : h.IsList a vs.toArray := ⟨_, e, rfl, n, rfl⟩
theorem dobj_of {a : Addr} {o : Obj} {kvs : List (Str × Value)} (e : h.get? a = some o) (x : dobj prog w o kvs) : h.DictOf (strKind prog w) a kvs :=
  let ⟨h1, es, ep, r⟩ := x; ⟨o, es, ep, e, h1, r⟩
theorem dobj_at {a : Addr} {o : Obj} {kvs : List (Str × Value)} (e : h.get? a = some o) (x : dobj prog w o kvs) : ∃ ep, h.DictAt (strKind prog w) a kvs ep := (dobj_of e x).dictAt
theorem dobj_back {a : Addr} {kvs : List (Str × Value)} (x : h.DictOf (strKind prog w) a kvs) : ∃ o, h.get? a = some o ∧ dobj prog w o kvs :=
  let ⟨o, es, ep, e, h1, r⟩ := x; ⟨o, e, h1, es, ep, r⟩
theorem DocIn.keeps (x : DocAt prog w h v d) (k : ∀ b o, h.get? b = some o → h'.get? b = some o) : DocAt prog w h' v d := x.mono fun a o e _ => k a o e
/-- a document's objects are no tables -/
theorem DocIn.keepsBut (x : DocAt prog w h v d) (t1 : Tab h 23) (t2 : Tab h 31) (k : ∀ b o, b ≠ 23 → b ≠ 31 → h.get? b = some o → h'.get? b = some o) : DocAt prog w h' v d :=
  x.mono fun a o e hc => k a o (fun q => by obtain ⟨ps, e', _⟩ := t1; rw [q, e'] at e; cases e; rcases hc with hc | hc <;> cases hc)
    (fun q => by obtain ⟨ps, e', _⟩ := t2; rw [q, e'] at e; cases e; rcases hc with hc | hc <;> cases hc) e
end
end Mine
end
section
open PySem PySem.W PySem.Spec PySem.Calls PyProof.Rows
set_option Elab.async false
set_option maxRecDepth 100000
namespace Mine
abbrev T2 (b : Addr) : Prop := b = 23 ∨ b = 31
abbrev TC (C b : Addr) : Prop := b = 23 ∨ b = 31 ∨ b = C
/-- the heap behind a generator's making, but for what it turns -/
def InvH (h₅ : Heap) (N I C : Addr) (h : Heap) : Prop := (∀ b o, b ∉ [23, 31, I, C] → b < N → h₅.get? b = some o → h.get? b = some o) ∧ Tab h 23 ∧ Tab h 31
theorem InvH.grow {h₅ : Heap} {N I C : Addr} {s s' : Shared} (x : InvH h₅ N I C s.heap) (g : Grow (TC C) s s') (t1 : Tab s'.heap 23) (t2 : Tab s'.heap 31) : InvH h₅ N I C s'.heap :=
  ⟨fun b o hb hN e => g.heap b o (fun q => hb (by rcases q with rfl | rfl | rfl <;> simp)) (x.1 b o hb hN e), t1, t2⟩
theorem InvH.step {h₅ : Heap} {N I C : Addr} {h h' : Heap} (x : InvH h₅ N I C h) (hI1 : I ≠ 23) (hI2 : I ≠ 31) (hC1 : C ≠ 23) (hC2 : C ≠ 31) (k : ∀ b o, b ≠ I → b ≠ C → h.get? b = some o → h'.get? b = some o) : InvH h₅ N I C h' :=
  ⟨fun b o hb hN e => k b o (fun q => hb (by simp [q])) (fun q => hb (by simp [q])) (x.1 b o hb hN e), x.2.1.at fun o => k _ o (Ne.symm hI1) (Ne.symm hC1), x.2.2.at fun o => k _ o (Ne.symm hI2) (Ne.symm hC2)⟩
theorem InvH.keeps {h₅ : Heap} {N I C : Addr} {h h' : Heap} (x : InvH h₅ N I C h) (k : ∀ b o, h.get? b = some o → h'.get? b = some o) : InvH h₅ N I C h' :=
  ⟨fun b o hb hN e => k b o (x.1 b o hb hN e), x.2.1.at fun o => k _ o, x.2.2.at fun o => k _ o⟩

section
variable {prog : Program} {w : World} {cenv : Env} {elt : Expr} {I C N ax : Addr} {B : Nat → Bool} {D U : Nat} {h₅ : Heap}

abbrev JList (h₅ : Heap) (N I C ax : Addr) (i : Nat) (s : Shared) : Prop := s.heap.IsListIter I ax i ∧ (∃ m, s.heap.Ns C m) ∧ InvH h₅ N I C s.heap

theorem turns_list {items : Array Value} {x : Str} {px : Pos} (hC : cenv.locals = C) (hIC : I ≠ C) (hI1 : I ≠ 23) (hI2 : I ≠ 31) (hC1 : C ≠ 23) (hC2 : C ≠ 31)
    (hax : h₅.IsList ax items) (hn : ax ∉ [23, 31, I, C]) (hN : ax < N)
    (hx : cenv.kindOf x = some .local) (hp : (cenv.scope.kind == .class || (cenv.scope.kind == .module && cenv.locals != cenv.globals)) = false)
    (helt : ∀ (A' : Around) (E' : Value → Shared → Prop) (i : Nat) (v : Value) (s₂ : Shared) (m₂ : Str → Option Value), A'.handled = none → A'.depth ≤ D → A'.units ≤ U → items[i]? = some v → s₂.heap.Ns C m₂ → m₂ x = some v → InvH h₅ N I C s₂.heap →
      wpAny (model prog w) A' (eval elt cenv) (fun y s₃ => y = .bool (B i) ∧ Grow (TC C) s₂ s₃ ∧ (∃ m, s₃.heap.Ns C m) ∧ Tab s₃.heap 23 ∧ Tab s₃.heap 31) E' s₂) :
    Turns prog w cenv (.Name x px) elt I (· ∈ [23, 31, I, C]) items.size B (JList h₅ N I C ax) (fun s => Tab s.heap 23 ∧ Tab s.heap 31) D U := by
  have hne : ax ≠ I := fun q => hn (by simp [q])
  have hlist : ∀ h, InvH h₅ N I C h → h.IsList ax items := fun h v => let ⟨o, e, r⟩ := hax; ⟨o, v.1 _ _ hn hN e, r⟩
  refine ⟨fun A' E' i s hh hd hu hi hJ => ?_, fun A' E' s hh hd hu hJ => ?_, fun A' E' Q s hJ hQ => wpAny_pyIter_listiter hJ.1 hQ⟩
  · obtain ⟨hit, ⟨m, hm⟩, hv⟩ := hJ
    refine (Walks.list (prog := prog) (w := w) hh I ax hne items).item i s _ _ hi ⟨hit, hlist _ hv⟩ fun v h₁ tk₁ hPv hst₁ hk₁ => ⟨v, rfl, ?_⟩
    have k₁ : ∀ b o, b ≠ I → s.heap.get? b = some o → h₁.get? b = some o := fun b o hb e => hk₁ b o (by simpa using hb) e
    refine wpAny_of_eq (rfl : letOwnedTupleGo (.Name x px) (.ref I) v = pure ()) ?_
    refine wpAny_assign_Name (wpAny_storeName_local hx ((hC ▸ hm).at' fun o e => k₁ _ o (by rw [hC]; exact Ne.symm hIC) e) (fun h₂ hn₂ hs₂ => ?_) hp)
    rw [hC] at hn₂ hs₂
    have v₂ : InvH h₅ N I C h₂ := hv.step hI1 hI2 hC1 hC2 fun b o hbI hbC e => hs₂.extBut b o hbC (k₁ b o hbI e)
    refine wpAny_mono (helt A' E' i v _ _ hh hd hu hPv hn₂ (by simp) v₂) (fun y s₃ h₃ => ?_) fun _ _ e => e
    obtain ⟨rfl, g₃, hN₃, t1, t2⟩ := h₃
    refine ⟨rfl, ⟨?_, hN₃, InvH.grow (s := { s with heap := h₂, toks := tk₁ + 1 }) v₂ g₃ t1 t2⟩, ?_⟩
    · exact (hst₁.1.at fun o e => g₃.heap I o (fun q => q.elim hI1 fun q => q.elim hI2 hIC) (hs₂.extBut I o hIC e))
    · exact (Grow.of_heap (W := (· ∈ [23, 31, I, C])) (s := s) (h' := h₂) (tk := tk₁ + 1) fun b o hb e => hs₂.extBut b o (fun q => hb (by simp [q])) (k₁ b o (fun q => hb (by simp [q])) e)).trans
        (g₃.mono fun b q => by rcases q with rfl | rfl | rfl <;> simp)
  · obtain ⟨hit, ⟨m, hm⟩, hv⟩ := hJ
    exact (Walks.list (prog := prog) (w := w) hh I ax hne items).done s _ _ ⟨hit, hlist _ hv⟩ fun h' tk hk => ⟨rfl, Grow.of_heap fun b o hb e => hk b o (fun q => hb (by simp at q; simp [q])) e, hv.2.1.at fun o e => hk _ o (by simpa using Ne.symm hI1) e, hv.2.2.at fun o e => hk _ o (by simpa using Ne.symm hI2) e⟩

theorem jlist_heapy : Heapy (JList h₅ N I C ax) (fun s => Tab s.heap 23 ∧ Tab s.heap 31) :=
  ⟨fun _ _ _ ⟨a, ⟨m, b⟩, c⟩ k => ⟨a.at fun o e => k I o e, ⟨m, b.keeps k⟩, c.keeps k⟩, fun _ _ z k => ⟨z.1.at fun o => k _ o, z.2.at fun o => k _ o⟩, fun _ _ x => x.2.2.2⟩

abbrev JItems (h₅ : Heap) (N I C d n ep : Addr) (i : Nat) (s : Shared) : Prop := (∃ ok ov, IsItemIter s.heap I d i n ep ok ov) ∧ (∃ m, s.heap.Ns C m) ∧ InvH h₅ N I C s.heap

theorem turns_items {d ep : Addr} {kvs : List (Str × Value)} {xa xb : Str} {pa pb pt : Pos} {kt : Nat} (hC : cenv.locals = C) (hIC : I ≠ C) (hI1 : I ≠ 23) (hI2 : I ≠ 31) (hC1 : C ≠ 23) (hC2 : C ≠ 31)
    (hax : h₅.DictAt (strKind prog w) d kvs ep) (hn : d ∉ [23, 31, I, C]) (hN : d < N) (hab : xa ≠ xb)
    (hxa : cenv.kindOf xa = some .local) (hxb : cenv.kindOf xb = some .local) (hp : (cenv.scope.kind == .class || (cenv.scope.kind == .module && cenv.locals != cenv.globals)) = false)
    (helt : ∀ (A' : Around) (E' : Value → Shared → Prop) (i : Nat) (k : Str) (t : Tok) (v : Value) (s₂ : Shared) (m₂ : Str → Option Value), A'.handled = none → A'.depth ≤ D → A'.units ≤ U → kvs[i]? = some (k, v) → s₂.heap.Ns C m₂ →
      m₂ xa = some (.str k t) → m₂ xb = some v → InvH h₅ N I C s₂.heap →
      wpAny (model prog w) A' (eval elt cenv) (fun y s₃ => y = .bool (B i) ∧ Grow (TC C) s₂ s₃ ∧ (∃ m, s₃.heap.Ns C m) ∧ Tab s₃.heap 23 ∧ Tab s₃.heap 31) E' s₂) :
    Turns prog w cenv (.Tuple [.Name xa pa, .Name xb pb] kt pt) elt I (· ∈ [23, 31, I, C]) kvs.length B (JItems h₅ N I C d kvs.length ep) (fun s => Tab s.heap 23 ∧ Tab s.heap 31) D U := by
  have hne : d ≠ I := fun q => hn (by simp [q])
  have hdict : ∀ h, InvH h₅ N I C h → h.DictAt (strKind prog w) d kvs ep := fun h v => let ⟨o, es, e, r⟩ := hax; ⟨o, es, v.1 _ _ hn hN e, r⟩
  refine ⟨fun A' E' i s hh hd hu hi hJ => ?_, fun A' E' s hh hd hu hJ => ?_, fun A' E' Q s hJ hQ => ?_⟩
  · obtain ⟨⟨ok, ov, hit⟩, ⟨m, hm⟩, hv⟩ := hJ
    obtain ⟨⟨k, v⟩, hkv⟩ : ∃ p, kvs[i]? = some p := ⟨kvs[i], by simp [hi]⟩
    refine wpAny_pyNext_items_item hit (hdict _ hv) hkv fun key h₁ hkey hout htup hsz hk₁ => ⟨_, rfl, ?_⟩
    refine wpAny_letOwnedTupleGo_items hout fun h₁' hit' hs' => ?_
    have hTI : s.heap.objs.size ≠ I := Nat.ne_of_gt (Heap.lt_size hit)
    have hTC : s.heap.objs.size ≠ C := Nat.ne_of_gt hm.lt
    have k₁ : ∀ b o, b ≠ I → s.heap.get? b = some o → h₁'.get? b = some o := fun b o hb e => hs'.extBut b o hb (hk₁ b o hb e)
    have hT : h₁'.IsTuple s.heap.objs.size #[key, v] := ⟨_, hs'.extBut _ _ hTI htup, rfl, _, rfl⟩
    obtain ⟨t, rfl⟩ : ∃ t, key = .str k t := Value.isStrOf_shape hkey
    refine wpAny_assign_Tuple hh hT rfl rfl fun h₁'' hx₁ => ?_
    replace hx₁ : Heap.ExtBut h₁'.objs.size h₁' h₁'' := hx₁
    have old₁ : ∀ b o, h₁'.get? b = some o → h₁''.get? b = some o := fun b o e => hx₁ b o (Nat.ne_of_lt (Heap.lt_size e)) e
    show wpAny _ _ (do holding [v] (assign (.Name xa pa) cenv (.str k t)); do holding [] (assign (.Name xb pb) cenv v); pure ()) _ _ _
    refine wpAny_bind (wpAny_holding (wpAny_assign_Name (wpAny_storeName_local hxa ((hC ▸ hm).at' fun o e => old₁ _ o (k₁ _ o (by rw [hC]; exact Ne.symm hIC) e)) (fun h₂a hn₂a hs₂a => ?_) hp)))
    replace hs₂a : Heap.SameBut cenv.locals h₁'' h₂a := hs₂a
    refine wpAny_bind (wpAny_holding (wpAny_assign_Name (wpAny_storeName_local hxb hn₂a (fun h₂ hn₂ hs₂ => wpAny_pure ?_) hp)))
    replace hs₂ : Heap.SameBut cenv.locals h₂a h₂ := hs₂
    rw [hC] at hn₂ hs₂ hs₂a
    have k₂ : ∀ b o, b ≠ I → b ≠ C → s.heap.get? b = some o → h₂.get? b = some o := fun b o hbI hbC e => hs₂.extBut b o hbC (hs₂a.extBut b o hbC (old₁ b o (k₁ b o hbI e)))
    have v₂ : InvH h₅ N I C h₂ := hv.step hI1 hI2 hC1 hC2 k₂
    refine wpAny_mono (helt A' E' i k t v _ _ hh hd hu hkv hn₂ (by simp [hab]) (by simp) v₂) (fun y s₃ h₃ => ?_) fun _ _ e => e
    obtain ⟨rfl, g₃, hN₃, t1, t2⟩ := h₃
    have hitI : h₂.get? I = _ := hs₂.extBut I _ hIC (hs₂a.extBut I _ hIC (old₁ I _ hit'))
    refine ⟨rfl, ⟨⟨_, _, g₃.heap I _ (fun q => q.elim hI1 fun q => q.elim hI2 hIC) hitI⟩, hN₃, InvH.grow (s := { s with heap := h₂, toks := _ }) v₂ g₃ t1 t2⟩, ?_⟩
    exact (Grow.of_heap (W := (· ∈ [23, 31, I, C])) (s := s) (h' := h₂) fun b o hb e => k₂ b o (fun q => hb (by simp [q])) (fun q => hb (by simp [q])) e).trans
        (g₃.mono fun b q => by rcases q with rfl | rfl | rfl <;> simp)
  · obtain ⟨⟨ok, ov, hit⟩, ⟨m, hm⟩, hv⟩ := hJ
    exact wpAny_pyNext_items_end hh hit (hdict _ hv) (by simp) fun h' he => ⟨rfl, Grow.of_heap (tk := s.toks) fun b o hb e => he b o (fun q => hb (by simp [q])) e, hv.2.1.at fun o e => he _ o (Ne.symm hI1) e, hv.2.2.at fun o e => he _ o (Ne.symm hI2) e⟩
  · obtain ⟨⟨ok, ov, hit⟩, _⟩ := hJ
    exact kcp_self hit hQ
theorem jitems_heapy {d n ep : Addr} : Heapy (JItems h₅ N I C d n ep) (fun s => Tab s.heap 23 ∧ Tab s.heap 31) :=
  ⟨fun _ _ _ ⟨⟨ok, ov, a⟩, ⟨m, b⟩, c⟩ k => ⟨⟨ok, ov, k I _ a⟩, ⟨m, b.keeps k⟩, c.keeps k⟩, fun _ _ z k => ⟨z.1.at fun o => k _ o, z.2.at fun o => k _ o⟩, fun _ _ x => x.2.2.2⟩
end
end Mine
end
section
open PySem PySem.W PySem.Spec PySem.Calls PyProof.Rows
set_option Elab.async false
set_option maxRecDepth 100000
namespace Mine
theorem ltA {a b : Nat} (h : a < b) : @LT.lt Addr _ a b := h
theorem leA {a b : Nat} (h : a ≤ b) : @LE.le Addr _ a b := h
theorem neA {a b : Nat} (h : a ≠ b) : @Ne Addr a b := h
abbrev ZT (s : Shared) : Prop := Tab s.heap 23 ∧ Tab s.heap 31
/-- what stands behind the making of a generator -/
structure Since (s s₅ : Shared) (I C : Addr) (g : Nat) : Prop where
  heap : ∀ b o, b ≠ 23 → b ≠ 31 → s.heap.get? b = some o → s₅.heap.get? b = some o
  fI : s.heap.get? I = none
  fC : s.heap.get? C = none
  geq : g = s.gens.size
  gens : ∃ gs, s₅.gens = s.gens.push gs ∧ gs.bare = true
  drawn : s₅.drawn = s.drawn
  os : s₅.os = s.os
  z : ZT s₅
theorem Since.grow {s s₅ s' : Shared} {I C : Addr} {g : Nat} (x : Since s s₅ I C g) (m : MV (· ∈ [23, 31, I, C]) g s₅ s') : Grow T2 s s' := by
  obtain ⟨gs, eg, hb⟩ := x.gens
  refine ⟨fun b o hb e => m.heap b o (fun q => ?_) (x.heap b o (fun q => hb (.inl q)) (fun q => hb (.inr q)) e), ?_, fun k hk => ?_, fun h => m.gens.2.2 ?_, m.drawn.trans x.drawn, m.os.trans x.os⟩
  · simp only [List.mem_cons, List.not_mem_nil, or_false] at q
    rcases q with q | q | q | q
    · exact hb (.inl q)
    · exact hb (.inr q)
    · rw [q, x.fI] at e; cases e
    · rw [q, x.fC] at e; cases e
  · have := m.gens.1; rw [eg, Array.size_push] at this; omega
  · rw [m.gens.2.1 k (by rw [eg, Array.size_push]; omega) (by rw [x.geq]; omega), eg, Array.getElem?_push_lt hk, Array.getElem?_eq_getElem hk]
  · intro y hy
    rw [eg] at hy
    rcases Array.mem_push.mp hy with hy | rfl
    · exact h y hy
    · exact hb

section
variable {prog : Program} {w : World} {A : Around} {E : Value → Shared → Prop} {s : Shared} {env : Env} {mean : ExcName → Option Value} {mg mb : Str → Option Value} {hB : Heap}

theorem gen_list {elt iter : Expr} {x : Str} {px : Pos} {scope : Scope} {cl : List (Str × Addr)} {pos : Pos} {Q : Value → Shared → Prop} {c P la : Addr} {items : Array Value} {B : Nat → Bool}
    (hh : A.handled = none) (hroom : A.depth < recursionLimit) (W : Wld w mean mg mb hB s.heap) (hP : P = 23 ∨ P = 31) (hcode : env.code = .ref c) (hCH : CodeHd hB c P) (hglob : env.globals = mainGlobals)
    (hco : scope.isCoroutine = false) (hclos : closureFor scope env = pure cl) (hcell : ∀ y ∈ scope.names, y.2 ≠ .cell) (h0 : scope.names.lookup (".0" : Str) = some NameKind.local) (hkind : scope.kind = .function)
    (hx : scope.names.lookup x = some .local) (hs : ∀ x, genFold iter env x = pure x)
    (hl : s.heap.IsList la items) (hla : la ≠ 23 ∧ la ≠ 31) (hev : ∀ Q' : Value → Shared → Prop, Q' (.ref la) s → wpAny (model prog w) A (eval iter env) Q' E s)
    (helt : ∀ (A' : Around) (E' : Value → Shared → Prop) (i : Nat) (v : Value) (s₂ : Shared) (m₂ : Str → Option Value) (C : Addr) (code : Value), A'.handled = none → A'.depth ≤ A.depth + 1 → A'.units ≤ A.units + 6 → items[i]? = some v →
      s.heap.objs.size ≤ C → s₂.heap.Ns C m₂ → m₂ x = some v → (∀ b o, b ≠ 23 → b ≠ 31 → s.heap.get? b = some o → s₂.heap.get? b = some o) → ZT s₂ →
      wpAny (model prog w) A' (eval elt (genEnv scope cl C code builtinsNs env)) (fun y s₃ => y = .bool (B i) ∧ Grow (TC C) s₂ s₃ ∧ (∃ m, s₃.heap.Ns C m) ∧ ZT s₃) E' s₂)
    (hQ : ∀ s₅ a g I C, Ready prog w A s₅ a g (· ∈ [23, 31, I, C]) items.size B ZT → Since s s₅ I C g → Q (.ref a) s₅) :
    wpAny (model prog w) A (eval (.GeneratorExp elt [⟨.Name x px, iter, [], 0⟩] scope pos) env) Q E s := by
  have hPn : hB.get? P = none := by rcases hP with rfl | rfl; exact W.B.n1; exact W.B.n2
  refine gen_make (c := c) (P := P) hco hclos hcell h0 hkind hroom hglob hcode hs (hev _ (wpAny_pyIter_list hl ?_))
  have kp : ∀ b o, s.heap.get? b = some o → (s.heap.push { cls := .type "list_iterator", data := .fields #[.ref la, .int 0 0] }).get? b = some o := fun b o e => Heap.get?_push_of_some _ e
  refine ⟨topProg, LO, mean, mg, mb, W.B.T.keeps (stays_hide (fun b o e => kp b o (W.st b o e)) fun a ha => by rw [List.mem_singleton.mp ha]; exact hPn),
    hCH.keeps fun b o e => kp b o (W.st b o e), ?_, fun s₅ C a code hk ht hsC hCa hsz hns hgen hdr hos hgens => ?_⟩
  · rcases hP with rfl | rfl
    · exact W.t1.at fun o => kp _ o
    · exact W.t2.at fun o => kp _ o
  · dsimp only at hk hsC hdr hos hgens hgen
    rw [Heap.size_push] at hsC
    have lt : ∀ (b : Nat) o, s.heap.get? b = some o → @LT.lt Nat _ b s.heap.objs.size := fun b o e => Heap.lt_size e
    replace hCa : @LT.lt Nat _ C a := hCa
    replace hsC : @LE.le Nat _ (s.heap.objs.size + 1) C := hsC
    replace hsz : @Eq Nat s₅.heap.objs.size (a + 1) := hsz
    have l26 : @LT.lt Nat _ 23 s.heap.objs.size := let ⟨_, e, _⟩ := W.t1; lt _ _ e
    have l34 : @LT.lt Nat _ 31 s.heap.objs.size := let ⟨_, e, _⟩ := W.t2; lt _ _ e
    have hkp : ∀ b o, b ≠ P → s.heap.get? b = some o → s₅.heap.get? b = some o := fun b o hb e => hk b o hb (kp b o e)
    have z5 : ZT s₅ := by
      rcases hP with rfl | rfl
      · exact ⟨ht, W.t2.at fun o => hkp _ o (by decide)⟩
      · exact ⟨W.t1.at fun o => hkp _ o (by decide), ht⟩
    have hold : ∀ b o, b ≠ 23 → b ≠ 31 → s.heap.get? b = some o → s₅.heap.get? b = some o := fun b o h1 h2 e => hkp b o (by rcases hP with rfl | rfl; exact h1; exact h2) e
    have hit : s₅.heap.IsListIter s.heap.objs.size la 0 := ⟨_, hk _ _ (by rcases hP with rfl | rfl; exact Nat.ne_of_gt l26; exact Nat.ne_of_gt l34) (Heap.get?_push_size _ rfl), rfl, rfl⟩
    have hl5 : s₅.heap.IsList la items := let ⟨o, e, r⟩ := hl; ⟨o, hold _ _ hla.1 hla.2 e, r⟩
    have hlaS : @LT.lt Nat _ la s.heap.objs.size := let ⟨o, e, _⟩ := hl; lt _ _ e
    have up : ∀ {h : Heap}, InvH s₅.heap a s.heap.objs.size C h → ∀ b o, b ≠ 23 → b ≠ 31 → s.heap.get? b = some o → h.get? b = some o := fun v b o h1 h2 e => v.1 b o (by
      have := lt b o e
      simp only [List.mem_cons, List.not_mem_nil, or_false, not_or]
      exact ⟨h1, h2, Nat.ne_of_lt this, neA (by omega)⟩) (by have := lt b o e; exact ltA (by omega)) (hold b o h1 h2 e)
    have hns5 := hns
    refine hQ s₅ a s.gens.size s.heap.objs.size C (ready (A := A) (target := .Name x px) (elt := elt) (iter := iter) (scope := scope) (pos := pos) (J := JList s₅.heap a s.heap.objs.size C la) (cenv := genEnv scope cl C code builtinsNs env) (I := s.heap.objs.size) (D := A.depth + 1) (U := A.units + 6)
      hh hroom (Nat.le_refl _) (Nat.le_refl _)
      (turns_list rfl (neA (by omega)) (neA (by omega)) (neA (by omega)) (neA (by omega)) (neA (by omega)) hl5 (by simp only [List.mem_cons, List.not_mem_nil, or_false, not_or]; exact ⟨hla.1, hla.2, neA (by omega), neA (by omega)⟩) (ltA (by omega)) hx (by simp [genEnv, hkind])
        fun A' E' i v s₂ m₂ h1 h2 h3 h4 h5 h6 h7 => helt A' E' i v s₂ m₂ C code h1 h2 h3 h4 (Nat.le_of_lt hsC) h5 h6 (up h7) h7.2)
      hco hgen (W.B.T.nolimit.keeps fun b o e => hk b o (fun q => by rw [q, hPn] at e; cases e) (kp b o (W.st b o e))) ?_ (by simp only [List.mem_cons, List.not_mem_nil, or_false, not_or]; exact ⟨neA (by omega), neA (by omega), neA (by omega), neA (by omega)⟩) ?_ ⟨hit, ⟨_, hns⟩, fun b o _ _ e => e, z5⟩ jlist_heapy)
      ⟨hold, Heap.get?_none_of_le (Nat.le_refl _), Heap.get?_none_of_le (Nat.le_of_lt hsC), rfl, ⟨_, hgens, rfl⟩, hdr, hos, z5⟩
    · rw [hgens]; exact Array.getElem?_push_size ..
    · simp only [List.mem_cons, List.not_mem_nil, or_false, not_or]
      have : @LT.lt Nat _ cStatics s.heap.objs.size := let ⟨_, hn, _⟩ := W.T.nolimit; hn.lt
      exact ⟨by decide, by decide, Nat.ne_of_lt this, neA (by omega)⟩
theorem gen_items {elt iter : Expr} {xa xb : Str} {pa pb pt : Pos} {kt : Nat} {scope : Scope} {cl : List (Str × Addr)} {pos : Pos} {Q : Value → Shared → Prop} {c P la : Addr} {kvs : List (Str × Value)} {B : Nat → Bool}
    (hh : A.handled = none) (hroom : A.depth < recursionLimit) (W : Wld w mean mg mb hB s.heap) (hP : P = 23 ∨ P = 31) (hcode : env.code = .ref c) (hCH : CodeHd hB c P) (hglob : env.globals = mainGlobals)
    (hco : scope.isCoroutine = false) (hclos : closureFor scope env = pure cl) (hcell : ∀ y ∈ scope.names, y.2 ≠ .cell) (h0 : scope.names.lookup (".0" : Str) = some NameKind.local) (hkind : scope.kind = .function)
    (hxa : scope.names.lookup xa = some .local) (hxb : scope.names.lookup xb = some .local) (hab : xa ≠ xb) (hs : ∀ x, genFold iter env x = pure x)
    (hl : s.heap.DictOf (strKind prog w) la kvs) (hla : la ≠ 23 ∧ la ≠ 31) (hev : ∀ Q' : Value → Shared → Prop, Q' (.ref s.heap.objs.size) { s with heap := s.heap.push { cls := .type "dict_items", data := .fields #[.ref la] } } → wpAny (model prog w) A (eval iter env) Q' E s)
    (helt : ∀ (A' : Around) (E' : Value → Shared → Prop) (i : Nat) (k : Str) (t : Tok) (v : Value) (s₂ : Shared) (m₂ : Str → Option Value) (C : Addr) (code : Value), A'.handled = none → A'.depth ≤ A.depth + 1 → A'.units ≤ A.units + 6 → kvs[i]? = some (k, v) →
      s.heap.objs.size ≤ C → s₂.heap.Ns C m₂ → m₂ xa = some (.str k t) → m₂ xb = some v → (∀ b o, b ≠ 23 → b ≠ 31 → s.heap.get? b = some o → s₂.heap.get? b = some o) → ZT s₂ →
      wpAny (model prog w) A' (eval elt (genEnv scope cl C code builtinsNs env)) (fun y s₃ => y = .bool (B i) ∧ Grow (TC C) s₂ s₃ ∧ (∃ m, s₃.heap.Ns C m) ∧ ZT s₃) E' s₂)
    (hQ : ∀ s₅ a g I C, Ready prog w A s₅ a g (· ∈ [23, 31, I, C]) kvs.length B ZT → Since s s₅ I C g → Q (.ref a) s₅) :
    wpAny (model prog w) A (eval (.GeneratorExp elt [⟨.Tuple [.Name xa pa, .Name xb pb] kt pt, iter, [], 0⟩] scope pos) env) Q E s := by
  have hPn : hB.get? P = none := by rcases hP with rfl | rfl; exact W.B.n1; exact W.B.n2
  obtain ⟨ep, hd0⟩ := hl.dictAt
  refine gen_make (c := c) (P := P) hco hclos hcell h0 hkind hroom hglob hcode hs (hev _ (wpAny_pyIter_items (knd := strKind prog w) (kvs := kvs) (ep := ep) ⟨_, Heap.get?_push_size _ rfl, rfl, rfl⟩ (hd0.push _) ?_))
  generalize hV : ({ cls := .type "dict_items", data := .fields #[.ref la] } : Obj) = oV
  have hVs : (s.heap.push oV).objs.size = s.heap.objs.size + 1 := Heap.size_push ..
  have kp : ∀ b o, s.heap.get? b = some o → ((s.heap.push oV).push { cls := .type "dict_itemiterator", data := .fields #[.none, .bool false, .ref la, .int 0 0, .int kvs.length 0, .int ep 0, .none, .none] }).get? b = some o := fun b o e => Heap.get?_push_of_some _ (Heap.get?_push_of_some _ e)
  refine ⟨topProg, LO, mean, mg, mb, W.B.T.keeps (stays_hide (fun b o e => kp b o (W.st b o e)) fun a ha => by rw [List.mem_singleton.mp ha]; exact hPn),
    hCH.keeps fun b o e => kp b o (W.st b o e), ?_, fun s₅ C a code hk ht hsC hCa hsz hns hgen hdr hos hgens => ?_⟩
  · rcases hP with rfl | rfl
    · exact W.t1.at fun o => kp _ o
    · exact W.t2.at fun o => kp _ o
  · dsimp only at hk hsC hdr hos hgens hgen
    rw [Heap.size_push, hVs] at hsC
    have lt : ∀ (b : Nat) o, s.heap.get? b = some o → @LT.lt Nat _ b s.heap.objs.size := fun b o e => Heap.lt_size e
    replace hCa : @LT.lt Nat _ C a := hCa
    replace hsC : @LE.le Nat _ (s.heap.objs.size + 1 + 1) C := hsC
    replace hsz : @Eq Nat s₅.heap.objs.size (a + 1) := hsz
    have l26 : @LT.lt Nat _ 23 s.heap.objs.size := let ⟨_, e, _⟩ := W.t1; lt _ _ e
    have l34 : @LT.lt Nat _ 31 s.heap.objs.size := let ⟨_, e, _⟩ := W.t2; lt _ _ e
    have hkp : ∀ b o, b ≠ P → s.heap.get? b = some o → s₅.heap.get? b = some o := fun b o hb e => hk b o hb (kp b o e)
    have z5 : ZT s₅ := by
      rcases hP with rfl | rfl
      · exact ⟨ht, W.t2.at fun o => hkp _ o (by decide)⟩
      · exact ⟨W.t1.at fun o => hkp _ o (by decide), ht⟩
    have hold : ∀ b o, b ≠ 23 → b ≠ 31 → s.heap.get? b = some o → s₅.heap.get? b = some o := fun b o h1 h2 e => hkp b o (by rcases hP with rfl | rfl; exact h1; exact h2) e
    have hit : IsItemIter s₅.heap (s.heap.objs.size + 1) la 0 kvs.length ep .none .none := hVs ▸ hk _ _ (by rw [hVs]; rcases hP with rfl | rfl <;> exact neA (by omega)) (Heap.get?_push_size _ rfl)
    have hl5 : s₅.heap.DictAt (strKind prog w) la kvs ep := let ⟨o, es, e, r⟩ := hd0; ⟨o, es, hold _ _ hla.1 hla.2 e, r⟩
    have hlaS : @LT.lt Nat _ la s.heap.objs.size := let ⟨o, _, e, _⟩ := hd0; lt _ _ e
    have up : ∀ {h : Heap}, InvH s₅.heap a (s.heap.objs.size + 1) C h → ∀ b o, b ≠ 23 → b ≠ 31 → s.heap.get? b = some o → h.get? b = some o := fun v b o h1 h2 e => v.1 b o (by
      have := lt b o e
      simp only [List.mem_cons, List.not_mem_nil, or_false, not_or]
      exact ⟨h1, h2, neA (by omega), neA (by omega)⟩) (by have := lt b o e; exact ltA (by omega)) (hold b o h1 h2 e)
    have hns5 := hns
    refine hQ s₅ a s.gens.size (s.heap.objs.size + 1) C (ready (A := A) (target := .Tuple [.Name xa pa, .Name xb pb] kt pt) (elt := elt) (iter := iter) (scope := scope) (pos := pos) (J := JItems s₅.heap a (s.heap.objs.size + 1) C la kvs.length ep) (cenv := genEnv scope cl C code builtinsNs env) (I := s.heap.objs.size + 1) (D := A.depth + 1) (U := A.units + 6)
      hh hroom (Nat.le_refl _) (Nat.le_refl _)
      (turns_items rfl (neA (by omega)) (neA (by omega)) (neA (by omega)) (neA (by omega)) (neA (by omega)) hl5 (by simp only [List.mem_cons, List.not_mem_nil, or_false, not_or]; exact ⟨hla.1, hla.2, neA (by omega), neA (by omega)⟩) (ltA (by omega)) hab hxa hxb (by simp [genEnv, hkind])
        fun A' E' i k t v s₂ m₂ h1 h2 h3 h4 h5 h6 h6' h7 => helt A' E' i k t v s₂ m₂ C code h1 h2 h3 h4 (leA (by omega)) h5 h6 h6' (up h7) h7.2)
      hco hgen (W.B.T.nolimit.keeps fun b o e => hk b o (fun q => by rw [q, hPn] at e; cases e) (kp b o (W.st b o e))) ?_ (by simp only [List.mem_cons, List.not_mem_nil, or_false, not_or]; exact ⟨neA (by omega), neA (by omega), neA (by omega), neA (by omega)⟩) ?_ ⟨⟨_, _, hit⟩, ⟨_, hns⟩, fun b o _ _ e => e, z5⟩ jitems_heapy)
      ⟨hold, Heap.get?_none_of_le (Nat.le_succ _), Heap.get?_none_of_le (leA (by omega)), rfl, ⟨_, hgens, rfl⟩, hdr, hos, z5⟩
    · rw [hgens, hVs]; exact Array.getElem?_push_size ..
    · simp only [List.mem_cons, List.not_mem_nil, or_false, not_or]
      have : @LT.lt Nat _ cStatics s.heap.objs.size := let ⟨_, hn, _⟩ := W.T.nolimit; hn.lt
      exact ⟨by decide, by decide, neA (by omega), neA (by omega)⟩
end
end Mine
end
section
open PySem PySem.W PySem.Spec PySem.Calls PyProof.Rows
set_option Elab.async false
set_option maxRecDepth 100000
set_option maxHeartbeats 4000000
namespace Mine
local macro_rules | `(tactic| tb_start) => `(tactic| (
  refine' enter (K := hd.heap_39 _) ?st ?sz ?X ?lim ?k6 ?k7 ?k8 ?k9 ?kB ?_ ?c2 ?c3 ?c4 ?c5
  (case X => k_asm)
  (case k6 => k_is)
  (case k7 => k_is)
  (case k9 => first | exact BindsTo.of_eq rfl | exact binds_K (by k_asm) rfl (by k_is) rfl rfl rfl)
  (case kB => exact locs rfl)
  (case c2 => exact rfl)
  (case c3 => exact rfl)
  (case c4 => exact rfl)
  (case c5 => decide)))

local macro_rules | `(tactic| walk_at "compareOp Is") => `(tactic| (k_here; (with_reducible show wpAny _ _ (compareOp CmpOp.Is (Value.bool _) (Value.int _ _)) _ _ _); refine wpAny_is_other (by rfl) (by intro x; cases x) ?_))
local macro_rules | `(tactic| walk_at "compareOp Is") => `(tactic| (k_here; (with_reducible show wpAny _ _ (compareOp CmpOp.Is (Value.bool _) (Value.str _ _)) _ _ _); refine wpAny_is_other (by rfl) (by intro x; cases x) ?_))
variable {w : World} {mean : ExcName → Option Value} {mg mb : Str → Option Value} {hB : Heap}
theorem scalar_spec {A : Around} {s : Shared} {Q E : Value → Shared → Prop} (W : Wld w mean mg mb hB s.heap) {va vb : Value} {x y : Atom} {P P' : Addr → Obj → Prop}
   (hx : DocIn Challenge.rw_ez0233_01.row.prog w P va (.atom x)) (hy : DocIn Challenge.rw_ez0233_01.row.prog w P' vb (.atom y)) (hdep : A.depth + 2 < recursionLimit)
   (hQ : ∀ h' tk, (∀ b o, s.heap.get? b = some o → h'.get? b = some o) → Q (.bool (decide (x = y))) {s with heap := h', toks := tk}) :
  wpAny (model Challenge.rw_ez0233_01.row.prog w) A (call (.ref 21) [va, vb]) Q E s := by
  have X := W.X
  have T := W.T
  revert X; k_fill; intro X
  have fin : ∀ {h₁ : Heap} {L' : Addr} {m : Str → Option Value} {tk : Nat} {b : Bool}, Fr s.heap L' h₁ m → b = decide (x = y) → Q (.bool b) {s with heap := h₁, toks := tk} := fun F e => e ▸ hQ _ _ F.keep
  clear hQ
  cases hx <;> cases hy
  all_goals (
    k_dflt tb_start
    (case st => exact fun _ _ e => e)
    (case sz => exact Nat.le_refl _)
    (case lim => exact T.nolimit)
    (case k8 => omega)
    intro L' h₁ tk hL F hk
    have N : News s.heap L' h₁ [] := News.nil
    try dsimp only
    try k_fold
    k_steps)
  all_goals (refine fin (by k_asm) ?_)
  all_goals first
    | exact (decide_eq_true rfl).symm
    | exact (decide_eq_false (fun q => by cases q)).symm
    | (simp only [Atom.bool.injEq, Atom.int.injEq, Atom.str.injEq]; first | rfl | (rw [← Bool.beq_eq_decide_eq]; done) | exact (beq_eq_decide _ _) | exact Bool.eq_iff_iff.mpr (by simp))
end Mine
end
section
open PySem PySem.W PySem.Spec PySem.Calls PyProof.Rows
set_option Elab.async false
set_option maxRecDepth 100000
set_option maxHeartbeats 4000000
namespace Mine
theorem kit_keep {a : Addr} {T : String} {g h : Heap} (k : KitAt a T g) (st : ∀ b o, g.get? b = some o → h.get? b = some o) : KitAt a T h := let ⟨o, e, r⟩ := k; ⟨o, st _ _ e, r⟩
section
variable {M : Model} {A : Around} {E : Value → Shared → Prop} {s : Shared} {K : Frag} {h₀ : Heap} {L C : Addr} {m mg mb : Str → Option Value} {p : Program} {loose : List Str}
  {x : Str} {pos : Pos} {v : Value} {Q : Value → Shared → Prop} {news : List (Addr × Obj)} {c : Addr} {o : Obj} {sc : Scope} {cl : List (Str × Addr)} {code : Value} {env : Env}
theorem nameE_L (F : Fr h₀ C s.heap m) (hv : m x = some v) (h : Q v s) (hk : sc.kind = .function) (hl : (genEnv sc cl C code builtinsNs env).kindOf x = some .local) (hd : (x == ("__debug__" : Str)) = false) :
    wpAny M A (eval (.Name x pos) (genEnv sc cl C code builtinsNs env)) Q E s := wpAny_Name (wpAny_loadName_local hk hl F.ns hv h) hd
theorem nameE_F (N : News h₀ C s.heap news) (hc : cl.lookup x = some c) (hm : (c, o) ∈ news) (hd : o.data = .cell (some v)) (h : Q v s)
    (hk : sc.kind = .function) (hx : (genEnv sc cl C code builtinsNs env).kindOf x = some .free) (hb : (x == ("__debug__" : Str)) = false) (hn : (x == ("__classdict__" : Str)) = false) :
    wpAny M A (eval (.Name x pos) (genEnv sc cl C code builtinsNs env)) Q E s := wpAny_Name (wpAny_loadName_free hk hx hc ⟨o, N.get hm, hd⟩ h hn) hb
theorem nameE_K (F : Fr h₀ C s.heap m) (X : K.In h₀) (T : TopRead p loose mg mb h₀) (e : nsIn K mainGlobals x = some (some v)) (h : Q v s)
    (hg : env.globals = mainGlobals) (hk : sc.kind = .function) (hx : (genEnv sc cl C code builtinsNs env).kindOf x = some .globalImplicit) (hd : (x == ("__debug__" : Str)) = false) :
    wpAny M A (eval (.Name x pos) (genEnv sc cl C code builtinsNs env)) Q E s :=
  Name_function_global hk hx (loadGlobal_global (env := genEnv sc cl C code builtinsNs env) (by show s.heap.Ns env.globals mg; rw [hg]; exact T.g.keeps F.keep) (mg_of X T.g e) h) hd
theorem nameE_B (F : Fr h₀ C s.heap m) (X : K.In h₀) (T : TopRead p loose mg mb h₀) (e : nsIn K mainGlobals x = some none) (hv : bootBuiltins x = some v) (hn : x ≠ "__name__") (h : Q v s)
    (hg : env.globals = mainGlobals) (hk : sc.kind = .function) (hx : (genEnv sc cl C code builtinsNs env).kindOf x = some .globalImplicit) (hd : (x == ("__debug__" : Str)) = false) :
    wpAny M A (eval (.Name x pos) (genEnv sc cl C code builtinsNs env)) Q E s :=
  Name_function_global hk hx (loadGlobal_builtin (env := genEnv sc cl C code builtinsNs env) (by show s.heap.Ns env.globals mg; rw [hg]; exact T.g.keeps F.keep) (mg_none_of X T.g e) (by show s.heap.Ns builtinsNs mb; exact T.b.keeps F.keep) ((T.builtins x hn).trans hv) h) hd
end
section
variable {prog : Program} {w w' : World} {P : Addr → Obj → Prop} {A : Around} {E : Value → Shared → Prop} {s : Shared} {v : Value} {x : Atom} {Q : Value → Shared → Prop}
theorem kit_atom (hv : DocIn prog w' P v (.atom x)) : ∃ T, (T = "int" ∨ T = "str" ∨ T = "bool" ∨ T = "NoneType") ∧ KitX (hd.heap_39 w.params) v (.type T) (fun _ => True) ∧ v ≠ .builtin "__main__.__loader__#opaque" := by
  cases hv
  · exact ⟨_, .inr (.inr (.inr rfl)), kitx_none, by intro q; cases q⟩
  · exact ⟨_, .inr (.inr (.inl rfl)), kitx_bool, by intro q; cases q⟩
  · exact ⟨_, .inl rfl, kitx_int, by intro q; cases q⟩
  · exact ⟨_, .inr (.inl rfl), kitx_str, by intro q; cases q⟩
set_option maxHeartbeats 1000000 in
/-- an atom is neither a dict nor a list -/
theorem isi_atom_tup {tp : Addr} {n : Nat} (hv : DocIn prog w' P v (.atom x)) (X : (hd.heap_39 w.params).In s.heap) (htp : s.heap.get? tp = some ⟨.type "tuple", none, .seq [Value.type "dict", Value.type "list"].toArray n, #[]⟩)
    (h : ∀ tk, Q (.bool false) { s with toks := tk }) : wpAny (model Challenge.rw_ez0233_01.row.prog w) A (call (.builtin "isinstance") [v, .ref tp]) Q E s := by
  revert X; k_fill; intro X
  obtain ⟨T, hT, Z, hb⟩ := kit_atom (w := w) hv
  rcases hT with rfl | rfl | rfl | rfl
  all_goals exact kia_tup Z X trivial htp (by kit_is) hb h
set_option maxHeartbeats 1000000 in
theorem isi_atom_one {c : String} (hc : c = "dict" ∨ c = "list") (hv : DocIn prog w' P v (.atom x)) (X : (hd.heap_39 w.params).In s.heap)
    (h : ∀ tk, Q (.bool false) { s with toks := tk }) : wpAny (model Challenge.rw_ez0233_01.row.prog w) A (call (.builtin "isinstance") [v, .type c]) Q E s := by
  revert X; k_fill; intro X
  obtain ⟨T, hT, Z, hb⟩ := kit_atom (w := w) hv
  rcases hc with rfl | rfl <;> rcases hT with rfl | rfl | rfl | rfl
  all_goals exact kia_one Z X trivial (by kit_is) hb h
end
end Mine
end
section
open PySem PySem.W PySem.Spec PySem.Calls PyProof.Rows
set_option Elab.async false
set_option maxRecDepth 100000
set_option maxHeartbeats 4000000
namespace Mine
local macro_rules | `(tactic| tb_rel) => `(tactic| (
  refine' enterC (K := hd.heap_39 _) ?st ?sz ?X ?lim ?k6 ?k7 ?k8 ?k9 ?kB ?kD ?_ ?c2 ?c3 ?c4
  (case X => k_asm)
  (case k6 => k_is)
  (case k7 => k_is)
  (case k9 => first | exact BindsTo.of_eq rfl | exact binds_K (by k_asm) rfl (by k_is) rfl rfl rfl)
  (case kB => exact rfl)
  (case kD => decide +kernel)
  (case c2 => exact rfl)
  (case c3 => exact rfl)
  (case c4 => exact rfl)))
local macro_rules | `(tactic| walk_at "call builtin:isinstance") => `(tactic| (k_here; (with_reducible show wpAny _ _ (call _ [Value.ref _, _]) _ _ _); k_dflt (first
  | (refine' kia_tup kitx_list ?X ?c ?p ?ee ?nb ?_; (case c => exact kit_keep (by assumption) (Fr.keep (by k_asm))); (case X => k_in); (case p => kit_tp); (case ee => kit_is); (case nb => kit_nb); k_whole; intro _)
  | (refine' kia_tup kitx_dict ?X ?c ?p ?ee ?nb ?_; (case c => exact kit_keep (by assumption) (Fr.keep (by k_asm))); (case X => k_in); (case p => kit_tp); (case ee => kit_is); (case nb => kit_nb); k_whole; intro _)
  | (refine' kia_one kitx_list ?X ?c ?ee ?nb ?_; (case c => exact kit_keep (by assumption) (Fr.keep (by k_asm))); (case X => k_in); (case ee => kit_is); (case nb => kit_nb); k_whole; intro _)
  | (refine' kia_one kitx_dict ?X ?c ?ee ?nb ?_; (case c => exact kit_keep (by assumption) (Fr.keep (by k_asm))); (case X => k_in); (case ee => kit_is); (case nb => kit_nb); k_whole; intro _))))
local macro_rules | `(tactic| walk_at "call builtin:isinstance") => `(tactic| (k_here; (with_reducible show wpAny _ _ (call _ [_, _]) _ _ _); k_dflt (first
  | (refine' isi_atom_tup ?hv ?X ?p ?_; (case hv => assumption); (case X => k_in); (case p => kit_tp); k_whole; intro _)
  | (refine' isi_atom_one ?c ?hv ?X ?_; (case c => first | exact Or.inl rfl | exact Or.inr rfl); (case hv => assumption); (case X => k_in); k_whole; intro _))))
local macro_rules | `(tactic| walk_at "call builtin:any") => `(tactic| (k_here; fail "here"))
local macro_rules | `(tactic| walk_at "call builtin:all") => `(tactic| (k_here; fail "here"))
local macro_rules | `(tactic| walk_at "call ref") => `(tactic| (k_here; fail "here"))
local macro_rules | `(tactic| walk_at "eval GeneratorExp") => `(tactic| (k_here; fail "here"))
local macro_rules | `(tactic| walk_at "eval Name") => `(tactic| (k_here; (with_reducible show wpAny _ _ (eval (Expr.Name _ _) (genEnv _ _ _ _ _ _)) _ _ _); k_dflt (first
  | (refine' nameE_L ?F ?v ?_ ?k ?l ?d; (case F => k_asm); (case k => rfl); (case l => rfl); (case d => rfl); (case v => first | assumption | rfl); k_whole)
  | (refine' nameE_F ?N ?c ?m ?d ?_ ?k ?x ?b ?n; (case k => rfl); (case x => rfl); (case b => rfl); (case n => rfl); (case N => k_asm); (case c => rfl); (case m => k_mem); (case d => k_asm); k_whole)
  | (refine' nameE_K ?F ?X ?T ?e ?_ ?g ?k ?x ?d; (case F => k_asm); (case X => k_asm); (case T => k_asm); (case g => rfl); (case k => rfl); (case x => rfl); (case d => rfl); (case e => k_is); k_whole)
  | (refine' nameE_B ?F ?X ?T ?e ?v ?n ?_ ?g ?k ?x ?d; (case F => k_asm); (case X => k_asm); (case T => k_asm); (case g => rfl); (case k => rfl); (case x => rfl); (case d => rfl); (case e => k_is); (case v => boot_fast); (case n => decide); k_whole))))

variable {w : World} {mean : ExcName → Option Value} {mg mb : Str → Option Value} {hB : Heap}
/-- contains(a, b, False), b given -/
def ContP (w : World) (mean : ExcName → Option Value) (mg mb : Str → Option Value) (hB : Heap) (b : Doc) : Prop :=
  ∀ (A : Around) (s : Shared) (va vb : Value) (a : Doc) (Q E : Value → Shared → Prop), Wld w mean mg mb hB s.heap → DocAt Challenge.rw_ez0233_01.row.prog w s.heap va a → DocAt Challenge.rw_ez0233_01.row.prog w s.heap vb b →
    A.handled = none → A.depth + 6 * dep b + 10 < recursionLimit → A.units + 60 * dep b + 60 < cLine →
    (∀ s', Grow T2 s s' → Wld w mean mg mb hB s'.heap → Q (.bool (cont a b)) s') → wpAny (model Challenge.rw_ez0233_01.row.prog w) A (call (.ref 36) [va, vb, .bool false]) Q E s

/-- a list's items, one by one -/
theorem any_range {α : Type} (xs : List α) (f : α → Bool) (B : Nat → Bool) (h : ∀ i x, xs[i]? = some x → B i = f x) : (List.range xs.length).any B = xs.any f := by
  rw [Bool.eq_iff_iff, List.any_eq_true, List.any_eq_true]
  constructor
  · rintro ⟨i, hi, hb⟩
    have hi := List.mem_range.mp hi
    exact ⟨xs[i], List.getElem_mem hi, by rw [← h i _ (List.getElem?_eq_getElem hi)]; exact hb⟩
  · rintro ⟨x, hx, hb⟩
    obtain ⟨i, hi, rfl⟩ := List.mem_iff_getElem.mp hx
    exact ⟨i, List.mem_range.mpr hi, by rw [h i _ (List.getElem?_eq_getElem hi)]; exact hb⟩
theorem all_range {α : Type} (xs : List α) (f : α → Bool) (B : Nat → Bool) (h : ∀ i x, xs[i]? = some x → B i = f x) : (List.range xs.length).all B = xs.all f := by
  rw [Bool.eq_iff_iff, List.all_eq_true, List.all_eq_true]
  constructor
  · intro g x hx
    obtain ⟨i, hi, rfl⟩ := List.mem_iff_getElem.mp hx
    rw [← h i _ (List.getElem?_eq_getElem hi)]; exact g i (List.mem_range.mpr hi)
  · intro g i hi
    have hi := List.mem_range.mp hi
    rw [h i _ (List.getElem?_eq_getElem hi)]; exact g _ (List.getElem_mem hi)

theorem hB_two (B : Base w mean mg mb hB) : ∀ a ∈ [23, 31], hB.get? a = none := fun a ha => by
  rcases List.mem_cons.mp ha with rfl | ha
  · exact B.n1
  · rcases List.mem_cons.mp ha with rfl | ha
    · exact B.n2
    · cases ha
/-- the two tables, on the ledger -/
theorem two_news {s : Shared} {g h : Heap} {L : Addr} {p1 p2 : Array Value} (hg : hideAll s.heap [23, 31] = g) (hL : L ≠ 23) (hL' : L ≠ 31) (e1 : h.get? 23 = some (tabObj p1)) (e2 : h.get? 31 = some (tabObj p2)) : News g L h [(23, tabObj p1), (31, tabObj p2)] := fun p hp => by
  subst hg
  rcases List.mem_cons.mp hp with rfl | hp
  · exact ⟨e1, Ne.symm hL, hideAll_none _ (by simp)⟩
  · rcases List.mem_cons.mp hp with rfl | hp
    · exact ⟨e2, Ne.symm hL', hideAll_none _ (by simp)⟩
    · cases hp
theorem news_app {g h : Heap} {L : Addr} {a b : List (Addr × Obj)} (x : News g L h a) (y : News g L h b) : News g L h (a ++ b) := fun p hp => (List.mem_append.mp hp).elim (x p) (y p)
theorem hide_in {s : Shared} {g : Heap} (hg : hideAll s.heap [23, 31] = g) {b : Addr} {o : Obj} (h1 : b ≠ 23) (h2 : b ≠ 31) (e : s.heap.get? b = some o) : g.get? b = some o := by
  subst hg; exact hideAll_get _ e (by simp only [List.mem_cons, List.not_mem_nil, or_false, not_or]; exact ⟨h1, h2⟩)

theorem hide_not {s : Shared} {g : Heap} (hg : hideAll s.heap [23, 31] = g) {b : Addr} {o : Obj} (e : g.get? b = some o) : b ≠ 23 ∧ b ≠ 31 := by
  subst hg
  exact ⟨fun q => (by rw [q, hideAll_none _ (by simp)] at e; cases e), fun q => (by rw [q, hideAll_none _ (by simp)] at e; cases e)⟩
/-- all that stands besides -/
def restOf (g : Heap) (C : Addr) (h : Heap) : List (Addr × Obj) := (List.range h.objs.size).filterMap fun a => if a = C then none else if (g.get? a).isSome then none else (h.get? a).map fun o => (a, o)
theorem restOf_news (g : Heap) (C : Addr) (h : Heap) : News g C h (restOf g C h) := fun p hp => by
  obtain ⟨a, ha, e⟩ := List.mem_filterMap.mp hp
  split at e
  · cases e
  · rename_i hne
    split at e
    · cases e
    · rename_i hn
      obtain ⟨o, ho, rfl⟩ := Option.map_eq_some_iff.mp e
      exact ⟨ho, hne, by simpa using hn⟩
theorem restOf_mem {g : Heap} {C : Addr} {h : Heap} {b : Addr} {o : Obj} (e : h.get? b = some o) (hC : b ≠ C) (hg : g.get? b = none) : (b, o) ∈ restOf g C h :=
  List.mem_filterMap.mpr ⟨b, List.mem_range.mpr (Heap.lt_size e), by rw [if_neg hC, if_neg (by rw [hg]; simp), e]; rfl⟩
/-- the frame and the ledger of a generator that a def's frame has made; cY: the def's cell -/
theorem inner {s : Shared} {g h' h₂ : Heap} {L cY C : Addr} {m m₂ : Str → Option Value} {oY : Obj} {vY : Option Value} {p1 p2 : Array Value} (hg : hideAll s.heap [23, 31] = g) (F : Fr g L h' m) (hY : h'.get? cY = some oY) (hg0 : g.get? cY = none) (dY : oY.data = .cell vY)
    (e1 : h'.get? 23 = some (tabObj p1)) (e2 : h'.get? 31 = some (tabObj p2)) (hC : h'.objs.size ≤ C) (hn : h₂.Ns C m₂) (up : ∀ b o, b ≠ 23 → b ≠ 31 → h'.get? b = some o → h₂.get? b = some o) (z1 : Tab h₂ 23) (z2 : Tab h₂ 31) :
    Fr g C h₂ m₂ ∧ C ≠ 23 ∧ C ≠ 31 ∧ ∃ q1 q2, News g C h₂ ((cY, oY) :: (23, tabObj q1) :: (31, tabObj q2) :: restOf g C h₂) ∧ TriplesOk q1.toList ∧ TriplesOk q2.toList := by
  obtain ⟨q1, f1, s1⟩ := z1
  obtain ⟨q2, f2, s2⟩ := z2
  have n1 : cY ≠ 23 := fun q => by rw [q, e1] at hY; cases hY; cases dY
  have n2 : cY ≠ 31 := fun q => by rw [q, e2] at hY; cases hY; cases dY
  have F' : Fr g C h₂ m₂ := ⟨hn, fun b o e => up b o (hide_not hg e).1 (hide_not hg e).2 (F.keep b o e), Nat.le_trans F.above (Nat.le_of_lt (Nat.lt_of_lt_of_le F.ns.lt hC))⟩
  have lt : ∀ b o, h'.get? b = some o → b ≠ C := fun b o e => Nat.ne_of_lt (Nat.lt_of_lt_of_le (Heap.lt_size e) hC)
  refine ⟨F', Ne.symm (lt _ _ e1), Ne.symm (lt _ _ e2), q1, q2, fun p hp => ?_, s1, s2⟩
  simp only [List.mem_cons] at hp
  rcases hp with rfl | rfl | rfl | hp
  · exact ⟨up _ _ n1 n2 hY, lt _ _ hY, hg0⟩
  · exact ⟨f1, lt _ _ e1, by subst hg; exact hideAll_none _ (by simp)⟩
  · exact ⟨f2, lt _ _ e2, by subst hg; exact hideAll_none _ (by simp)⟩
  · exact restOf_news _ _ _ p hp
/-- the end of an element that called nothing that generates -/
theorem el_grow {s₂ : Shared} {g h₃ : Heap} {C : Addr} {m m₃ : Str → Option Value} {n₃ : List (Addr × Obj)} {tk₃ : Nat} (F : Fr g C s₂.heap m) (F3 : Fr g C h₃ m₃) (N3 : News g C h₃ n₃) (sub : ∀ p ∈ restOf g C s₂.heap, p ∈ n₃) : Grow (TC C) s₂ { s₂ with heap := h₃, toks := tk₃ } :=
  Grow.of_heap fun b o hb e => by
    cases q : g.get? b with
    | some o' => exact (F.keep b o' q).symm.trans e ▸ F3.keep b o' q
    | none => exact N3.get (sub _ (restOf_mem e (fun q => hb (.inr (.inr q))) q))
theorem not_tab {h : Heap} {a P : Addr} {o : Obj} {p : Array Value} (e : h.get? P = some (tabObj p)) (hl : h.get? a = some o) (hc : o.cls ≠ .none) : a ≠ P := fun q => hc (by rw [q, e] at hl; cases hl; rfl)

theorem has_spec {b : Doc} (hC : (∀ y, b ≠ .atom y) → ContP w mean mg mb hB b) {A : Around} {s : Shared} {va vb : Value} {as : List Doc} {Q E : Value → Shared → Prop} (W : Wld w mean mg mb hB s.heap)
    (ha : DocAt Challenge.rw_ez0233_01.row.prog w s.heap va (.list as)) (hb : DocAt Challenge.rw_ez0233_01.row.prog w s.heap vb b) (hh : A.handled = none) (hdep : A.depth + 6 * dep b + 14 < recursionLimit) (huni : A.units + 60 * dep b + 90 < cLine)
    (hQ : ∀ s', Grow T2 s s' → Wld w mean mg mb hB s'.heap → Q (.bool (as.any fun x => cont x b)) s') : wpAny (model Challenge.rw_ez0233_01.row.prog w) A (call (.ref 28) [va, vb]) Q E s := by
  have X := W.X
  have T := W.T
  have stg := stays_hide W.st (hB_two W.B)
  have Xg := W.B.X.keeps stg
  have Tg := W.B.T.keeps stg
  have up : ∀ b o, (hideAll s.heap [23, 31]).get? b = some o → s.heap.get? b = some o := hide_stays
  have sz := hide_size (h := s.heap) (l := [23, 31])
  obtain ⟨p1, e1, r1⟩ := id W.t1
  obtain ⟨p2, e2, r2⟩ := id W.t2
  have l1 : 23 ≠ s.heap.objs.size := Nat.ne_of_lt (Heap.lt_size e1)
  have l2 : 31 ≠ s.heap.objs.size := Nat.ne_of_lt (Heap.lt_size e2)
  revert X; k_fill; intro X
  generalize hgg : hideAll s.heap [23, 31] = g at *
  cases ha with
  | @list la n vs _ hl hvs =>
  have hla : la ≠ 23 ∧ la ≠ 31 := ⟨not_tab e1 hl (by intro q; cases q), not_tab e2 hl (by intro q; cases q)⟩
  have key : ∀ lb, vb = .ref lb → KitAt lb "list" g ∨ KitAt lb "dict" g → wpAny (model Challenge.rw_ez0233_01.row.prog w) A (call (.ref 28) [.ref la, vb]) Q E s := by
    rintro lb rfl kb
    replace hC := hC (by rintro y rfl; cases hb)
    rcases kb with kb | kb
    all_goals (
        k_dflt tb_rel
        (case st => exact up)
        (case sz => exact sz)
        (case lim => exact T.nolimit)
        (case k8 => omega)
        intro L' h₁ tk cells hL F N Y hk
        k_cells Y
        rename_i oY dY
        replace dY : oY.data = .cell (some (.ref lb)) := dY
        have hY := N.get (List.Mem.head _)
        have hY0 := N.fresh (List.Mem.head _)
        replace N := news_app N (two_news hgg (by rw [← hL]; exact Ne.symm l1) (by rw [← hL]; exact Ne.symm l2) (hk _ _ e1) (hk _ _ e2))
        simp only [List.cons_append, List.nil_append] at N
        try dsimp only
        try k_fold
        k_steps
        rename Fr _ _ _ _ => F2
        rename News _ _ _ _ => N2
        have W2 : Wld w mean mg mb hB _ := ⟨W.B, fun b o e => F2.keep b o (stg b o e), ⟨p1, N2.get (by k_mem), r1⟩, ⟨p2, N2.get (by k_mem), r2⟩⟩
        have hk2 := fun b o h1 h2 e => F2.keep b o (hide_in hgg h1 h2 e)
        refine gen_list (c := 27) (P := 23) (la := la) (items := vs.toArray) (W := W2) (hP := .inl rfl) (B := fun i => match as[i]? with | some x => cont x b | none => false) (cl := [(Str.ofString "y", L' + 1)])
          ?hh ?hroom ?hcode W.B.c1 ?hglob ?hco ?hclos ?hcell ?h0 ?hkind ?hx ?hs ?hl hla ?hev ?helt ?hQ
        case hh => exact hh
        case hroom => simp only [depth_deeper]; omega
        case hcode => rfl
        case hglob => rfl
        case hco => rfl
        case hclos => rfl
        case hcell => decide
        case h0 => rfl
        case hkind => rfl
        case hx => rfl
        case hs => exact fun _ => rfl
        case hl => exact ⟨_, hk2 la _ hla.1 hla.2 hl, rfl, _, rfl⟩
        case hev => intro Q' hq; exact nameX_L F2 rfl hq rfl rfl rfl
        case helt =>
          intro A' E' i v s₂ m₂ C code a1 a2 a3 a4 a5 a6 a7 a8 a9
          obtain ⟨F3, hC1, hC2, q1, q2, N3, s1, s2⟩ := inner hgg F2 (N2.get (by k_mem)) hY0 dY (N2.get (by k_mem)) (N2.get (by k_mem)) a5 a6 a8 a9.1 a9.2
          clear N2 F2
          k_steps
          have up3 := fun b o h1 h2 e => a8 b o h1 h2 (hk2 b o h1 h2 e)
          obtain ⟨x, hx⟩ : ∃ x, as[i]? = some x := by
            have h1 : i < vs.length := by
              have := (Array.getElem?_eq_some_iff.mp a4).1; simpa using this
            exact ⟨as[i]'(by rw [← hvs.length]; exact h1), List.getElem?_eq_getElem _⟩
          simp only [hx]
          refine hC A' s₂ v (.ref lb) x _ _ ⟨W.B, fun b o e => F3.keep b o (stg b o e), a9.1, a9.2⟩ ((hvs.get (by simpa using a4) hx).keepsBut W.t1 W.t2 up3) (hb.keepsBut W.t1 W.t2 up3) a1
            (by simp only [depth_deeper] at a2; omega) (by simp only [units_deeper] at a3; omega) (fun s' g' W' => ⟨rfl, g'.mono fun b q => q.elim .inl fun q => .inr (.inl q), ⟨_, F3.ns.at' fun o e => g'.heap C o (fun q => q.elim hC1 hC2) e⟩, W'.t1, W'.t2⟩)
        case hQ =>
          intro s₅ a g' I C R S
          k_steps
          refine ready_any R fun s' z mv => ?_
          have gr : Grow T2 s s' := (Grow.of_heap (W := T2) (s := s) fun b o hb e => hk2 b o (fun q => hb (.inl q)) (fun q => hb (.inr q)) e).trans (S.grow mv)
          have e9 : (List.range vs.toArray.size).any (fun i => match as[i]? with | some x => cont x b | none => false) = as.any fun x => cont x b := by
            rw [show vs.toArray.size = as.length from by rw [List.size_toArray]; exact hvs.length]
            exact any_range as _ _ fun i x hx => by simp only [hx]
          rw [e9]
          exact hQ s' gr (W.keepsBut (fun b o h1 h2 e => gr.heap b o (fun q => q.elim h1 h2) e) z.1 z.2))
  cases b with
  | list dsb =>
    cases id hb with
    | @list lb nb vsb _ hlb hvb => exact key lb rfl (.inl ⟨_, hide_in hgg (not_tab e1 hlb (by intro q; cases q)) (not_tab e2 hlb (by intro q; cases q)) hlb, rfl⟩)
  | dict es =>
    cases id hb with
    | @dict lb ob kvs _ hlb _ hdb hvb => exact key lb rfl (.inr ⟨_, hide_in hgg (not_tab e1 hlb (by intro q; have := hdb.1.1; rw [q] at this; cases this)) (not_tab e2 hlb (by intro q; have := hdb.1.1; rw [q] at this; cases this)) hlb, hdb.1.1⟩)
  | atom y =>
    k_dflt tb_rel
    (case st => exact up)
    (case sz => exact sz)
    (case lim => exact T.nolimit)
    (case k8 => omega)
    intro L' h₁ tk cells hL F N Y hk
    k_cells Y
    rename_i oY dY
    replace dY : oY.data = .cell (some vb) := dY
    have hY := N.get (List.Mem.head _)
    have hY0 := N.fresh (List.Mem.head _)
    replace N := news_app N (two_news hgg (by rw [← hL]; exact Ne.symm l1) (by rw [← hL]; exact Ne.symm l2) (hk _ _ e1) (hk _ _ e2))
    simp only [List.cons_append, List.nil_append] at N
    try dsimp only
    try k_fold
    k_steps
    rename Fr _ _ _ _ => F2
    rename News _ _ _ _ => N2
    have W2 : Wld w mean mg mb hB _ := ⟨W.B, fun b o e => F2.keep b o (stg b o e), ⟨p1, N2.get (by k_mem), r1⟩, ⟨p2, N2.get (by k_mem), r2⟩⟩
    have hk2 := fun b o h1 h2 e => F2.keep b o (hide_in hgg h1 h2 e)
    refine gen_list (c := 27) (P := 23) (la := la) (items := vs.toArray) (W := W2) (hP := .inl rfl) (B := fun i => match as[i]? with | some x => cont x (.atom y) | none => false) (cl := [(Str.ofString "y", L' + 1)])
      ?hh ?hroom ?hcode W.B.c1 ?hglob ?hco ?hclos ?hcell ?h0 ?hkind ?hx ?hs ?hl hla ?hev ?helt ?hQ
    case hh => exact hh
    case hroom => simp only [depth_deeper]; omega
    case hcode => rfl
    case hglob => rfl
    case hco => rfl
    case hclos => rfl
    case hcell => decide
    case h0 => rfl
    case hkind => rfl
    case hx => rfl
    case hs => exact fun _ => rfl
    case hl => exact ⟨_, hk2 la _ hla.1 hla.2 hl, rfl, _, rfl⟩
    case hev => intro Q' hq; exact nameX_L F2 rfl hq rfl rfl rfl
    case helt =>
      intro A' E' i v s₂ m₂ C code a1 a2 a3 a4 a5 a6 a7 a8 a9
      obtain ⟨F3, hC1, hC2, q1, q2, N3, s1, s2⟩ := inner hgg F2 (N2.get (by k_mem)) hY0 dY (N2.get (by k_mem)) (N2.get (by k_mem)) a5 a6 a8 a9.1 a9.2
      clear N2 F2
      have up3 := fun b o h1 h2 e => a8 b o h1 h2 (hk2 b o h1 h2 e)
      obtain ⟨x, hx⟩ : ∃ x, as[i]? = some x := by
        have h1 : i < vs.length := by
          have := (Array.getElem?_eq_some_iff.mp a4).1; simpa using this
        exact ⟨as[i]'(by rw [← hvs.length]; exact h1), List.getElem?_eq_getElem _⟩
      simp only [hx]
      have hv := (hvs.get (by simpa using a4) hx)
      obtain ⟨rest, hrest⟩ : ∃ r, r = restOf g C s₂.heap := ⟨_, rfl⟩
      rw [← hrest] at N3
      have kx : ∀ lx, v = .ref lx → KitAt lx "list" g ∨ KitAt lx "dict" g := by
        rintro lx rfl
        cases hv with
        | list hlx => exact .inl ⟨_, hide_in hgg (not_tab e1 hlx (by intro q; cases q)) (not_tab e2 hlx (by intro q; cases q)) hlx, rfl⟩
        | dict hlx _ hdx => exact .inr ⟨_, hide_in hgg (not_tab e1 hlx (by intro q; have := hdx.1.1; rw [q] at this; cases this)) (not_tab e2 hlx (by intro q; have := hdx.1.1; rw [q] at this; cases this)) hlx, hdx.1.1⟩
      suffices H : ∀ Q0 : Value → Shared → Prop, (∀ {h₃ : Heap} {m₃ : Str → Option Value} {n₃ : List (Addr × Obj)} {tk₃ : Nat} {c : Bool}, Fr g C h₃ m₃ → News g C h₃ n₃ → (∀ p ∈ (L' + 1, oY) :: (23, tabObj q1) :: (31, tabObj q2) :: rest, p ∈ n₃) → c = cont x (.atom y) →
          Q0 (Value.bool c) { s₂ with heap := h₃, toks := tk₃ }) → wpAny (model Challenge.rw_ez0233_01.row.prog w) A' _ Q0 E' s₂ from
        H _ fun F9 N9 sb e9 => ⟨by rw [e9], el_grow F3 F9 N9 fun p hp => sb p (.tail _ (.tail _ (.tail _ (hrest ▸ hp)))), ⟨_, F9.ns⟩, ⟨_, N9.get (sb _ (by simp)), s1⟩, ⟨_, N9.get (sb _ (by simp)), s2⟩⟩
      intro Q0 fin2
      clear hrest
      cases x with
      | atom xa =>
        k_steps
        rename Fr _ _ _ _ => F4
        rename News _ _ _ _ => N4
        refine scalar_spec (hB := hB) (mean := mean) (mg := mg) (mb := mb) ⟨W.B, fun b o e => F4.keep b o (stg b o e), ⟨_, N4.get (by simp), s1⟩, ⟨_, N4.get (by simp), s2⟩⟩ hv hb (by simp only [depth_deeper] at a2; omega) fun h₅ tk₅ k₅ => ?_
        exact fin2 (F4.keeps k₅) (fun p hp => ⟨k₅ _ _ (N4 p hp).1, (N4 p hp).2⟩) (fun p hp => .tail _ hp) rfl
      | list ds =>
        cases hv with
        | @list lx =>
        replace kx := kx lx rfl
        rcases kx with kx | kx <;> k_steps
        all_goals exact fin2 (by k_asm) (by k_asm) (fun p hp => .tail _ hp) rfl
      | dict es =>
        cases hv with
        | @dict lx =>
        replace kx := kx lx rfl
        rcases kx with kx | kx <;> k_steps
        all_goals exact fin2 (by k_asm) (by k_asm) (fun p hp => .tail _ hp) rfl
    case hQ =>
      intro s₅ a g' I C R S
      k_steps
      refine ready_any R fun s' z mv => ?_
      have gr : Grow T2 s s' := (Grow.of_heap (W := T2) (s := s) fun b o hb e => hk2 b o (fun q => hb (.inl q)) (fun q => hb (.inr q)) e).trans (S.grow mv)
      have e9 : (List.range vs.toArray.size).any (fun i => match as[i]? with | some x => cont x (.atom y) | none => false) = as.any fun x => cont x (.atom y) := by
        rw [show vs.toArray.size = as.length from by rw [List.size_toArray]; exact hvs.length]
        exact any_range as _ _ fun i x hx => by simp only [hx]
      rw [e9]
      exact hQ s' gr (W.keepsBut (fun b o h1 h2 e => gr.heap b o (fun q => q.elim h1 h2) e) z.1 z.2)
end Mine
end
section
open PySem PySem.W PySem.Spec PySem.Calls PyProof.Rows
set_option Elab.async false
set_option maxRecDepth 100000
set_option maxHeartbeats 4000000
namespace Mine
local macro_rules | `(tactic| tb_rel) => `(tactic| (
  refine' enterC (K := hd.heap_39 _) ?st ?sz ?X ?lim ?k6 ?k7 ?k8 ?k9 ?kB ?kD ?_ ?c2 ?c3 ?c4
  (case X => k_asm)
  (case k6 => k_is)
  (case k7 => k_is)
  (case k9 => first | exact BindsTo.of_eq rfl | exact binds_K (by k_asm) rfl (by k_is) rfl rfl rfl)
  (case kB => exact rfl)
  (case kD => decide +kernel)
  (case c2 => exact rfl)
  (case c3 => exact rfl)
  (case c4 => exact rfl)))
local macro_rules | `(tactic| walk_at "call builtin:isinstance") => `(tactic| (k_here; (with_reducible show wpAny _ _ (call _ [Value.ref _, _]) _ _ _); k_dflt (first
  | (refine' kia_tup kitx_list ?X ?c ?p ?ee ?nb ?_; (case c => exact kit_keep (by assumption) (Fr.keep (by k_asm))); (case X => k_in); (case p => kit_tp); (case ee => kit_is); (case nb => kit_nb); k_whole; intro _)
  | (refine' kia_tup kitx_dict ?X ?c ?p ?ee ?nb ?_; (case c => exact kit_keep (by assumption) (Fr.keep (by k_asm))); (case X => k_in); (case p => kit_tp); (case ee => kit_is); (case nb => kit_nb); k_whole; intro _)
  | (refine' kia_one kitx_list ?X ?c ?ee ?nb ?_; (case c => exact kit_keep (by assumption) (Fr.keep (by k_asm))); (case X => k_in); (case ee => kit_is); (case nb => kit_nb); k_whole; intro _)
  | (refine' kia_one kitx_dict ?X ?c ?ee ?nb ?_; (case c => exact kit_keep (by assumption) (Fr.keep (by k_asm))); (case X => k_in); (case ee => kit_is); (case nb => kit_nb); k_whole; intro _))))
local macro_rules | `(tactic| walk_at "call builtin:isinstance") => `(tactic| (k_here; (with_reducible show wpAny _ _ (call _ [_, _]) _ _ _); k_dflt (first
  | (refine' isi_atom_tup ?hv ?X ?p ?_; (case hv => assumption); (case X => k_in); (case p => kit_tp); k_whole; intro _)
  | (refine' isi_atom_one ?c ?hv ?X ?_; (case c => first | exact Or.inl rfl | exact Or.inr rfl); (case hv => assumption); (case X => k_in); k_whole; intro _))))
local macro_rules | `(tactic| walk_at "call builtin:any") => `(tactic| (k_here; fail "here"))
local macro_rules | `(tactic| walk_at "call builtin:all") => `(tactic| (k_here; fail "here"))
local macro_rules | `(tactic| walk_at "call ref") => `(tactic| (k_here; fail "here"))
local macro_rules | `(tactic| walk_at "eval GeneratorExp") => `(tactic| (k_here; fail "here"))
local macro_rules | `(tactic| walk_at "eval Name") => `(tactic| (k_here; (with_reducible show wpAny _ _ (eval (Expr.Name _ _) (genEnv _ _ _ _ _ _)) _ _ _); k_dflt (first
  | (refine' nameE_L ?F ?v ?_ ?k ?l ?d; (case F => k_asm); (case k => rfl); (case l => rfl); (case d => rfl); (case v => first | assumption | rfl); k_whole)
  | (refine' nameE_F ?N ?c ?m ?d ?_ ?k ?x ?b ?n; (case k => rfl); (case x => rfl); (case b => rfl); (case n => rfl); (case N => k_asm); (case c => rfl); (case m => k_mem); (case d => k_asm); k_whole)
  | (refine' nameE_K ?F ?X ?T ?e ?_ ?g ?k ?x ?d; (case F => k_asm); (case X => k_asm); (case T => k_asm); (case g => rfl); (case k => rfl); (case x => rfl); (case d => rfl); (case e => k_is); k_whole)
  | (refine' nameE_B ?F ?X ?T ?e ?v ?n ?_ ?g ?k ?x ?d; (case F => k_asm); (case X => k_asm); (case T => k_asm); (case g => rfl); (case k => rfl); (case x => rfl); (case d => rfl); (case e => k_is); (case v => boot_fast); (case n => decide); k_whole))))

variable {w : World} {mean : ExcName → Option Value} {mg mb : Str → Option Value} {hB : Heap}

section
variable {prog : Program} {w : World} {A : Around} {E : Value → Shared → Prop} {s : Shared} {h₀ : Heap} {L la : Addr} {m : Str → Option Value} {kvs : List (Str × Value)} {k : Str} {t : Tok}
theorem in_doc {Q : Value → Shared → Prop} (F : Fr h₀ L s.heap m) (hs : (la == sysModules) = false) (D : h₀.DictOf (strKind prog w) la kvs) (h : Q (.bool (look kvs k).isSome) { s with toks := s.toks + 1 }) :
    wpAny (model prog w) A (compareOp .In (.str k t) (.ref la)) Q E s := wpAny_in_of (strKind_is prog w k t) hs (D.keep F.keep).mapOf h
theorem in_some {v : Value} {Q : Value → Shared → Prop} (F : Fr h₀ L s.heap m) (hs : (la == sysModules) = false) (D : h₀.DictOf (strKind prog w) la kvs) (hv : look kvs k = some v) (h : Q (.bool true) { s with toks := s.toks + 1 }) :
    wpAny (model prog w) A (compareOp .In (.str k t) (.ref la)) Q E s := in_doc F hs D (by rw [hv]; exact h)
theorem in_none {Q : Value → Shared → Prop} (F : Fr h₀ L s.heap m) (hs : (la == sysModules) = false) (D : h₀.DictOf (strKind prog w) la kvs) (hv : look kvs k = none) (h : Q (.bool false) { s with toks := s.toks + 1 }) :
    wpAny (model prog w) A (compareOp .In (.str k t) (.ref la)) Q E s := in_doc F hs D (by rw [hv]; exact h)
theorem sub_doc {value slice : PySem.Expr} {v : Value} {Q : Value → Shared → Prop} (F : Fr h₀ L s.heap m) (D : h₀.DictOf (strKind prog w) la kvs) (hv : look kvs k = some v) (h : Q v { s with toks := s.toks + 1 })
    (hs : subscripted slice false (.ref la) (.str k t) = operate [.ref la, .str k t] (getItem (.ref la) (.str k t))) :
    wpAny (model prog w) A (subscriptTail value slice (.ref la) (.str k t)) Q E s :=
  have D' := D.keep F.keep
  tail_any D'.typeIs PySem.slot_dict_getitem.lookup (wpAny_getItem_of (strKind_is prog w k t) D'.mapOf hv h) hs
end
theorem contAll_all (xs : List Doc) : ∀ ys, contAll xs ys = ys.all fun y => xs.any fun x => cont x y
  | [] => rfl
  | y :: ys => by rw [contAll, contAll_all xs ys]; rfl
theorem contKvs_all (es : List (Str × Doc)) : ∀ kvs, contKvs es kvs = kvs.all fun p => match look es p.1 with | some d => cont d p.2 | none => false
  | [] => rfl
  | (k, v) :: r => by rw [contKvs, contKvs_all es r]; rfl
local macro_rules | `(tactic| walk_at "compareOp In str ref") => `(tactic| (k_here; k_dflt (first
  | (refine' in_some ?F ?hs ?D ?hv ?_; (case F => k_asm); (case hs => assumption); (case D => assumption); (case hv => assumption); k_whole)
  | (refine' in_none ?F ?hs ?D ?hv ?_; (case F => k_asm); (case hs => assumption); (case D => assumption); (case hv => assumption); k_whole))))
local macro_rules | `(tactic| walk_at "subscriptTail") => `(tactic| (k_here; (with_reducible show wpAny _ _ (subscriptTail _ _ (Value.ref _) (Value.str _ _)) _ _ _); k_dflt (refine' sub_doc ?F ?D ?hv ?_ ?hs; (case F => k_asm); (case D => assumption); (case hv => assumption); (case hs => with_unfolding_all rfl); k_whole)))

/-- contains: what its three kinds of b give, for a b at hand -/
theorem cont_step {A : Around} {s : Shared} {va vb : Value} {a b : Doc} {top : Bool} {args : List Value} (hargs : args = [va, vb, .bool top] ∨ (args = [va, vb] ∧ top = true)) {Q E : Value → Shared → Prop} (W : Wld w mean mg mb hB s.heap)
    (hC : ∀ d, dep d < dep b → ContP w mean mg mb hB d)
    (ha : DocAt Challenge.rw_ez0233_01.row.prog w s.heap va a) (hb : DocAt Challenge.rw_ez0233_01.row.prog w s.heap vb b) (hh : A.handled = none) (hdep : A.depth + 6 * dep b + 10 < recursionLimit) (huni : A.units + 60 * dep b + 60 < cLine)
    (htop : top = true → A.depth + 6 * dep b + 20 < recursionLimit ∧ A.units + 60 * dep b + 120 < cLine)
    (hQ : ∀ s', Grow T2 s s' → Wld w mean mg mb hB s'.heap → Q (.bool (if top then contTop a b else cont a b)) s') : wpAny (model Challenge.rw_ez0233_01.row.prog w) A (call (.ref 36) args) Q E s := by
  have X := W.X
  have T := W.T
  have stg := stays_hide W.st (hB_two W.B)
  have Xg := W.B.X.keeps stg
  have Tg := W.B.T.keeps stg
  have up : ∀ b o, (hideAll s.heap [23, 31]).get? b = some o → s.heap.get? b = some o := hide_stays
  have sz := hide_size (h := s.heap) (l := [23, 31])
  obtain ⟨p1, e1, r1⟩ := id W.t1
  obtain ⟨p2, e2, r2⟩ := id W.t2
  have l1 : 23 ≠ s.heap.objs.size := Nat.ne_of_lt (Heap.lt_size e1)
  have l2 : 31 ≠ s.heap.objs.size := Nat.ne_of_lt (Heap.lt_size e2)
  have kit : ∀ {v : Value} {d : Doc}, DocAt Challenge.rw_ez0233_01.row.prog w s.heap v d → (match d with | .atom x => True | .list _ => ∃ lx, v = .ref lx ∧ KitAt lx "list" (hideAll s.heap [23, 31]) | .dict _ => ∃ lx, v = .ref lx ∧ KitAt lx "dict" (hideAll s.heap [23, 31])) := by
    intro v d hv
    cases hv with
    | list hlx => exact ⟨_, rfl, _, hide_in rfl (not_tab e1 hlx (by intro q; cases q)) (not_tab e2 hlx (by intro q; cases q)) hlx, rfl⟩
    | dict hlx _ hdx => exact ⟨_, rfl, _, hide_in rfl (not_tab e1 hlx (by intro q; have := hdx.1.1; rw [q] at this; cases this)) (not_tab e2 hlx (by intro q; have := hdx.1.1; rw [q] at this; cases this)) hlx, hdx.1.1⟩
    | _ => trivial
  revert X; k_fill; intro X
  generalize hgg : hideAll s.heap [23, 31] = g at *
  cases b with
  | list ys =>
    obtain ⟨lb, rfl, kb⟩ := kit hb
    have : (if top then contTop a (.list ys) else cont a (.list ys)) = cont a (.list ys) := by cases top <;> cases a <;> rfl
    rw [this] at hQ
    rcases hargs with rfl | ⟨rfl, -⟩
    all_goals (
      k_dflt tb_rel
      (case st => exact up)
      (case sz => exact sz)
      (case lim => exact T.nolimit)
      (case k8 => omega)
      intro L' h₁ tk cells hL F N Y hk
      k_cells Y
      rename_i oY dY
      replace dY : oY.data = .cell (some va) := dY
      have hY := N.get (List.Mem.head _)
      have hY0 := N.fresh (List.Mem.head _)
      replace N := news_app N (two_news hgg (by rw [← hL]; exact Ne.symm l1) (by rw [← hL]; exact Ne.symm l2) (hk _ _ e1) (hk _ _ e2))
      simp only [List.cons_append, List.nil_append] at N
      try dsimp only
      try k_fold
      cases a with
      | list xs =>
        obtain ⟨la, rfl, ka⟩ := kit ha
        cases id hb with
        | @list _ nb vsb _ hbl hvb =>
        have hlb : lb ≠ 23 ∧ lb ≠ 31 := ⟨not_tab e1 hbl (by intro q; cases q), not_tab e2 hbl (by intro q; cases q)⟩
        k_steps
        rename Fr _ _ _ _ => F2
        rename News _ _ _ _ => N2
        have W2 : Wld w mean mg mb hB _ := ⟨W.B, fun b o e => F2.keep b o (stg b o e), ⟨p1, N2.get (by k_mem), r1⟩, ⟨p2, N2.get (by k_mem), r2⟩⟩
        have hk2 := fun b o h1 h2 e => F2.keep b o (hide_in hgg h1 h2 e)
        refine gen_list (c := 35) (P := 31) (la := lb) (items := vsb.toArray) (W := W2) (hP := .inr rfl) (B := fun i => match ys[i]? with | some y => xs.any fun x => cont x y | none => false) (cl := [(Str.ofString "a", L' + 1)])
          ?hh ?hroom ?hcode W.B.c2 ?hglob ?hco ?hclos ?hcell ?h0 ?hkind ?hx ?hs ?hl hlb ?hev ?helt ?hQ
        case hh => exact hh
        case hroom => simp only [depth_deeper]; omega
        case hcode => rfl
        case hglob => rfl
        case hco => rfl
        case hclos => rfl
        case hcell => decide
        case h0 => rfl
        case hkind => rfl
        case hx => rfl
        case hs => exact fun _ => rfl
        case hl => exact ⟨_, hk2 lb _ hlb.1 hlb.2 hbl, rfl, _, rfl⟩
        case hev => intro Q' hq; exact nameX_L F2 rfl hq rfl rfl rfl
        case helt =>
          intro A' E' i v s₂ m₂ C code a1 a2 a3 a4 a5 a6 a7 a8 a9
          obtain ⟨F3, hC1, hC2, q1, q2, N3, s1, s2⟩ := inner hgg F2 (N2.get (by k_mem)) hY0 dY (N2.get (by k_mem)) (N2.get (by k_mem)) a5 a6 a8 a9.1 a9.2
          clear N2 F2
          k_steps
          have up3 := fun b o h1 h2 e => a8 b o h1 h2 (hk2 b o h1 h2 e)
          obtain ⟨x, hx⟩ : ∃ x, ys[i]? = some x := by
            have h1 : i < vsb.length := by
              have := (Array.getElem?_eq_some_iff.mp a4).1; simpa using this
            exact ⟨ys[i]'(by rw [← hvb.length]; exact h1), List.getElem?_eq_getElem _⟩
          simp only [hx]
          have hlt : dep x < dep (.list ys) := Nat.lt_succ_of_le (dep_mem (List.mem_of_getElem? hx))
          refine has_spec (fun _ => hC x hlt) ⟨W.B, fun b o e => F3.keep b o (stg b o e), a9.1, a9.2⟩ (ha.keepsBut W.t1 W.t2 up3) ((hvb.get (by simpa using a4) hx).keepsBut W.t1 W.t2 up3) a1
            (by simp only [depth_deeper] at a2; omega) (by simp only [units_deeper] at a3; omega) (fun s' g' W' => ⟨rfl, g'.mono fun b q => q.elim .inl fun q => .inr (.inl q), ⟨_, F3.ns.at' fun o e => g'.heap C o (fun q => q.elim hC1 hC2) e⟩, W'.t1, W'.t2⟩)
        case hQ =>
          intro s₅ a g' I C R S
          k_steps
          refine ready_all R fun s' z mv => ?_
          have gr : Grow T2 s s' := (Grow.of_heap (W := T2) (s := s) fun b o hb e => hk2 b o (fun q => hb (.inl q)) (fun q => hb (.inr q)) e).trans (S.grow mv)
          have e9 : (List.range vsb.toArray.size).all (fun i => match ys[i]? with | some y => xs.any fun x => cont x y | none => false) = cont (.list xs) (.list ys) := by
            rw [show vsb.toArray.size = ys.length from by rw [List.size_toArray]; exact hvb.length, cont, contAll_all]
            exact all_range ys _ _ fun i x hx => by simp only [hx]
          rw [e9]
          exact hQ s' gr (W.keepsBut (fun b o h1 h2 e => gr.heap b o (fun q => q.elim h1 h2) e) z.1 z.2)
      | atom xa =>
        k_steps
        exact hQ _ (Grow.of_heap fun b o hb e => Fr.keep (by k_asm) b o (hide_in hgg (fun q => hb (.inl q)) (fun q => hb (.inr q)) e)) (W.keepsBut (fun b o h1 h2 e => Fr.keep (by k_asm) b o (hide_in hgg h1 h2 e)) ⟨_, News.get (by k_asm) (by simp), r1⟩ ⟨_, News.get (by k_asm) (by simp), r2⟩)
      | dict esa =>
        obtain ⟨la, rfl, ka⟩ := kit ha
        k_steps
        exact hQ _ (Grow.of_heap fun b o hb e => Fr.keep (by k_asm) b o (hide_in hgg (fun q => hb (.inl q)) (fun q => hb (.inr q)) e)) (W.keepsBut (fun b o h1 h2 e => Fr.keep (by k_asm) b o (hide_in hgg h1 h2 e)) ⟨_, News.get (by k_asm) (by simp), r1⟩ ⟨_, News.get (by k_asm) (by simp), r2⟩))
  | dict es =>
    obtain ⟨lb, rfl, kb⟩ := kit hb
    have : (if top then contTop a (.dict es) else cont a (.dict es)) = cont a (.dict es) := by cases top <;> cases a <;> rfl
    rw [this] at hQ
    rcases hargs with rfl | ⟨rfl, -⟩
    all_goals (
      k_dflt tb_rel
      (case st => exact up)
      (case sz => exact sz)
      (case lim => exact T.nolimit)
      (case k8 => omega)
      intro L' h₁ tk cells hL F N Y hk
      k_cells Y
      rename_i oY dY
      replace dY : oY.data = .cell (some va) := dY
      have hY := N.get (List.Mem.head _)
      have hY0 := N.fresh (List.Mem.head _)
      replace N := news_app N (two_news hgg (by rw [← hL]; exact Ne.symm l1) (by rw [← hL]; exact Ne.symm l2) (hk _ _ e1) (hk _ _ e2))
      simp only [List.cons_append, List.nil_append] at N
      try dsimp only
      try k_fold
      cases a with
      | dict esa =>
        cases id ha with
        | @dict la oa kvsa _ hal has had hva =>
        have hla : la ≠ 23 ∧ la ≠ 31 := ⟨not_tab e1 hal (by intro q; have := had.1.1; rw [q] at this; cases this), not_tab e2 hal (by intro q; have := had.1.1; rw [q] at this; cases this)⟩
        have ka : KitAt la "dict" g := ⟨_, hide_in hgg hla.1 hla.2 hal, had.1.1⟩
        cases id hb with
        | @dict _ ob kvsb _ hbl hbs hbd hvb =>
        have hlb : lb ≠ 23 ∧ lb ≠ 31 := ⟨not_tab e1 hbl (by intro q; have := hbd.1.1; rw [q] at this; cases this), not_tab e2 hbl (by intro q; have := hbd.1.1; rw [q] at this; cases this)⟩
        k_steps
        rename Fr _ _ _ _ => F2
        rename News _ _ _ _ => N2
        have W2 : Wld w mean mg mb hB _ := ⟨W.B, fun b o e => F2.keep b o (stg b o e), ⟨p1, N2.get (by k_mem), r1⟩, ⟨p2, N2.get (by k_mem), r2⟩⟩
        have hk2 := fun b o h1 h2 e => F2.keep b o (hide_in hgg h1 h2 e)
        refine gen_items (c := 35) (P := 31) (la := lb) (kvs := kvsb) (W := W2) (hP := .inr rfl) (B := fun i => match es[i]? with | some p => (match look esa p.1 with | some d => cont d p.2 | none => false) | none => false) (cl := [(Str.ofString "a", L' + 1)])
          ?hh ?hroom ?hcode W.B.c2 ?hglob ?hco ?hclos ?hcell ?h0 ?hkind ?hxa ?hxb ?hab ?hs ?hl hlb ?hev ?helt ?hQ
        case hh => exact hh
        case hroom => simp only [depth_deeper]; omega
        case hcode => rfl
        case hglob => rfl
        case hco => rfl
        case hclos => rfl
        case hcell => decide
        case h0 => rfl
        case hkind => rfl
        case hxa => rfl
        case hxb => rfl
        case hab => decide +kernel
        case hs => exact fun _ => rfl
        case hl => exact dobj_of (hk2 lb _ hlb.1 hlb.2 hbl) hbd
        case hev => intro Q' hq; exact wpAny_Call_items hbs (dobj_of (hk2 lb _ hlb.1 hlb.2 hbl) hbd) rfl rfl (fun Q'' hq'' => nameX_L F2 rfl hq'' rfl rfl rfl) hq
        case helt =>
          intro A' E' i k t v s₂ m₂ C code a1 a2 a3 a4 a5 a6 a7 a7' a8 a9
          obtain ⟨F3, hC1, hC2, q1, q2, N3, s1, s2⟩ := inner hgg F2 (N2.get (by k_mem)) hY0 dY (N2.get (by k_mem)) (N2.get (by k_mem)) a5 a6 a8 a9.1 a9.2
          clear N2 F2
          have up3 := fun b o h1 h2 e => a8 b o h1 h2 (hk2 b o h1 h2 e)
          obtain ⟨x, hx, hvx⟩ := hvb.get a4
          simp only [hx]
          have hlk := hva.look (k := k)
          have Da : g.DictOf (strKind Challenge.rw_ez0233_01.row.prog w) la kvsa := dobj_of (hide_in hgg hla.1 hla.2 hal) had
          have hlt : dep x < dep (.dict es) := Nat.lt_succ_of_le (dep_memK (List.mem_of_getElem? hx))
          cases h1 : look kvsa k with
          | none =>
            cases h2 : look esa k with
            | some d => rw [h1, h2] at hlk; exact hlk.elim
            | none =>
            suffices H : ∀ Q0 : Value → Shared → Prop, (∀ tk₃, Q0 (Value.bool false) { s₂ with toks := tk₃ }) → wpAny (model Challenge.rw_ez0233_01.row.prog w) A' _ Q0 E' s₂ from
              H _ fun tk₃ => ⟨rfl, Grow.of_heap (s := s₂) (h' := s₂.heap) fun _ _ _ e => e, ⟨_, F3.ns⟩, a9⟩
            intro Q0 fin2
            k_steps
            exact fin2 _
          | some vx =>
            cases h2 : look esa k with
            | none => rw [h1, h2] at hlk; exact hlk.elim
            | some d =>
            rw [h1, h2] at hlk
            suffices H : ∀ Q0 : Value → Shared → Prop, (∀ s₃, Grow T2 s₂ s₃ → ZT s₃ → Q0 (Value.bool (cont d x)) s₃) → wpAny (model Challenge.rw_ez0233_01.row.prog w) A' _ Q0 E' s₂ from
              H _ fun s₃ g₃ z₃ => ⟨rfl, g₃.mono fun b q => q.elim .inl fun q => .inr (.inl q), ⟨_, F3.ns.at' fun o e => g₃.heap C o (fun q => q.elim hC1 hC2) e⟩, z₃⟩
            intro Q0 fin2
            k_steps
            refine hC x hlt A' _ vx v d _ _ ⟨W.B, fun b o e => F3.keep b o (stg b o e), a9.1, a9.2⟩ (hlk.keepsBut W.t1 W.t2 up3) (hvx.keepsBut W.t1 W.t2 up3) a1
              (by simp only [depth_deeper] at a2; omega) (by simp only [units_deeper] at a3; omega) (fun s' g' W' => fin2 s' ((Grow.of_heap (s := s₂) (h' := s₂.heap) fun _ _ _ e => e).trans g') ⟨W'.t1, W'.t2⟩)
        case hQ =>
          intro s₅ a g' I C R S
          k_steps
          refine ready_all R fun s' z mv => ?_
          have gr : Grow T2 s s' := (Grow.of_heap (W := T2) (s := s) fun b o hb e => hk2 b o (fun q => hb (.inl q)) (fun q => hb (.inr q)) e).trans (S.grow mv)
          have e9 : (List.range kvsb.length).all (fun i => match es[i]? with | some p => (match look esa p.1 with | some d => cont d p.2 | none => false) | none => false) = cont (.dict esa) (.dict es) := by
            rw [show kvsb.length = es.length from hvb.length, cont, contKvs_all]
            exact all_range es _ _ fun i x hx => by simp only [hx]
          rw [e9]
          exact hQ s' gr (W.keepsBut (fun b o h1 h2 e => gr.heap b o (fun q => q.elim h1 h2) e) z.1 z.2)
      | atom xa =>
        k_steps
        exact hQ _ (Grow.of_heap fun b o hb e => Fr.keep (by k_asm) b o (hide_in hgg (fun q => hb (.inl q)) (fun q => hb (.inr q)) e)) (W.keepsBut (fun b o h1 h2 e => Fr.keep (by k_asm) b o (hide_in hgg h1 h2 e)) ⟨_, News.get (by k_asm) (by simp), r1⟩ ⟨_, News.get (by k_asm) (by simp), r2⟩)
      | list xs =>
        obtain ⟨la, rfl, ka⟩ := kit ha
        k_steps
        exact hQ _ (Grow.of_heap fun b o hb e => Fr.keep (by k_asm) b o (hide_in hgg (fun q => hb (.inl q)) (fun q => hb (.inr q)) e)) (W.keepsBut (fun b o h1 h2 e => Fr.keep (by k_asm) b o (hide_in hgg h1 h2 e)) ⟨_, News.get (by k_asm) (by simp), r1⟩ ⟨_, News.get (by k_asm) (by simp), r2⟩))
  | atom y =>
    have tail : ∀ (top : Bool) (args : List Value), (top = true → A.depth + 6 * dep (.atom y) + 20 < recursionLimit ∧ A.units + 60 * dep (.atom y) + 120 < cLine) → (args = [va, vb, .bool top] ∨ (args = [va, vb] ∧ top = true)) → (∀ s', Grow T2 s s' → Wld w mean mg mb hB s'.heap → Q (.bool (if top then contTop a (.atom y) else cont a (.atom y))) s') →
        wpAny (model Challenge.rw_ez0233_01.row.prog w) A (call (.ref 36) args) Q E s := by
      clear hQ hargs htop
      intro top args htop hargs hQ
      have g9 : ∀ {h' : Heap} {L : Addr} {m : Str → Option Value} {tk : Nat}, Fr g L h' m → Grow T2 s { s with heap := h', toks := tk } := fun F9 => Grow.of_heap fun b o hb e => F9.keep b o (hide_in hgg (fun q => hb (.inl q)) (fun q => hb (.inr q)) e)
      have w9 : ∀ {h' : Heap} {L : Addr} {m : Str → Option Value} {n : List (Addr × Obj)}, Fr g L h' m → News g L h' n → (23, tabObj p1) ∈ n → (31, tabObj p2) ∈ n → Wld w mean mg mb hB h' := fun F9 N9 i1 i2 =>
        W.keepsBut (fun b o h1 h2 e => F9.keep b o (hide_in hgg h1 h2 e)) ⟨_, N9.get i1, r1⟩ ⟨_, N9.get i2, r2⟩
      cases a with
      | list xs =>
        obtain ⟨la, rfl, ka⟩ := kit ha
        have e0 : cont (.list xs) (.atom y) = false := rfl
        have e1' : contTop (.list xs) (.atom y) = xs.any fun x => cont x (.atom y) := rfl
        rw [e0, e1'] at hQ
        rcases hargs with rfl | ⟨rfl, rfl⟩
        · cases top
          all_goals (
            k_dflt tb_rel
            (case st => exact up)
            (case sz => exact sz)
            (case lim => exact T.nolimit)
            (case k8 => omega)
            intro L' h₁ tk cells hL F N Y hk
            k_cells Y
            rename_i oY dY
            replace dY : oY.data = .cell (some (.ref la)) := dY
            have hY := N.get (List.Mem.head _)
            have hY0 := N.fresh (List.Mem.head _)
            replace N := news_app N (two_news hgg (by rw [← hL]; exact Ne.symm l1) (by rw [← hL]; exact Ne.symm l2) (hk _ _ e1) (hk _ _ e2))
            simp only [List.cons_append, List.nil_append] at N
            try dsimp only
            try k_fold
            k_steps)
          · exact hQ _ (g9 (by k_asm)) (w9 (by k_asm) (by k_asm) (by simp) (by simp))
          · rename Fr _ _ _ _ => F4
            rename News _ _ _ _ => N4
            have up4 := fun b o h1 h2 e => F4.keep b o (hide_in hgg h1 h2 e)
            exact has_spec (fun h => absurd rfl (h y)) (w9 F4 N4 (by simp) (by simp)) (ha.keepsBut W.t1 W.t2 up4) (hb.keepsBut W.t1 W.t2 up4) hh (by have := (htop rfl).1; simp only [depth_deeper]; omega) (by have := (htop rfl).2; simp only [units_deeper]; omega)
              fun s' g' W' => hQ s' ((g9 F4).trans g') W'
        · (
            k_dflt tb_rel
            (case st => exact up)
            (case sz => exact sz)
            (case lim => exact T.nolimit)
            (case k8 => omega)
            intro L' h₁ tk cells hL F N Y hk
            k_cells Y
            rename_i oY dY
            replace dY : oY.data = .cell (some (.ref la)) := dY
            have hY := N.get (List.Mem.head _)
            have hY0 := N.fresh (List.Mem.head _)
            replace N := news_app N (two_news hgg (by rw [← hL]; exact Ne.symm l1) (by rw [← hL]; exact Ne.symm l2) (hk _ _ e1) (hk _ _ e2))
            simp only [List.cons_append, List.nil_append] at N
            try dsimp only
            try k_fold
            k_steps)
          rename Fr _ _ _ _ => F4
          rename News _ _ _ _ => N4
          have up4 := fun b o h1 h2 e => F4.keep b o (hide_in hgg h1 h2 e)
          exact has_spec (fun h => absurd rfl (h y)) (w9 F4 N4 (by simp) (by simp)) (ha.keepsBut W.t1 W.t2 up4) (hb.keepsBut W.t1 W.t2 up4) hh (by have := (htop rfl).1; simp only [depth_deeper]; omega) (by have := (htop rfl).2; simp only [units_deeper]; omega)
            fun s' g' W' => hQ s' ((g9 F4).trans g') W'
      | dict es =>
        obtain ⟨la, rfl, ka⟩ := kit ha
        have e0 : (if top then contTop (.dict es) (.atom y) else cont (.dict es) (.atom y)) = false := by cases top <;> rfl
        rw [e0] at hQ
        rcases hargs with rfl | ⟨rfl, rfl⟩
        · cases top
          all_goals (
            k_dflt tb_rel
            (case st => exact up)
            (case sz => exact sz)
            (case lim => exact T.nolimit)
            (case k8 => omega)
            intro L' h₁ tk cells hL F N Y hk
            k_cells Y
            rename_i oY dY
            replace dY : oY.data = .cell (some (.ref la)) := dY
            have hY := N.get (List.Mem.head _)
            have hY0 := N.fresh (List.Mem.head _)
            replace N := news_app N (two_news hgg (by rw [← hL]; exact Ne.symm l1) (by rw [← hL]; exact Ne.symm l2) (hk _ _ e1) (hk _ _ e2))
            simp only [List.cons_append, List.nil_append] at N
            try dsimp only
            try k_fold
            k_steps)
          all_goals exact hQ _ (g9 (by k_asm)) (w9 (by k_asm) (by k_asm) (by simp) (by simp))
        · (
            k_dflt tb_rel
            (case st => exact up)
            (case sz => exact sz)
            (case lim => exact T.nolimit)
            (case k8 => omega)
            intro L' h₁ tk cells hL F N Y hk
            k_cells Y
            rename_i oY dY
            replace dY : oY.data = .cell (some (.ref la)) := dY
            have hY := N.get (List.Mem.head _)
            have hY0 := N.fresh (List.Mem.head _)
            replace N := news_app N (two_news hgg (by rw [← hL]; exact Ne.symm l1) (by rw [← hL]; exact Ne.symm l2) (hk _ _ e1) (hk _ _ e2))
            simp only [List.cons_append, List.nil_append] at N
            try dsimp only
            try k_fold
            k_steps)
          exact hQ _ (g9 (by k_asm)) (w9 (by k_asm) (by k_asm) (by simp) (by simp))
      | atom x =>
        have e0 : (if top then contTop (.atom x) (.atom y) else cont (.atom x) (.atom y)) = decide (x = y) := by cases top <;> rfl
        rw [e0] at hQ
        rcases hargs with rfl | ⟨rfl, rfl⟩
        · cases top
          all_goals (
            k_dflt tb_rel
            (case st => exact up)
            (case sz => exact sz)
            (case lim => exact T.nolimit)
            (case k8 => omega)
            intro L' h₁ tk cells hL F N Y hk
            k_cells Y
            rename_i oY dY
            replace dY : oY.data = .cell (some va) := dY
            have hY := N.get (List.Mem.head _)
            have hY0 := N.fresh (List.Mem.head _)
            replace N := news_app N (two_news hgg (by rw [← hL]; exact Ne.symm l1) (by rw [← hL]; exact Ne.symm l2) (hk _ _ e1) (hk _ _ e2))
            simp only [List.cons_append, List.nil_append] at N
            try dsimp only
            try k_fold
            k_steps)
          all_goals (
            rename Fr _ _ _ _ => F4
            rename News _ _ _ _ => N4
            exact scalar_spec (w9 F4 N4 (by simp) (by simp)) ha hb (by simp only [depth_deeper]; omega) fun h₅ tk₅ k₅ => hQ _ (g9 (F4.keeps k₅)) ((w9 F4 N4 (by simp) (by simp)).keeps k₅))
        · (
            k_dflt tb_rel
            (case st => exact up)
            (case sz => exact sz)
            (case lim => exact T.nolimit)
            (case k8 => omega)
            intro L' h₁ tk cells hL F N Y hk
            k_cells Y
            rename_i oY dY
            replace dY : oY.data = .cell (some va) := dY
            have hY := N.get (List.Mem.head _)
            have hY0 := N.fresh (List.Mem.head _)
            replace N := news_app N (two_news hgg (by rw [← hL]; exact Ne.symm l1) (by rw [← hL]; exact Ne.symm l2) (hk _ _ e1) (hk _ _ e2))
            simp only [List.cons_append, List.nil_append] at N
            try dsimp only
            try k_fold
            k_steps)
          rename Fr _ _ _ _ => F4
          rename News _ _ _ _ => N4
          exact scalar_spec (w9 F4 N4 (by simp) (by simp)) ha hb (by simp only [depth_deeper]; omega) fun h₅ tk₅ k₅ => hQ _ (g9 (F4.keeps k₅)) ((w9 F4 N4 (by simp) (by simp)).keeps k₅)
    exact tail top args htop hargs hQ

theorem cont_spec : ∀ n (b : Doc), dep b < n → ContP w mean mg mb hB b := by
  intro n
  induction n with
  | zero => intro b h; exact absurd h (Nat.not_lt_zero _)
  | succ n ih =>
    intro b hb A s va vb a Q E W ha hvb hh hdep huni hQ
    exact cont_step (top := false) (.inl rfl) W (fun d hd => ih d (Nat.lt_of_lt_of_le hd (Nat.le_of_lt_succ hb))) ha hvb hh hdep huni (fun h => nomatch h) fun s' g' W' => by simpa using hQ s' g' W'
/-- contains(a, b) -/
theorem top_spec {A : Around} {s : Shared} {va vb : Value} {a b : Doc} {Q E : Value → Shared → Prop} (W : Wld w mean mg mb hB s.heap)
    (ha : DocAt Challenge.rw_ez0233_01.row.prog w s.heap va a) (hb : DocAt Challenge.rw_ez0233_01.row.prog w s.heap vb b) (hh : A.handled = none) (hdep : A.depth + 6 * dep b + 20 < recursionLimit) (huni : A.units + 60 * dep b + 120 < cLine)
    (hQ : ∀ s', Grow T2 s s' → Wld w mean mg mb hB s'.heap → Q (.bool (contTop a b)) s') : wpAny (model Challenge.rw_ez0233_01.row.prog w) A (call (.ref 36) [va, vb]) Q E s :=
  cont_step (top := true) (.inr ⟨rfl, rfl⟩) W (fun d _ => cont_spec _ d (Nat.lt_succ_self _)) ha hb hh (by omega) (by omega) (fun _ => ⟨hdep, huni⟩) fun s' g' W' => by simpa using hQ s' g' W'
end Mine
end
section
open PySem PySem.W PySem.Spec PySem.Calls PyProof.Rows
set_option Elab.async false
set_option maxRecDepth 100000
set_option maxHeartbeats 4000000
namespace Mine
/-- the law's state: the numbers and the place -/
structure StAt (h : Heap) (sa na : Addr) (nums : List Int) (at_ : Int) : Prop where
  st : ∃ t n, h.get? sa = some (lobj [.ref na, .int at_ t] n)
  nl : ∃ vs n, h.get? na = some (lobj vs n) ∧ IntsAre vs nums
  ne : na ≠ sa
  len : 0 < nums.length
  len2 : nums.length ≤ 64
  low : ∀ x ∈ nums, 0 ≤ x
  high : ∀ x ∈ nums, x < 1000003
  at0 : 0 ≤ at_
  at1 : at_ < 1000000
local macro_rules | `(tactic| tb_start) => `(tactic| (
  refine' enter (K := hd.heap_39 _) ?st ?sz ?X ?lim ?k6 ?k7 ?k8 ?k9 ?kB ?_ ?c2 ?c3 ?c4 ?c5
  (case X => k_asm)
  (case k6 => k_is)
  (case k7 => k_is)
  (case k9 => first | exact BindsTo.of_eq rfl | exact binds_K (by k_asm) rfl (by k_is) rfl rfl rfl)
  (case kB => exact locs rfl)
  (case c2 => exact rfl)
  (case c3 => exact rfl)
  (case c4 => exact rfl)
  (case c5 => decide)))
variable {w : World} {mean : ExcName → Option Value} {mg mb : Str → Option Value} {hB : Heap}
theorem next_spec {A : Around} {s : Shared} {sa na : Addr} {nums : List Int} {at_ many : Int} {u : Tok} {Q E : Value → Shared → Prop} (W : Wld w mean mg mb hB s.heap) (hB0 : hB.get? sa = none) (S : StAt s.heap sa na nums at_)
    (h0 : 0 < many) (h1 : many ≤ 100) (hh : A.handled = none) (hdep : A.depth + 2 < recursionLimit)
    (hQ : ∀ k t h' tk, 0 ≤ k → k < many → (∀ b o, b ≠ sa → s.heap.get? b = some o → h'.get? b = some o) → (at_ + 1 < 1000000 → StAt h' sa na nums (at_ + 1)) → Q (.int k t) {s with heap := h', toks := tk}) :
  wpAny (model Challenge.rw_ez0233_01.row.prog w) A (call (.ref 43) [.ref sa, .int many u]) Q E s := by
  obtain ⟨Ah, Ad, Af, Ag, Au⟩ := A
  obtain rfl : Ah = none := hh
  replace hdep : Ad + 2 < recursionLimit := hdep
  have X := W.X
  have T := W.T
  obtain ⟨⟨t, n, e1⟩, ⟨vs, n2, e2, hI⟩, hne, hl, hl2, hlow, hhigh, ha0, ha1⟩ := S
  have stg := stays_hide (l := [sa]) W.st (by intro a ha; rw [List.mem_singleton.mp ha]; exact hB0)
  have Xg := W.B.X.keeps stg
  have Tg := W.B.T.keeps stg
  have up : ∀ b o, (hideAll s.heap [sa]).get? b = some o → s.heap.get? b = some o := hide_stays
  have sz := hide_size (h := s.heap) (l := [sa])
  have hin : ∀ b o, b ≠ sa → s.heap.get? b = some o → (hideAll s.heap [sa]).get? b = some o := fun b o hb e => hideAll_get _ e (by simpa using hb)
  have hno : (hideAll s.heap [sa]).get? sa = none := hideAll_none _ (by simp)
  have hlt : sa < s.heap.objs.size := Heap.lt_size e1
  revert X; k_fill; intro X
  generalize hgg : hideAll s.heap [sa] = g at *
  have hL1 : g.IsList na vs.toArray := ⟨_, hin _ _ hne e2, rfl, _, rfl⟩
  k_dflt tb_start
  (case st => exact up)
  (case sz => exact sz)
  (case lim => exact T.nolimit)
  (case k8 => show Ad < recursionLimit; omega)
  intro L' h₁ tk hL F hk
  have N : News g L' h₁ [(sa, lobj [.ref na, .int at_ t] n)] := fun p hp => by
    rw [List.mem_singleton.mp hp]; exact ⟨hk _ _ e1, Nat.ne_of_lt (hL ▸ hlt), hno⟩
  have hlp : (0 : Int) < (nums.length : Int) := by omega
  have d0 : 0 ≤ at_.fdiv (nums.length : Int) := by rw [Int.fdiv_eq_ediv_of_nonneg _ (Int.le_of_lt hlp)]; exact Int.ediv_nonneg ha0 (Int.le_of_lt hlp)
  have d1 : at_.fdiv (nums.length : Int) ≤ at_ := by rw [Int.fdiv_eq_ediv_of_nonneg _ (Int.le_of_lt hlp)]; exact Int.ediv_le_self _ ha0
  have d2 : ¬ (1 + at_.fdiv (nums.length : Int) = 0) := by omega
  try dsimp only
  try k_fold
  k_steps
  rename Fr _ _ _ _ => F2
  rename News _ _ _ _ => N2
  have m0 : ∀ x : Int, 0 ≤ x.fmod many := fun x => by rw [Int.fmod_eq_emod_of_nonneg _ (Int.le_of_lt h0)]; exact Int.emod_nonneg _ (Int.ne_of_gt h0)
  have m1 : ∀ x : Int, x.fmod many < many := fun x => by rw [Int.fmod_eq_emod_of_nonneg _ (Int.le_of_lt h0)]; exact Int.emod_lt_of_pos _ h0
  exact hQ _ _ _ _ (m0 _) (m1 _) (fun b o hb e => F2.keep b o (hin b o hb e)) fun ha2 =>
    ⟨⟨_, _, N2.get (by k_mem)⟩, ⟨vs, n2, F2.keep _ _ (hin _ _ hne e2), hI⟩, hne, hl, hl2, hlow, hhigh, by omega, ha2⟩
end Mine
end
section
open PySem PySem.W PySem.Spec PySem.Calls PyProof.Rows
set_option Elab.async false
set_option maxRecDepth 100000
set_option maxHeartbeats 4000000
namespace Mine
local macro_rules | `(tactic| tb_start) => `(tactic| (
  refine' enter (K := hd.heap_39 _) ?st ?sz ?X ?lim ?k6 ?k7 ?k8 ?k9 ?kB ?_ ?c2 ?c3 ?c4 ?c5
  (case X => k_asm)
  (case k6 => k_is)
  (case k7 => k_is)
  (case k9 => first | exact BindsTo.of_eq rfl | exact binds_K (by k_asm) rfl (by k_is) rfl rfl rfl)
  (case kB => exact locs rfl)
  (case c2 => exact rfl)
  (case c3 => exact rfl)
  (case c4 => exact rfl)
  (case c5 => decide)))
variable {w : World} {mean : ExcName → Option Value} {mg mb : Str → Option Value} {hB : Heap}
theorem plain_spec {A : Around} {s : Shared} {Q E : Value → Shared → Prop} (W : Wld w mean mg mb hB s.heap)
    (hdep : A.depth + 2 < recursionLimit)
    (hQ : ∀ la vs n h' tk, s.heap.get? la = none → h'.get? la = some (lobj vs n) → DocsIn Challenge.rw_ez0233_01.row.prog w (fun _ _ => False) vs (plains.map Doc.atom) → (∀ b o, s.heap.get? b = some o → h'.get? b = some o) → Q (.ref la) {s with heap := h', toks := tk}) :
  wpAny (model Challenge.rw_ez0233_01.row.prog w) A (call (.ref 55) []) Q E s := by
  have X := W.X
  have T := W.T
  revert X; k_fill; intro X
  k_dflt tb_start
  (case st => exact fun _ _ e => e)
  (case sz => exact Nat.le_refl _)
  (case lim => exact T.nolimit)
  (case k8 => omega)
  intro L' h₁ tk hL F hk
  have N : News s.heap L' h₁ [] := News.nil
  try dsimp only
  try k_fold
  k_steps
  rename Fr _ _ _ _ => F2
  rename News _ _ _ _ => N2
  refine hQ _ _ _ _ _ (N2.fresh (List.Mem.head _)) (N2.get (List.Mem.head _)) ?_ F2.keep
  exact .cons (.int _ _) (.cons (.int _ _) (.cons (.int _ _) (.cons (.str _ _) (.cons (.str _ _) (.cons .none (.cons (.bool _) .nil))))))

theorem state_spec {A : Around} {s : Shared} {ls : Addr} {vs : List Value} {ns : List Int} {Q E : Value → Shared → Prop} (W : Wld w mean mg mb hB s.heap)
    (hl : s.heap.IsList ls vs.toArray) (hI : IntsAre vs ns) (hlen : ns.length ≤ 63) (hdep : A.depth + 4 < recursionLimit) (hh : A.handled = none)
    (hQ : ∀ sa na nums h' tk, s.heap.get? sa = none → StAt h' sa na nums 0 → (∀ b o, s.heap.get? b = some o → h'.get? b = some o) → Q (.ref sa) {s with heap := h', toks := tk}) :
  wpAny (model Challenge.rw_ez0233_01.row.prog w) A (call (.ref 48) [.ref ls]) Q E s := by
  obtain ⟨Ah, Ad, Af, Ag, Au⟩ := A
  obtain rfl : Ah = none := hh
  replace hdep : Ad + 4 < recursionLimit := hdep
  have X := W.X
  have T := W.T
  revert X; k_fill; intro X
  k_dflt tb_start
  (case st => exact fun _ _ e => e)
  (case sz => exact Nat.le_refl _)
  (case lim => exact T.nolimit)
  (case k8 => show Ad < recursionLimit; omega)
  intro L' h₁ tk hL F hk
  have N : News s.heap L' h₁ [] := News.nil
  try dsimp only
  try k_fold
  k_steps
  rename Fr _ _ _ _ => F2
  rename News _ _ _ _ => N2
  rename IntsAre _ _ => hI2
  rename ((_ : Nat) < _) ∧ _ => l2
  have hm : ∀ x : Int, 0 ≤ x.fmod 1000003 ∧ x.fmod 1000003 < 1000003 := fun x => by rw [Int.fmod_eq_emod_of_nonneg _ (by decide)]; exact ⟨Int.emod_nonneg _ (by decide), Int.emod_lt_of_pos _ (by decide)⟩
  have hall : ∀ x ∈ List.map (fun k' : Int => (if k' < 0 then -k' else k').fmod 1000003) (List.take 24 ns) ++ [5, 0, 11], 0 ≤ x ∧ x < 1000003 := fun x hx => by
    rcases List.mem_append.mp hx with hx | hx
    · obtain ⟨y, _, rfl⟩ := List.mem_map.mp hx
      exact hm _
    · simp only [List.mem_cons, List.not_mem_nil, or_false] at hx
      rcases hx with rfl | rfl | rfl <;> decide
  exact hQ _ _ _ _ _ (N2.fresh (List.Mem.head _)) ⟨⟨_, _, N2.get (List.Mem.head _)⟩, ⟨_, _, N2.get (List.Mem.tail _ (List.Mem.head _)), hI2⟩, Nat.ne_of_lt l2.1, by simp, by simp; omega, fun x hx => (hall x hx).1, fun x hx => (hall x hx).2, by decide, by decide⟩ F2.keep
end Mine
end
section
open PySem PySem.W PySem.Spec PySem.Calls PyProof.Rows
set_option Elab.async false
set_option maxRecDepth 100000
set_option maxHeartbeats 2000000
namespace Mine
/-- all that stands besides g and the addresses in ex -/
def restX (g : Heap) (ex : List Addr) (h : Heap) : List (Addr × Obj) := (List.range h.objs.size).filterMap fun a => if a ∈ ex then none else if (g.get? a).isSome then none else (h.get? a).map fun o => (a, o)
theorem restX_get {g : Heap} {ex : List Addr} {h : Heap} {p : Addr × Obj} (hp : p ∈ restX g ex h) : h.get? p.1 = some p.2 ∧ p.1 ∉ ex ∧ g.get? p.1 = none := by
  obtain ⟨a, ha, e⟩ := List.mem_filterMap.mp hp
  split at e
  · cases e
  · rename_i hne
    split at e
    · cases e
    · rename_i hn
      obtain ⟨o, ho, rfl⟩ := Option.map_eq_some_iff.mp e
      exact ⟨ho, hne, by simpa using hn⟩
theorem restX_news (g : Heap) {L : Addr} {ex : List Addr} (hL : L ∈ ex) (h : Heap) : News g L h (restX g ex h) := fun p hp => by
  obtain ⟨h1, h2, h3⟩ := restX_get hp
  exact ⟨h1, fun q => h2 (q ▸ hL), h3⟩
theorem restX_mem {g : Heap} {ex : List Addr} {h : Heap} {b : Addr} {o : Obj} (e : h.get? b = some o) (hC : b ∉ ex) (hg : g.get? b = none) : (b, o) ∈ restX g ex h :=
  List.mem_filterMap.mpr ⟨b, List.mem_range.mpr (Heap.lt_size e), by rw [if_neg hC, if_neg (by rw [hg]; simp), e]; rfl⟩

section
variable {g h h' : Heap} {L sa : Addr} {m : Str → Option Value} {news : List (Addr × Obj)}
/-- the frame behind a call that turns one object of the call's own -/
theorem fr_one (F : Fr g L h m) (hL : L ≠ sa) (hg : g.get? sa = none) (k : ∀ b o, b ≠ sa → h.get? b = some o → h'.get? b = some o) : Fr g L h' m :=
  ⟨F.ns.at' fun o e => k L o hL e, fun b o e => k b o (fun q => by rw [q, hg] at e; cases e) (F.keep b o e), F.above⟩
end

/-- the law's state, on the ledger -/
structure Sta (g : Heap) (news : List (Addr × Obj)) (sa na : Addr) (nums : List Int) (at_ : Int) : Prop where
  st : ∃ t n, (sa, lobj [.ref na, .int at_ t] n) ∈ news
  nl : ∃ vs n, g.get? na = some (lobj vs n) ∧ IntsAre vs nums
  ne : na ≠ sa
  len : 0 < nums.length
  len2 : nums.length ≤ 64
  low : ∀ x ∈ nums, 0 ≤ x
  high : ∀ x ∈ nums, x < 1000003
  at0 : 0 ≤ at_
  at1 : at_ < 1000000
theorem Sta.at {g h : Heap} {L : Addr} {m : Str → Option Value} {news : List (Addr × Obj)} {sa na : Addr} {nums : List Int} {at_ : Int} (S : Sta g news sa na nums at_) (F : Fr g L h m) (N : News g L h news) : StAt h sa na nums at_ :=
  ⟨let ⟨t, n, hm⟩ := S.st; ⟨t, n, N.get hm⟩, let ⟨vs, n, e, hI⟩ := S.nl; ⟨vs, n, F.keep _ _ e, hI⟩, S.ne, S.len, S.len2, S.low, S.high, S.at0, S.at1⟩

section
variable {prog : Program} {w : World} {A : Around} {E : Value → Shared → Prop} {s : Shared} {g : Heap} {L sa na : Addr} {m : Str → Option Value} {news : List (Addr × Obj)} {nums : List Int} {at_ : Int}
/-- a call that turns the state alone, in the midst of a walk -/
theorem st_walk {tree : Sem Value} {Q : Value → Shared → Prop} {R : Heap → Heap → Value → Int → Prop} (F : Fr g L s.heap m) (N : News g L s.heap news) (S : Sta g news sa na nums at_) (extra : List Addr)
    (spec : ∀ Q' : Value → Shared → Prop, (∀ r h' tk at', (∀ b o, b ≠ sa → s.heap.get? b = some o → h'.get? b = some o) → StAt h' sa na nums at' → R s.heap h' r at' → Q' r { s with heap := h', toks := tk }) → wpAny (model prog w) A tree Q' E s)
    (h : ∀ r h' tk tl t' n' at', Fr g L h' m → News g L h' ((sa, lobj [.ref na, .int at' t'] n') :: tl) → Sta g ((sa, lobj [.ref na, .int at' t'] n') :: tl) sa na nums at' → (∀ p ∈ news, p.1 ≠ sa → p.1 ∉ extra → p ∈ tl) → (∀ p ∈ tl, p.1 ≠ sa ∧ p.1 ∉ extra) →
      (∀ b o, b ≠ sa → s.heap.get? b = some o → h'.get? b = some o) → (∀ a o, s.heap.get? a = none → a ∉ extra → h'.get? a = some o → (a, o) ∈ tl) → R s.heap h' r at' → Q r { s with heap := h', toks := tk }) : wpAny (model prog w) A tree Q E s := by
  obtain ⟨t0, n0, hm0⟩ := id S.st
  have hs0 := N _ hm0
  refine spec Q fun r h' tk at' k S' hR => ?_
  obtain ⟨t', n', e'⟩ := S'.st
  have F' : Fr g L h' m := fr_one F (Ne.symm hs0.2.1) hs0.2.2 k
  refine h r h' tk (restX g (L :: sa :: extra) h') t' n' at' F' (fun p hp => ?_) ⟨⟨t', n', List.Mem.head _⟩, S.nl, S.ne, S.len, S.len2, S.low, S.high, S'.at0, S'.at1⟩ (fun p hp h1 h2 => ?_) (fun p hp => ?_) k (fun a o e1 h2 e2 => ?_) hR
  · rcases List.mem_cons.mp hp with rfl | hp
    · exact ⟨e', hs0.2⟩
    · exact restX_news g (by simp) h' p hp
  · exact restX_mem (k _ _ h1 (N p hp).1) (by simp only [List.mem_cons, not_or]; exact ⟨(N p hp).2.1, h1, h2⟩) (N p hp).2.2
  · have := (restX_get hp).2.1
    simp only [List.mem_cons, not_or] at this
    exact ⟨this.2.1, this.2.2⟩
  · refine restX_mem e2 ?_ ?_
    · simp only [List.mem_cons, not_or]
      exact ⟨fun q => (by rw [q] at e1; obtain ⟨o1, _, _, e3, _⟩ := F.ns; rw [e1] at e3; cases e3), fun q => (by rw [q, hs0.1] at e1; cases e1), h2⟩
    · cases q : g.get? a with
      | none => rfl
      | some o' => rw [F.keep _ _ q] at e1; cases e1
end

theorem fr_turn {g h : Heap} {L : Addr} {m : Str → Option Value} {k : Str} (F : Fr g L h m) : Fr g L h (fun y => if y = k then m k else m y) := by
  have : (fun y => if y = k then m k else m y) = m := funext fun y => by
    split
    · rename_i e; rw [e]
    · rfl
  rw [this]; exact F
theorem fr_turn2 {g h : Heap} {L : Addr} {m : Str → Option Value} {k : Str} {v T : Option Value} (F : Fr g L h (fun y => if y = k then v else if y = k then T else m y)) : Fr g L h (fun y => if y = k then v else m y) := by
  have : (fun y => if y = k then v else if y = k then T else m y) = fun y => if y = k then v else m y := funext fun y => by
    split
    · rfl
    · rfl
  rw [← this]; exact F
theorem forM {prog : Program} {w : World} {A : Around} {s : Shared} {g h₀ : Heap} {L : Addr} {m0 : Str → Option Value} {R : Result → Shared → Prop} {target it body orelse env} (_F : Fr g L h₀ m0) (I : (Str → Option Value) → Nat → Shared → Prop)
    (turn : ∀ n s, I m0 n s → wpAny (model prog w) A (pyNext it) (fun r s₁ => match r with
      | none => wpAny (model prog w) A (execs orelse env) (fun f s₃ => R (.ok f) s₃) (notedBy (model prog w) A env fun e s' => R (.error e) s') s₁
      | some v => wpAny (model prog w) A (assign target env v) (fun _ s₂ => wpAny (model prog w) A (execs body env) (fun f s₃ => match f with
          | .next | .cont => ∃ m, m < n ∧ I m0 m s₃
          | .brk => R (.ok .next) s₃
          | .ret v => R (.ok (.ret v)) s₃) (notedBy (model prog w) A env fun e s' => R (.error e) s') s₂) (notedBy (model prog w) A env fun e s' => R (.error e) s') s₁) (notedBy (model prog w) A env fun e s' => R (.error e) s') s)
    (n : Nat) (h : I m0 n s) (ht : ∀ v, letOwnedTupleGo target it v = pure () := by intro _; rfl) : codeAny (model prog w) A (.forLoop target it body orelse env) R s := codeAny_forLoop (I m0) turn n h ht
theorem set_step {prog : Program} {w : World} {A : Around} {E : Value → Shared → Prop} {s : Shared} {g : Heap} {L sa d0 : Addr} {m : Str → Option Value} {so od : Obj} {tl : List (Addr × Obj)} {kvs : List (Str × Value)} {k : Str} {t : Tok} {v : Value} {Q : Unit → Shared → Prop}
    (F : Fr g L s.heap m) (N : News g L s.heap ((sa, so) :: (d0, od) :: tl)) (hne : d0 ≠ sa) (off : ∀ p ∈ tl, p.1 ≠ d0) (hod : dobj prog w od kvs) (hk : ∀ k ∈ kvs.map (·.1), k ∈ keyz)
    (hQ : ∀ h' od', Fr g L h' m → News g L h' ((sa, so) :: (d0, od') :: tl) → dobj prog w od' (stored kvs k v) → Q () { s with heap := h', toks := s.toks + 1 }) : wpAny (model prog w) A (setItem (.ref d0) (.str k t) v) Q E s := by
  have hd := N _ (List.mem_cons_of_mem _ List.mem_cons_self)
  have hlen : kvs.length ≤ 3 := by
    have := key_three (kvs.map (·.1)) (let ⟨_, _, _, _, _, _, z⟩ := hod; z) hk
    simpa using this
  refine wpAny_setItem_pairs (strKind_is ..) (dobj_of hd.1 hod) (fun h' hD hS => ?_) (Nat.le_trans hlen (by decide))
  obtain ⟨od', e', x'⟩ := dobj_back hD
  have kp : ∀ b o, b ≠ d0 → s.heap.get? b = some o → h'.get? b = some o := fun b o hb e => (hS.2 b hb).trans e
  refine hQ h' od' (fr_one F (Ne.symm hd.2.1) hd.2.2 kp) (fun p hp => ?_) x'
  rcases List.mem_cons.mp hp with rfl | hp
  · have z := N _ List.mem_cons_self
    exact ⟨kp _ _ (Ne.symm hne) z.1, z.2⟩
  · rcases List.mem_cons.mp hp with rfl | hp
    · exact ⟨e', hd.2⟩
    · have z := N p (List.mem_cons_of_mem _ (List.mem_cons_of_mem _ hp))
      exact ⟨kp _ _ (off p hp) z.1, z.2⟩
theorem off3_of {I C D : Addr} : ∀ {l : List (Addr × Obj)}, (∀ p ∈ l, p.1 ≠ I ∧ p.1 ≠ C ∧ p.1 ≠ D) → LCg.Off3 I C D l
  | [], _ => trivial
  | p :: _, h => ⟨h p List.mem_cons_self, off3_of fun q hq => h q (List.mem_cons_of_mem _ hq)⟩
theorem was_none {g h h0 : Heap} {L sa : Addr} {m : Str → Option Value} {news : List (Addr × Obj)} {o : Obj} (F : Fr g L h m) (N : News g L h news) (hm : (sa, o) ∈ news) (hin : ∀ b o, b ≠ sa → h0.get? b = some o → g.get? b = some o) : ∀ a, h.get? a = none → h0.get? a = none := fun a e1 => by
  cases q : h0.get? a with
  | none => rfl
  | some o' =>
    by_cases e : a = sa
    · rw [e, N.get hm] at e1; cases e1
    · rw [F.keep _ _ (hin _ _ e q)] at e1; cases e1
theorem allLt_mem {d : Addr} {l : List (Addr × Obj)} (h : AllLt d l) : ∀ p ∈ l, @LT.lt Nat _ p.1 d := by
  induction l with
  | nil => intro p hp; cases hp
  | cons q r ih =>
    intro p hp
    cases hp with
    | head => exact h.1
    | tail _ hp => exact ih h.2 p hp
theorem item_doc {prog : Program} {w : World} {A : Around} {E : Value → Shared → Prop} {s : Shared} {value slice : PySem.Expr} {l : Addr} {vs : List Value} {k : Int} {u : Tok} {v : Value} {Q : Value → Shared → Prop}
    (hl : s.heap.IsList l vs.toArray) (h0 : 0 ≤ k) (hhi : k < 2 ^ 63) (hx : vs[k.toNat]? = some v) (h : Q v s)
    (hs : subscripted slice false (.ref l) (.int k u) = operate [.ref l, .int k u] (getItem (.ref l) (.int k u))) :
    wpAny (model prog w) A (subscriptTail value slice (.ref l) (.int k u)) Q E s :=
  tail_any hl.typeIs slot_list_getitem.lookup (wpAny_getItem_list hl h0 hhi (by simpa using hx) h) hs
def cost : Nat → Int
  | 0 => 2
  | d + 1 => 5 + 3 * cost d
theorem cost_pos : ∀ n, 2 ≤ cost n
  | 0 => by decide
  | n + 1 => by have := cost_pos n; rw [cost]; omega

def storedD (es : List (Str × Doc)) (k : Str) (d : Doc) : List (Str × Doc) :=
  if es.any (fun kv => kv.1 = k) then es.map (fun kv => if kv.1 = k then (kv.1, d) else kv) else es ++ [(k, d)]
theorem storedD_mem {es : List (Str × Doc)} {k : Str} {d : Doc} : ∀ p ∈ storedD es k d, p ∈ es ∨ p = (k, d) := by
  intro p hp
  unfold storedD at hp
  split at hp
  · obtain ⟨q, hq, rfl⟩ := List.mem_map.mp hp
    split
    · rename_i e; rw [← e]; exact .inr rfl
    · exact .inl hq
  · rcases List.mem_append.mp hp with h | h
    · exact .inl h
    · exact .inr (List.mem_singleton.mp h)
theorem KvsIn.any_key {prog : Program} {w : World} {P : Addr → Obj → Prop} {k : Str} : ∀ {vs : List (Str × Value)} {ds : List (Str × Doc)}, KvsIn prog w P vs ds → (vs.any fun kv => kv.1 = k) = ds.any fun kv => kv.1 = k
  | _, _, .nil => rfl
  | _, _, .cons _ b => by simp only [List.any_cons, b.any_key]
theorem KvsIn.map_key {prog : Program} {w : World} {P : Addr → Obj → Prop} {k : Str} {v : Value} {d : Doc} (h : DocIn prog w P v d) : ∀ {vs : List (Str × Value)} {ds : List (Str × Doc)}, KvsIn prog w P vs ds →
    KvsIn prog w P (vs.map fun kv => if kv.1 = k then (kv.1, v) else kv) (ds.map fun kv => if kv.1 = k then (kv.1, d) else kv)
  | _, _, .nil => .nil
  | _, _, .cons (k := k') a b => by
    simp only [List.map_cons]
    by_cases q : k' = k
    · simp only [q, if_true]; exact .cons h (b.map_key h)
    · simp only [q, if_false]; exact .cons a (b.map_key h)
theorem KvsIn.stored {prog : Program} {w : World} {P : Addr → Obj → Prop} {k : Str} {v : Value} {d : Doc} {vs : List (Str × Value)} {ds : List (Str × Doc)} (h : KvsIn prog w P vs ds) (hd : DocIn prog w P v d) : KvsIn prog w P (stored vs k v) (storedD ds k d) := by
  unfold PySem.stored storedD
  rw [h.any_key]
  split
  · exact h.map_key hd
  · exact h.append (.cons hd .nil)
/-- i turns of a call and a draw -/
def bnd (c : Int) : Nat → Int
  | 0 => 0
  | i + 1 => bnd c i + 1 + c
theorem bnd_mono {c : Int} (hc : 0 ≤ c) : ∀ {i j : Nat}, i ≤ j → bnd c i ≤ bnd c j := by
  intro i j h
  induction h with
  | refl => exact Int.le_refl _
  | step _ ih => rw [bnd]; omega
theorem bnd3 (c : Int) : bnd c 3 = 3 + 3 * c := by simp only [bnd]; omega
theorem bnd0 {c : Int} (hc : 0 ≤ c) (i : Nat) : 0 ≤ bnd c i := by have := bnd_mono hc (Nat.zero_le i); rw [bnd] at this; exact this

/-- between the turns of the loop that fills a document's dict -/
def DInv (prog : Program) (w : World) (s : Shared) (g : Heap) (L I d0 sa na : Addr) (nums : List Int) (cD cS : Addr) (oD oS : Obj) (n0 n : Nat) (a0 c : Int) (m0 : Str → Option Value) (j : Nat) (s' : Shared) : Prop :=
  ∃ h' tk i T tl t' n' od oI kvs es at', s' = { s with heap := h', toks := tk } ∧ i ≤ n0 ∧ j = n0 + 1 - i ∧ IsRangeIter h' I (0 + (i : Int) * 1) ((n0 : Int) - (i : Int)) 1 ∧ Fr g L h' (fun y => if y = Str.ofString "turn" then T else m0 y) ∧
    News g L h' ((sa, lobj [.ref na, .int at' t'] n') :: (d0, od) :: (I, oI) :: tl) ∧ Sta g ((sa, lobj [.ref na, .int at' t'] n') :: (d0, od) :: (I, oI) :: tl) sa na nums at' ∧ (∀ p ∈ tl, p.1 ≠ sa ∧ p.1 ∉ [d0, I]) ∧ (cD, oD) ∈ tl ∧ (cS, oS) ∈ tl ∧
    dobj prog w od kvs ∧ KvsIn prog w (fun a o => s.heap.get? a = none ∧ (a, o) ∈ tl) kvs es ∧ (∀ p ∈ es, p.1 ∈ keyz ∧ clean p.2 ∧ dep p.2 ≤ n) ∧ a0 ≤ at' ∧ at' ≤ a0 + bnd c i

def DocP (w : World) (mean : ExcName → Option Value) (mg mb : Str → Option Value) (hB : Heap) (n : Nat) : Prop :=
  ∀ (A : Around) (s : Shared) (sa na : Addr) (nums : List Int) (at_ : Int) (deep : Int) (u : Tok) (Q E : Value → Shared → Prop), Wld w mean mg mb hB s.heap → hB.get? sa = none → StAt s.heap sa na nums at_ → at_ + cost n < 1000000 → deep = n →
    A.handled = none → A.depth + 3 * n + 10 < recursionLimit → A.units + 10 * n + 60 < cLine →
    (∀ r d h' tk at', DocIn Challenge.rw_ez0233_01.row.prog w (fun a o => s.heap.get? a = none ∧ h'.get? a = some o) r d → clean d → dep d ≤ n → (∀ b o, b ≠ sa → s.heap.get? b = some o → h'.get? b = some o) → StAt h' sa na nums at' → at_ ≤ at' → at' ≤ at_ + cost n →
      Q r { s with heap := h', toks := tk }) → wpAny (model Challenge.rw_ez0233_01.row.prog w) A (call (.ref 60) [.ref sa, .int deep u]) Q E s
local macro_rules | `(tactic| tb_rel) => `(tactic| (
  refine' enterC (K := hd.heap_39 _) ?st ?sz ?X ?lim ?k6 ?k7 ?k8 ?k9 ?kB ?kD ?_ ?c2 ?c3 ?c4
  (case X => k_asm)
  (case k6 => k_is)
  (case k7 => k_is)
  (case k9 => first | exact BindsTo.of_eq rfl | exact binds_K (by k_asm) rfl (by k_is) rfl rfl rfl)
  (case kB => exact rfl)
  (case kD => decide +kernel)
  (case c2 => exact rfl)
  (case c3 => exact rfl)
  (case c4 => exact rfl)))
local macro_rules | `(tactic| k_mem) => `(tactic| first | exact List.mem_cons_self | with_reducible assumption | (refine' List.mem_cons_of_mem _ ?_; k_mem))
-- the walk, but it stands still before a loop, an iteration, a list comprehension
local macro_rules | `(tactic| ktr_unf) => `(tactic| repeat' (
  (fail_if_success (with_reducible show wpAny _ _ (exec (Stmt.For _ _ _ _ _) _) _ _ _));
  (fail_if_success (with_reducible show wpAny _ _ (pyIter _) _ _ _));
  (fail_if_success (with_reducible show LCg.CompSrc _ _ _ _ _ _ _ _ _ _ _ _ _ _));
  (fail_if_success (with_reducible show wpAny _ _ (eval (Expr.ListComp _ _ _ _) _) _ _ _));
  first | (k_unfold; (try dsimp only)) | (k_end; wrow_close) | walk1 | (dsimp only; walk1) | (leave1; walk_say "STEP leave1"; try dsimp only) | fail "no step"))
local macro_rules | `(tactic| walk_at "call ref") => `(tactic| (k_here; fail "here"))
variable {w : World} {mean : ExcName → Option Value} {mg mb : Str → Option Value} {hB : Heap}
theorem doc_step (n : Nat) (IH : ∀ k, k < n → DocP w mean mg mb hB k) : DocP w mean mg mb hB n := by
  intro A s sa na nums at_ deep u Q E W hB0 S hat hdeep hh hdep huni hQ
  obtain ⟨Ah, Ad, Af, Ag, Au⟩ := A
  obtain rfl : Ah = none := hh
  replace hdep : Ad + 3 * n + 10 < recursionLimit := hdep
  replace huni : Au + 10 * n + 60 < cLine := huni
  have X := W.X
  have T := W.T
  obtain ⟨⟨t, ns, e1⟩, hnl, hne, hrest⟩ := id S
  have stg := stays_hide (l := [sa]) W.st (by intro a ha; rw [List.mem_singleton.mp ha]; exact hB0)
  have Xg := W.B.X.keeps stg
  have Tg := W.B.T.keeps stg
  have up : ∀ b o, (hideAll s.heap [sa]).get? b = some o → s.heap.get? b = some o := hide_stays
  have sz := hide_size (h := s.heap) (l := [sa])
  have hin : ∀ b o, b ≠ sa → s.heap.get? b = some o → (hideAll s.heap [sa]).get? b = some o := fun b o hb e => hideAll_get _ e (by simpa using hb)
  have hno : (hideAll s.heap [sa]).get? sa = none := hideAll_none _ (by simp)
  have hlt : sa < s.heap.objs.size := Heap.lt_size e1
  obtain ⟨p1, f1, r1⟩ := id W.t1
  obtain ⟨p2, f2, r2⟩ := id W.t2
  have s26 : sa ≠ 23 := not_tab f1 e1 (by intro q; cases q)
  have s34 : sa ≠ 31 := not_tab f2 e1 (by intro q; cases q)
  revert X; k_fill; intro X
  generalize hgg : hideAll s.heap [sa] = g at *
  have Wg : Wld w mean mg mb hB g := ⟨W.B, stg, ⟨p1, hin _ _ (Ne.symm s26) f1, r1⟩, ⟨p2, hin _ _ (Ne.symm s34) f2, r2⟩⟩
  k_dflt tb_rel
  (case st => exact up)
  (case sz => exact sz)
  (case lim => exact T.nolimit)
  (case k8 => show Ad < recursionLimit; omega)
  intro L' h₁ tk cells hL F N Y hk
  k_cells Y
  rename_i oD oS dD dS
  replace dD : oD.data = .cell (some (.int deep u)) := dD
  replace dS : oS.data = .cell (some (.ref sa)) := dS
  replace N : News g L' h₁ [(sa, lobj [.ref na, .int at_ t] ns), (L' + 1 + 1, oD), (L' + 1, oS)] := fun p hp => by
    rcases List.mem_cons.mp hp with rfl | hp
    · exact ⟨hk _ _ e1, Nat.ne_of_lt (hL ▸ hlt), hno⟩
    · exact N p hp
  have St0 : Sta g [(sa, lobj [.ref na, .int at_ t] ns), (L' + 1 + 1, oD), (L' + 1, oS)] sa na nums at_ := ⟨⟨_, _, List.Mem.head _⟩, (let ⟨vs, n2, e, hI⟩ := hnl; ⟨vs, n2, hin _ _ hne e, hI⟩), S.ne, S.len, S.len2, S.low, S.high, S.at0, S.at1⟩
  have hsaL : @LT.lt Nat _ sa L' := hL ▸ hlt
  have cp := cost_pos n
  try dsimp only
  try k_fold
  k_steps
  refine st_walk (R := fun _ _ r at' => ∃ k t, r = .int k t ∧ 0 ≤ k ∧ k < 4 ∧ at' = at_ + 1) F N St0 [] (fun Q' hQ' => next_spec (Wg.keeps F.keep) hB0 (St0.at F N) (by decide) (by decide) rfl (by show Ad + 1 + 2 < recursionLimit; omega) fun k t h' tk a1 a2 a3 a4 => hQ' _ _ _ _ a3 (a4 (by omega)) ⟨k, t, rfl, a1, a2, rfl⟩) ?_
  clear F N St0
  rintro r h2 tk2 tl t2 n2 at2 F N St sub off k2 - ⟨way, tw, rfl, w0, w1, rfl⟩
  have cD : (L' + 1 + 1, oD) ∈ tl := sub _ (by simp) (neA (by omega)) (by simp)
  have cS : (L' + 1, oS) ∈ tl := sub _ (by simp) (neA (by omega)) (by simp)
  ktr_unf
  · rename Fr _ _ _ _ => F8
    rename News _ _ _ _ => N8
    have cpn : cost n ≥ 2 := cp
    refine plain_spec (Wg.keeps F8.keep) (by show Ad + 1 + 2 < recursionLimit; omega) fun la vs n9 h3 tk3 a1 a2 a3 a4 => ?_
    have cl : (la, lobj vs n9) ∈ (la, lobj vs n9) :: tl := List.mem_cons_self
    have F3 := F8.keeps a4
    have N3 : News g L' h3 ((sa, lobj [.ref na, .int (at_ + 1) t2] n2) :: (la, lobj vs n9) :: tl) := fun p hp => by
      have old : ∀ p ∈ (sa, lobj [.ref na, .int (at_ + 1) t2] n2) :: tl, h3.get? p.1 = some p.2 ∧ p.1 ≠ L' ∧ g.get? p.1 = none := fun p hp => ⟨a4 _ _ (N8 p hp).1, (N8 p hp).2⟩
      rcases List.mem_cons.mp hp with rfl | hp
      · exact old _ List.mem_cons_self
      · rcases List.mem_cons.mp hp with rfl | hp
        · refine ⟨a2, fun q => ?_, ?_⟩
          · obtain ⟨o9, _, _, q9, _⟩ := F8.ns
            dsimp only at q a1 q9; rw [q, q9] at a1; cases a1
          · cases q : g.get? la with
            | none => rfl
            | some o9 => rw [F8.keep _ _ q] at a1; cases a1
        · exact old _ (List.mem_cons_of_mem _ hp)
    have St3 : Sta g ((sa, lobj [.ref na, .int (at_ + 1) t2] n2) :: (la, lobj vs n9) :: tl) sa na nums (at_ + 1) := ⟨⟨_, _, List.mem_cons_self⟩, St.nl, St.ne, St.len, St.len2, St.low, St.high, St.at0, St.at1⟩
    have hlas : la ≠ sa := fun q => by
      have := (N8 _ List.mem_cons_self).1
      dsimp only at this a1; rw [q, this] at a1; cases a1
    have cD3 := List.mem_cons_of_mem (la, lobj vs n9) cD
    have cS3 := List.mem_cons_of_mem (la, lobj vs n9) cS
    clear F8 N8
    k_steps
    refine st_walk (R := fun _ _ r at' => ∃ k t, r = .int k t ∧ 0 ≤ k ∧ k < 7 ∧ at' = at_ + 1 + 1) F3 N3 St3 [] (fun Q' hQ' => next_spec (Wg.keeps F3.keep) hB0 (St3.at F3 N3) (by decide) (by decide) rfl (by show Ad + 1 + 2 < recursionLimit; omega) fun k t h' tk a1 a2 a3 a4 => hQ' _ _ _ _ a3 (a4 (by omega)) ⟨k, t, rfl, a1, a2, rfl⟩) ?_
    rintro r h4 tk4 tl4 t4 n4 at4 F4 N4 St4 sub4 off4 k4 - ⟨kk, tk9, rfl, w2, w3, rfl⟩
    have hlen : vs.length = 7 := a3.length.trans rfl
    obtain ⟨v, hv⟩ : ∃ v, vs[kk.toNat]? = some v := ⟨_, List.getElem?_eq_getElem (by omega)⟩
    obtain ⟨x, hx⟩ : ∃ x, (plains.map Doc.atom)[kk.toNat]? = some x := ⟨_, List.getElem?_eq_getElem (by show _ < 7; omega)⟩
    have hd := a3.get hv hx
    have hl4 : h4.IsList la vs.toArray := lobj_list (N4.get (List.mem_cons_of_mem _ (sub4 _ (List.mem_cons_of_mem _ List.mem_cons_self) hlas (by simp))))
    k_steps
    refine item_doc hl4 w2 (by omega) hv ?_ (by with_unfolding_all rfl)
    obtain ⟨a, ha, rfl⟩ := List.mem_map.mp (List.mem_of_getElem? hx)
    k_steps
    exact hQ v (.atom a) h4 _ _ (hd.mono fun _ _ h _ => h.elim) ha (Nat.zero_le _) (fun b o hb e => F4.keep b o (hin b o hb e)) (St4.at F4 N4) (by omega) (by omega)
  · rename Fr _ _ _ _ => F8
    rename News _ _ _ _ => N8
    have cpn : cost n ≥ 2 := cp
    refine plain_spec (Wg.keeps F8.keep) (by show Ad + 1 + 2 < recursionLimit; omega) fun la vs n9 h3 tk3 a1 a2 a3 a4 => ?_
    have cl : (la, lobj vs n9) ∈ (la, lobj vs n9) :: tl := List.mem_cons_self
    have F3 := F8.keeps a4
    have N3 : News g L' h3 ((sa, lobj [.ref na, .int (at_ + 1) t2] n2) :: (la, lobj vs n9) :: tl) := fun p hp => by
      have old : ∀ p ∈ (sa, lobj [.ref na, .int (at_ + 1) t2] n2) :: tl, h3.get? p.1 = some p.2 ∧ p.1 ≠ L' ∧ g.get? p.1 = none := fun p hp => ⟨a4 _ _ (N8 p hp).1, (N8 p hp).2⟩
      rcases List.mem_cons.mp hp with rfl | hp
      · exact old _ List.mem_cons_self
      · rcases List.mem_cons.mp hp with rfl | hp
        · refine ⟨a2, fun q => ?_, ?_⟩
          · obtain ⟨o9, _, _, q9, _⟩ := F8.ns
            dsimp only at q a1 q9; rw [q, q9] at a1; cases a1
          · cases q : g.get? la with
            | none => rfl
            | some o9 => rw [F8.keep _ _ q] at a1; cases a1
        · exact old _ (List.mem_cons_of_mem _ hp)
    have St3 : Sta g ((sa, lobj [.ref na, .int (at_ + 1) t2] n2) :: (la, lobj vs n9) :: tl) sa na nums (at_ + 1) := ⟨⟨_, _, List.mem_cons_self⟩, St.nl, St.ne, St.len, St.len2, St.low, St.high, St.at0, St.at1⟩
    have hlas : la ≠ sa := fun q => by
      have := (N8 _ List.mem_cons_self).1
      dsimp only at this a1; rw [q, this] at a1; cases a1
    have cD3 := List.mem_cons_of_mem (la, lobj vs n9) cD
    have cS3 := List.mem_cons_of_mem (la, lobj vs n9) cS
    clear F8 N8
    k_steps
    refine st_walk (R := fun _ _ r at' => ∃ k t, r = .int k t ∧ 0 ≤ k ∧ k < 7 ∧ at' = at_ + 1 + 1) F3 N3 St3 [] (fun Q' hQ' => next_spec (Wg.keeps F3.keep) hB0 (St3.at F3 N3) (by decide) (by decide) rfl (by show Ad + 1 + 2 < recursionLimit; omega) fun k t h' tk a1 a2 a3 a4 => hQ' _ _ _ _ a3 (a4 (by omega)) ⟨k, t, rfl, a1, a2, rfl⟩) ?_
    rintro r h4 tk4 tl4 t4 n4 at4 F4 N4 St4 sub4 off4 k4 - ⟨kk, tk9, rfl, w2, w3, rfl⟩
    have hlen : vs.length = 7 := a3.length.trans rfl
    obtain ⟨v, hv⟩ : ∃ v, vs[kk.toNat]? = some v := ⟨_, List.getElem?_eq_getElem (by omega)⟩
    obtain ⟨x, hx⟩ : ∃ x, (plains.map Doc.atom)[kk.toNat]? = some x := ⟨_, List.getElem?_eq_getElem (by show _ < 7; omega)⟩
    have hd := a3.get hv hx
    have hl4 : h4.IsList la vs.toArray := lobj_list (N4.get (List.mem_cons_of_mem _ (sub4 _ (List.mem_cons_of_mem _ List.mem_cons_self) hlas (by simp))))
    k_steps
    refine item_doc hl4 w2 (by omega) hv ?_ (by with_unfolding_all rfl)
    obtain ⟨a, ha, rfl⟩ := List.mem_map.mp (List.mem_of_getElem? hx)
    k_steps
    exact hQ v (.atom a) h4 _ _ (hd.mono fun _ _ h _ => h.elim) ha (Nat.zero_le _) (fun b o hb e => F4.keep b o (hin b o hb e)) (St4.at F4 N4) (by omega) (by omega)
  · rename Fr _ _ _ _ => F8
    rename News _ _ _ _ => N8
    rename_i d0 _ o0 lo0 hs0 _ _ _ l10 _
    have dD0 := allLt_mem l10.2 _ cD
    have dS0 := allLt_mem l10.2 _ cS
    obtain ⟨n, rfl⟩ : ∃ k, n = k + 1 := ⟨n - 1, by omega⟩
    have c0 : cost (n + 1) = 5 + 3 * cost n := rfl
    have cp0 := cost_pos n
    have hd0 := N8 _ List.mem_cons_self
    have hsd : d0 ≠ sa := Nat.ne_of_gt l10.1
    have St8 : Sta g ((d0, o0) :: (sa, lobj [.ref na, .int (at_ + 1) t2] n2) :: tl) sa na nums (at_ + 1) := ⟨⟨_, _, List.mem_cons_of_mem _ List.mem_cons_self⟩, St.nl, St.ne, St.len, St.len2, St.low, St.high, St.at0, St.at1⟩
    refine wpAny_For ?_
    ktr_unf
    refine st_walk (R := fun _ _ r at' => ∃ k t, r = .int k t ∧ 0 ≤ k ∧ k < 3 ∧ at' = at_ + 1 + 1) F8 N8 St8 [d0] (fun Q' hQ' => next_spec (Wg.keeps F8.keep) hB0 (St8.at F8 N8) (by decide) (by decide) rfl (by show Ad + 1 + 2 < recursionLimit; omega) fun k t h' tk a1 a2 a3 a4 => hQ' _ _ _ _ a3 (a4 (by omega)) ⟨k, t, rfl, a1, a2, rfl⟩) ?_
    rintro r h3 tk3 tl3 t3 n3 at3 F3 N3 St3 sub3 off3 k3 - ⟨kk, tk9, rfl, w2, w3, rfl⟩
    have cD3 : (L' + 1 + 1, oD) ∈ tl3 := sub3 _ (by simp [cD]) (neA (by omega)) (by simp; exact Nat.ne_of_lt dD0)
    have cS3 : (L' + 1, oS) ∈ tl3 := sub3 _ (by simp [cS]) (neA (by omega)) (by simp; exact Nat.ne_of_lt dS0)
    have hd3 := k3 _ _ hsd hd0.1
    clear F8 N8
    ktr_unf
    rename IsRange _ _ _ _ _ _ _ _ => hR
    rename Fr _ _ _ _ => F4
    rename News _ _ _ _ => N4
    obtain ⟨n0, hn0⟩ : ∃ n0 : Nat, (1 + kk) = (n0 : Int) := ⟨(1 + kk).toNat, by omega⟩
    have hn03 : n0 ≤ 3 := by omega
    rw [hn0] at hR
    have hrs : Builtin.Range.rangeSize 0 (n0 : Int) 1 = (n0 : Int) := by
      have : n0 = 0 ∨ n0 = 1 ∨ n0 = 2 ∨ n0 = 3 := by omega
      rcases this with rfl | rfl | rfl | rfl <;> decide
    refine wpAny_pyIter_range hR (by
      have : n0 = 0 ∨ n0 = 1 ∨ n0 = 2 ∨ n0 = 3 := by omega
      rcases this with rfl | rfl | rfl | rfl <;> decide) ?_
    rw [hrs]
    rename_i h4 _ _ _ _ k4
    have hIg : g.get? h4.objs.size = none := next_is_new F4
    have hIL : h4.objs.size ≠ L' := Nat.ne_of_gt F4.ns.lt
    have hId : h4.objs.size ≠ d0 := Nat.ne_of_gt (Heap.lt_size (k4 _ _ hd3))
    have hIs : h4.objs.size ≠ sa := Nat.ne_of_gt (Heap.lt_size (N4.get List.mem_cons_self))
    have cn2 := cost_pos n
    generalize hIeq : h4.objs.size = I at *
    refine forM F4 (fun m0 => DInv Challenge.rw_ez0233_01.row.prog w s g L' I d0 sa na nums (L' + 1 + 1) (L' + 1) oD oS n0 n (at_ + 2) (cost n) m0) ?turn (n0 + 1) ?init
    case init =>
      have kp : ∀ b o, h4.get? b = some o → (h4.push { cls := .type "range_iterator", data := .fields #[rawInt 0, rawInt (n0 : Int), rawInt 1] }).get? b = some o := fun b o e => Heap.get?_push_of_some _ e
      have hnew : (h4.push { cls := .type "range_iterator", data := .fields #[rawInt 0, rawInt (n0 : Int), rawInt 1] }).get? I = some { cls := .type "range_iterator", data := .fields #[rawInt 0, rawInt (n0 : Int), rawInt 1] } := by rw [← hIeq]; exact Heap.get?_push_size _ rfl
      have NN : News g L' (h4.push { cls := .type "range_iterator", data := .fields #[rawInt 0, rawInt (n0 : Int), rawInt 1] }) ((sa, lobj [.ref na, .int (at_ + 1 + 1) t3] n3) :: (d0, o0) :: (I, { cls := .type "range_iterator", data := .fields #[rawInt 0, rawInt (n0 : Int), rawInt 1] }) :: tl3) := fun p hp => by
        rcases List.mem_cons.mp hp with rfl | hp
        · have z := N4 _ List.mem_cons_self; exact ⟨kp _ _ z.1, z.2⟩
        · rcases List.mem_cons.mp hp with rfl | hp
          · exact ⟨kp _ _ (k4 _ _ hd3), hd0.2⟩
          · rcases List.mem_cons.mp hp with rfl | hp
            · exact ⟨hnew, hIL, hIg⟩
            · have z := N4 _ (List.mem_cons_of_mem _ hp); exact ⟨kp _ _ z.1, z.2⟩
      have F5 := fr_turn (k := Str.ofString "turn") (F4.keeps kp)
      have off0 : ∀ p ∈ tl3, p.1 ≠ sa ∧ p.1 ∉ [d0, I] := fun p hp => by
        have z := off3 p hp
        refine ⟨z.1, ?_⟩
        simp only [List.mem_cons, List.not_mem_nil, or_false, not_or] at z ⊢
        exact ⟨z.2, fun q => by have := Heap.lt_size (N4 p (List.mem_cons_of_mem _ hp)).1; rw [q, hIeq] at this; exact Nat.lt_irrefl _ this⟩
      exact ⟨_, _, 0, _, tl3, t3, n3, o0, _, [], [], at_ + 1 + 1, rfl, Nat.zero_le _, by omega, by simpa using hnew, F5, NN, ⟨⟨_, _, List.mem_cons_self⟩, St3.nl, St3.ne, St3.len, St3.len2, St3.low, St3.high, St3.at0, St3.at1⟩, off0, cD3, cS3,
        (let ⟨es, ep, r1, r2, r3, r4, r5⟩ := hs0; ⟨r1, es, ep, r2, r3, r4, r5⟩), .nil, (fun p hp => nomatch hp), by omega, by have := bnd0 (Int.le_trans (by decide) cn2) 0; omega⟩
    case turn =>
      rintro j s' ⟨h', tk, i, T, tl, t', n', od, oI, kvs, es, at', rfl, hi, rfl, hit, F, N, Sa, off, cD, cS, hod, hkv, hes, b0, b1⟩
      by_cases hlt : i < n0
      · refine (Walks.range (prog := Challenge.rw_ez0233_01.row.prog) (w := w) rfl I 0 1 n0).item i _ _ _ hlt hit fun v h₁ tk₁ hPv hst₁ hk₁ => ?_
        have bi := bnd_mono (c := cost n) (by omega) (show i + 1 ≤ 3 by omega)
        have bi0 : bnd (cost n) (i + 1) = bnd (cost n) i + 1 + cost n := rfl
        have b3 := bnd3 (cost n)
        obtain ⟨tv, rfl⟩ := hPv
        have kI : ∀ b o, b ≠ I → h'.get? b = some o → h₁.get? b = some o := fun b o hb e => hk₁ b o (by simpa using hb) e
        have F1 := fr_one F (Ne.symm hIL) hIg kI
        obtain ⟨oI1, hI1⟩ : ∃ o, h₁.get? I = some o := ⟨_, hst₁⟩
        have N1 : News g L' h₁ ((sa, lobj [.ref na, .int at' t'] n') :: (d0, od) :: (I, oI1) :: tl) := fun p hp => by
          rcases List.mem_cons.mp hp with rfl | hp
          · have z := N _ List.mem_cons_self; exact ⟨kI _ _ (Ne.symm hIs) z.1, z.2⟩
          · rcases List.mem_cons.mp hp with rfl | hp
            · have z := N _ (List.mem_cons_of_mem _ List.mem_cons_self); exact ⟨kI _ _ (Ne.symm hId) z.1, z.2⟩
            · rcases List.mem_cons.mp hp with rfl | hp
              · exact ⟨hI1, hIL, hIg⟩
              · have z := N _ (List.mem_cons_of_mem _ (List.mem_cons_of_mem _ (List.mem_cons_of_mem _ hp)))
                exact ⟨kI _ _ (fun q => (off p hp).2 (by simp [q])) z.1, z.2⟩
        have Sa1 : Sta g ((sa, lobj [.ref na, .int at' t'] n') :: (d0, od) :: (I, oI1) :: tl) sa na nums at' := ⟨⟨_, _, List.mem_cons_self⟩, Sa.nl, Sa.ne, Sa.len, Sa.len2, Sa.low, Sa.high, Sa.at0, Sa.at1⟩
        clear F N Sa
        dsimp only
        ktr_unf
        rename Fr _ _ _ _ => F2
        rename News _ _ _ _ => N2
        refine st_walk (R := fun hp hq r at2 => ∃ d, DocIn Challenge.rw_ez0233_01.row.prog w (fun a o => hp.get? a = none ∧ hq.get? a = some o) r d ∧ clean d ∧ dep d ≤ n ∧ at' ≤ at2 ∧ at2 ≤ at' + cost n) F2 N2 Sa1 [d0, I] (fun Q' hQ' => IH n (Nat.lt_succ_self n) _ _ sa na nums at' _ _ Q' _ (Wg.keeps F2.keep) hB0 (Sa1.at F2 N2) (by omega) (by omega) rfl (by show Ad + 1 + 3 * n + 10 < recursionLimit; omega) (by show Au + _ + 10 * n + 60 < cLine; omega) fun r d h' tk at2 a1 a2 a3 a4 a5 a6 a7 => hQ' _ _ _ _ a4 a5 ⟨d, a1, a2, a3, a6, a7⟩) ?_
        rintro r h6 tk6 tl6 t6 n6 at6 F6 N6 Sa6 sub6 off6 k6 fresh6 ⟨d, hr, hcl, hdp, hlo, hhi⟩
        have hd2 := N2 _ (List.mem_cons_of_mem _ List.mem_cons_self)
        have hI2 := N2 _ (List.mem_cons_of_mem _ (List.mem_cons_of_mem _ List.mem_cons_self))
        have hs2 := N2 _ List.mem_cons_self
        have old2 := was_none F2 N2 List.mem_cons_self hin
        have N6' : News g L' h6 ((sa, lobj [.ref na, .int at6 t6] n6) :: (d0, od) :: (I, oI1) :: tl6) := fun p hp => by
          rcases List.mem_cons.mp hp with rfl | hp
          · exact N6 _ List.mem_cons_self
          · rcases List.mem_cons.mp hp with rfl | hp
            · exact ⟨k6 _ _ hsd hd2.1, hd2.2⟩
            · rcases List.mem_cons.mp hp with rfl | hp
              · exact ⟨k6 _ _ hIs hI2.1, hI2.2⟩
              · exact N6 _ (List.mem_cons_of_mem _ hp)
        have Sa6' : Sta g ((sa, lobj [.ref na, .int at6 t6] n6) :: (d0, od) :: (I, oI1) :: tl6) sa na nums at6 := ⟨⟨_, _, List.mem_cons_self⟩, Sa6.nl, Sa6.ne, Sa6.len, Sa6.len2, Sa6.low, Sa6.high, Sa6.at0, Sa6.at1⟩
        have cD6 : (L' + 1 + 1, oD) ∈ tl6 := sub6 _ (by simp [cD]) (off _ cD).1 (off _ cD).2
        have cS6 : (L' + 1, oS) ∈ tl6 := sub6 _ (by simp [cS]) (off _ cS).1 (off _ cS).2
        have hr6 : DocIn Challenge.rw_ez0233_01.row.prog w (fun a o => s.heap.get? a = none ∧ (a, o) ∈ tl6) r d := hr.mono fun a o ⟨e1, e2⟩ _ => ⟨old2 a e1, fresh6 a o e1 (by
            simp only [List.mem_cons, List.not_mem_nil, or_false, not_or]
            exact ⟨fun q => (by dsimp only at e1; rw [q, hd2.1] at e1; cases e1), fun q => (by dsimp only at e1; rw [q, hI2.1] at e1; cases e1)⟩) e2⟩
        have hkv6 : KvsIn Challenge.rw_ez0233_01.row.prog w (fun a o => s.heap.get? a = none ∧ (a, o) ∈ tl6) kvs es := hkv.mono fun a o ⟨e1, e2⟩ _ => ⟨e1, sub6 _ (by simp [e2]) (off _ e2).1 (off _ e2).2⟩
        clear N2 F2 N6 Sa6 Sa1
        ktr_unf
        refine st_walk (R := fun _ _ r at' => ∃ k t, r = .int k t ∧ 0 ≤ k ∧ k < 3 ∧ at' = at6 + 1) F6 N6' Sa6' [d0, I] (fun Q' hQ' => next_spec (Wg.keeps F6.keep) hB0 (Sa6'.at F6 N6') (by decide) (by decide) rfl (by show Ad + 1 + 2 < recursionLimit; omega) fun k t h' tk a1 a2 a3 a4 => hQ' _ _ _ _ a3 (a4 (by omega)) ⟨k, t, rfl, a1, a2, rfl⟩) ?_
        rintro r h7 tk7 tl7 t7 n7 at7 F7 N7 Sa7 sub7 off7 k7 - ⟨kx, tkx, rfl, x2, x3, rfl⟩
        have N7' : News g L' h7 ((sa, lobj [.ref na, .int (at6 + 1) t7] n7) :: (d0, od) :: (I, oI1) :: tl7) := fun p hp => by
          rcases List.mem_cons.mp hp with rfl | hp
          · exact N7 _ List.mem_cons_self
          · rcases List.mem_cons.mp hp with rfl | hp
            · exact ⟨k7 _ _ hsd (N6' _ (List.mem_cons_of_mem _ List.mem_cons_self)).1, hd2.2⟩
            · rcases List.mem_cons.mp hp with rfl | hp
              · exact ⟨k7 _ _ hIs (N6' _ (List.mem_cons_of_mem _ (List.mem_cons_of_mem _ List.mem_cons_self))).1, hI2.2⟩
              · exact N7 _ (List.mem_cons_of_mem _ hp)
        have cD7 : (L' + 1 + 1, oD) ∈ tl7 := sub7 _ (by simp [cD6]) (off6 _ cD6).1 (off6 _ cD6).2
        have cS7 : (L' + 1, oS) ∈ tl7 := sub7 _ (by simp [cS6]) (off6 _ cS6).1 (off6 _ cS6).2
        have hr7 : DocIn Challenge.rw_ez0233_01.row.prog w (fun a o => s.heap.get? a = none ∧ (a, o) ∈ tl7) r d := hr6.mono fun a o ⟨e1, e2⟩ _ => ⟨e1, sub7 _ (by simp [e2]) (off6 _ e2).1 (off6 _ e2).2⟩
        have hkv7 : KvsIn Challenge.rw_ez0233_01.row.prog w (fun a o => s.heap.get? a = none ∧ (a, o) ∈ tl7) kvs es := hkv6.mono fun a o ⟨e1, e2⟩ _ => ⟨e1, sub7 _ (by simp [e2]) (off6 _ e2).1 (off6 _ e2).2⟩
        clear N6' F6 N7 Sa6'
        have offI : ∀ p ∈ (I, oI1) :: tl7, p.1 ≠ d0 := fun p hp => by
          rcases List.mem_cons.mp hp with rfl | hp
          · exact hId
          · exact fun q => (off7 p hp).2 (by simp [q])
        have hky : ∀ k ∈ kvs.map (·.1), k ∈ keyz := fun k hk => by
          rw [hkv.keys] at hk
          obtain ⟨p, hp, rfl⟩ := List.mem_map.mp hk
          exact (hes p hp).1
        have hst7 : IsRangeIter h7 I (0 + ((i + 1 : Nat) : Int) * 1) ((n0 : Int) - ((i + 1 : Nat) : Int)) 1 := by
          rw [IsRangeIter] at hst₁ ⊢
          rw [(N7' _ (List.mem_cons_of_mem _ (List.mem_cons_of_mem _ List.mem_cons_self))).1, ← hI1, hst₁]
        have fin7 : ∀ (h8 : Heap) (od8 : Obj) (tk8 : Nat) (T8 : Option Value) (m0 : Str → Option Value) (k : Str), k ∈ keyz → Fr g L' h8 (fun y => if y = Str.ofString "turn" then T8 else m0 y) → News g L' h8 ((sa, lobj [.ref na, .int (at6 + 1) t7] n7) :: (d0, od8) :: (I, oI1) :: tl7) → dobj Challenge.rw_ez0233_01.row.prog w od8 (stored kvs k r) →
            DInv Challenge.rw_ez0233_01.row.prog w s g L' I d0 sa na nums (L' + 1 + 1) (L' + 1) oD oS n0 n (at_ + 2) (cost n) m0 (n0 + 1 - (i + 1)) { s with heap := h8, toks := tk8 } := fun h8 od8 tk8 T8 m0 k hk F8 N8 D8 =>
          ⟨h8, tk8, i + 1, T8, tl7, t7, n7, od8, oI1, _, _, at6 + 1, rfl, hlt, rfl, by
            rw [IsRangeIter] at hst7 ⊢; rw [(N8 _ (List.mem_cons_of_mem _ (List.mem_cons_of_mem _ List.mem_cons_self))).1, ← hst7, (N7' _ (List.mem_cons_of_mem _ (List.mem_cons_of_mem _ List.mem_cons_self))).1], F8, N8, ⟨⟨_, _, List.mem_cons_self⟩, Sa7.nl, Sa7.ne, Sa7.len, Sa7.len2, Sa7.low, Sa7.high, Sa7.at0, Sa7.at1⟩, off7, cD7, cS7, D8, hkv7.stored hr7, fun p hp => (storedD_mem p hp).elim (hes p) (fun e => by rw [e]; exact ⟨hk, hcl, hdp⟩), by omega, by omega⟩
        have hk3 : kx = 0 ∨ kx = 1 ∨ kx = 2 := by omega
        rcases hk3 with rfl | rfl | rfl
        · ktr_unf
          refine set_step F7 N7' hsd offI hod hky fun h8 od8 F8 N8 D8 => ?_
          clear F7 N7'
          ktr_unf
          rotate_left 2
          exact (n0 + 1 - (i + 1))
          · omega
          · exact fin7 _ _ _ _ _ _ (by decide) (fr_turn2 F8) N8 D8
        · ktr_unf
          refine set_step F7 N7' hsd offI hod hky fun h8 od8 F8 N8 D8 => ?_
          clear F7 N7'
          ktr_unf
          rotate_left 2
          exact (n0 + 1 - (i + 1))
          · omega
          · exact fin7 _ _ _ _ _ _ (by decide) (fr_turn2 F8) N8 D8
        · ktr_unf
          refine set_step F7 N7' hsd offI hod hky fun h8 od8 F8 N8 D8 => ?_
          clear F7 N7'
          ktr_unf
          rotate_left 2
          exact (n0 + 1 - (i + 1))
          · omega
          · exact fin7 _ _ _ _ _ _ (by decide) (fr_turn2 F8) N8 D8
      · obtain rfl : i = n0 := by omega
        refine (Walks.range (prog := Challenge.rw_ez0233_01.row.prog) (w := w) rfl I 0 1 i).done _ _ _ hit fun h9 tk9 k9 => ?_
        have bi := bnd_mono (c := cost n) (by omega) (show i ≤ 3 by omega)
        have b3 := bnd3 (cost n)
        have kI : ∀ b o, b ≠ I → h'.get? b = some o → h9.get? b = some o := fun b o hb e => k9 b o (by simpa using hb) e
        have F1 := fr_one F (Ne.symm hIL) hIg kI
        have zs := N _ List.mem_cons_self
        have zd := N _ (List.mem_cons_of_mem _ List.mem_cons_self)
        have N1 : News g L' h9 ((sa, lobj [.ref na, .int at' t'] n') :: (d0, od) :: tl) := fun p hp => by
          rcases List.mem_cons.mp hp with rfl | hp
          · exact ⟨kI _ _ (Ne.symm hIs) zs.1, zs.2⟩
          · rcases List.mem_cons.mp hp with rfl | hp
            · exact ⟨kI _ _ (Ne.symm hId) zd.1, zd.2⟩
            · have z := N _ (List.mem_cons_of_mem _ (List.mem_cons_of_mem _ (List.mem_cons_of_mem _ hp)))
              exact ⟨kI _ _ (fun q => (off p hp).2 (by simp [q])) z.1, z.2⟩
        have Sa1 : Sta g ((sa, lobj [.ref na, .int at' t'] n') :: (d0, od) :: tl) sa na nums at' := ⟨⟨_, _, List.mem_cons_self⟩, Sa.nl, Sa.ne, Sa.len, Sa.len2, Sa.low, Sa.high, Sa.at0, Sa.at1⟩
        have hnod : (es.map (·.1)).Nodup := by rw [← hkv.keys]; obtain ⟨_, _, _, _, _, _, z⟩ := hod; exact z
        have fresh : s.heap.get? d0 = none := by
          cases q : s.heap.get? d0 with
          | none => rfl
          | some o' => have := zd.2.2; dsimp only at this; rw [hin _ _ hsd q] at this; cases this
        have kpg : ∀ b o, b ≠ sa → s.heap.get? b = some o → h9.get? b = some o := fun b o hb e => F1.keep b o (hin b o hb e)
        clear F N
        dsimp only
        ktr_unf
        exact hQ (.ref d0) (.dict es) h9 _ at' (.dict ⟨fresh, N1.get (List.mem_cons_of_mem _ List.mem_cons_self)⟩ lo0 hod (hkv.mono fun a o ⟨e1, e2⟩ _ => ⟨e1, N1.get (List.mem_cons_of_mem _ (List.mem_cons_of_mem _ e2))⟩))
          ⟨hnod, cleanK_iff.mpr fun p hp => ⟨(hes p hp).1, (hes p hp).2.1⟩⟩ (Nat.succ_le_succ (depK_le fun p hp => (hes p hp).2.2)) kpg (Sa1.at F1 N1) (by omega) (by omega)
  · rename Fr _ _ _ _ => F8
    rename News _ _ _ _ => N8
    obtain ⟨n, rfl⟩ : ∃ k, n = k + 1 := ⟨n - 1, by omega⟩
    have c0 : cost (n + 1) = 5 + 3 * cost n := rfl
    have cp0 := cost_pos n
    ktr_unf
    refine LCg.ListComp_U (F₀ := F8) (by rfl) (by decide) (by rfl) (by decide) (by rfl) ?_
    ktr_unf
    refine st_walk (R := fun _ _ r at' => ∃ k t, r = .int k t ∧ 0 ≤ k ∧ k < 3 ∧ at' = at_ + 1 + 1) F8 N8 St [] (fun Q' hQ' => next_spec (Wg.keeps F8.keep) hB0 (St.at F8 N8) (by decide) (by decide) rfl (by show Ad + 1 + 2 < recursionLimit; omega) fun k t h' tk a1 a2 a3 a4 => hQ' _ _ _ _ a3 (a4 (by omega)) ⟨k, t, rfl, a1, a2, rfl⟩) ?_
    rintro r h3 tk3 tl3 t3 n3 at3 F3 N3 St3 sub3 off3 k3 - ⟨kk, tk9, rfl, w2, w3, rfl⟩
    have cD3 : (L' + 1 + 1, oD) ∈ tl3 := sub3 _ (by simp [cD]) (neA (by omega)) (by simp)
    have cS3 : (L' + 1, oS) ∈ tl3 := sub3 _ (by simp [cS]) (neA (by omega)) (by simp)
    clear F8 N8
    ktr_unf
    rename IsRange _ _ _ _ _ _ _ _ => hR
    rename Fr _ _ _ _ => F4
    rename News _ _ _ _ => N4
    have hn03 : ∃ n0 : Nat, (1 + kk) = (n0 : Int) ∧ n0 ≤ 3 := ⟨(1 + kk).toNat, by omega, by omega⟩
    obtain ⟨n0, hn0, hn03⟩ := hn03
    rw [hn0] at hR
    have hc3 : n0 = 0 ∨ n0 = 1 ∨ n0 = 2 ∨ n0 = 3 := by omega
    refine LCg.CompSrc.range (n := n0) (by rfl) F4 N4 hR (by rcases hc3 with rfl | rfl | rfl | rfl <;> decide) (by rcases hc3 with rfl | rfl | rfl | rfl <;> decide) (Nat.le_trans hn03 (by decide)) ?_
    intro g'
    have St4 := St3
    have b3 := bnd3 (cost n)
    suffices key : ∀ (k i : Nat) (ys : List Value) (ds : List Doc) (t' : Tok) (n' : Nat) (at' : Int) (tl : List (Addr × Obj)), i + k = n0 → ds.length = i → Sta g ((sa, lobj [.ref na, .int at' t'] n') :: tl) sa na nums at' → (∀ p ∈ tl, p.1 ≠ sa) → (L' + 1 + 1, oD) ∈ tl → (L' + 1, oS) ∈ tl →
        DocsIn Challenge.rw_ez0233_01.row.prog w (fun a o => s.heap.get? a = none ∧ (a, o) ∈ tl) ys ds → (∀ d ∈ ds, clean d ∧ dep d ≤ n) → at_ + 2 ≤ at' → at' ≤ at_ + 2 + bnd (cost n) i →
        LCg.CompRest _ _ _ _ _ _ _ _ _ _ _ _ (fun _ => True) _ _ k i ys ((sa, lobj [.ref na, .int at' t'] n') :: tl) from
      key n0 0 [] [] t3 n3 _ tl3 (by omega) rfl St3 (fun p hp => (off3 p hp).1) cD3 cS3 .nil (fun d hd => nomatch hd) (by omega) (by have := bnd0 (Int.le_trans (by decide) cp0) 0; omega)
    clear N4 F4 St3 St4
    intro k
    induction k with
    | zero =>
      intro i ys ds t' n' at' tl hi hdl Sa off cD cS hys hds b0 b1
      refine LCg.CompRest.zero ?_
      intro D h tk F N o1
      have fresh : s.heap.get? D = none := by
        have z := N _ List.mem_cons_self
        have hDs : D ≠ sa := fun q => (o1.1 : ¬ _) q.symm
        cases q : s.heap.get? D with
        | none => rfl
        | some o' => have := z.2.2; dsimp only at this; rw [hin _ _ hDs q] at this; cases this
      have bi := bnd_mono (c := cost n) (by omega) (show i ≤ 3 by omega)
      exact hQ (.ref D) (.list ds) h _ at' (.list ⟨fresh, N.get List.mem_cons_self⟩ (hys.mono fun a o ⟨e1, e2⟩ _ => ⟨e1, N.get (List.mem_cons_of_mem _ (List.mem_cons_of_mem _ e2))⟩))
          ⟨by omega, cleanL_iff.mpr fun d hd => (hds d hd).1⟩ (Nat.succ_le_succ (depL_le fun d hd => (hds d hd).2)) (fun b o hb e => F.keep b o (hin b o hb e)) (Sa.at F fun p hp => N p (List.mem_cons_of_mem _ hp)) (by omega) (by omega)
    | succ k ih =>
      intro i ys ds t' n' at' tl hi hdl Sa off cD cS hys hds b0 b1
      refine LCg.CompRest.succ ?_
      intro v I oI C oC D m₂ h₁ tk₁ E' hP hC hx F N off3' ne
      have bi := bnd_mono (c := cost n) (by omega) (show i + 1 ≤ 3 by omega)
      have bi0 : bnd (cost n) (i + 1) = bnd (cost n) i + 1 + cost n := rfl
      have o3 := off3'.mem
      have osa := o3 _ List.mem_cons_self
      have Sa1 : Sta g ((I, oI) :: (C, oC) :: (D, LCg.lst ys) :: (sa, lobj [.ref na, .int at' t'] n') :: tl) sa na nums at' := ⟨⟨_, _, List.mem_cons_of_mem _ (List.mem_cons_of_mem _ (List.mem_cons_of_mem _ List.mem_cons_self))⟩, Sa.nl, Sa.ne, Sa.len, Sa.len2, Sa.low, Sa.high, Sa.at0, Sa.at1⟩
      ktr_unf
      refine st_walk (R := fun hp hq r at2 => ∃ d, DocIn Challenge.rw_ez0233_01.row.prog w (fun a o => hp.get? a = none ∧ hq.get? a = some o) r d ∧ clean d ∧ dep d ≤ n ∧ at' ≤ at2 ∧ at2 ≤ at' + cost n) F N Sa1 [I, C, D] (fun Q' hQ' => IH n (Nat.lt_succ_self n) _ _ sa na nums at' _ _ Q' _ (Wg.keeps F.keep) hB0 (Sa1.at F N) (by omega) (by omega) rfl (by show Ad + 1 + 3 * n + 10 < recursionLimit; omega) (by show Au + _ + 10 * n + 60 < cLine; omega) fun r d h' tk at2 a1 a2 a3 a4 a5 a6 a7 => hQ' _ _ _ _ a4 a5 ⟨d, a1, a2, a3, a6, a7⟩) ?_
      rintro r h6 tk6 tl6 t6 n6 at6 F6 N6 Sa6 sub6 off6 k6 fresh6 ⟨d, hr, hcl, hdp, hlo, hhi⟩
      have zI := N _ List.mem_cons_self
      have zC := N _ (List.mem_cons_of_mem _ List.mem_cons_self)
      have zD := N _ (List.mem_cons_of_mem _ (List.mem_cons_of_mem _ List.mem_cons_self))
      have zs := N _ (List.mem_cons_of_mem _ (List.mem_cons_of_mem _ (List.mem_cons_of_mem _ List.mem_cons_self)))
      have old2 := was_none F N (List.mem_cons_of_mem _ (List.mem_cons_of_mem _ (List.mem_cons_of_mem _ List.mem_cons_self))) hin
      have off6' : ∀ p ∈ tl6, p.1 ≠ sa ∧ p.1 ≠ I ∧ p.1 ≠ C ∧ p.1 ≠ D := fun p hp => by
        have z := off6 p hp
        simpa only [List.mem_cons, List.not_mem_nil, or_false, not_or] using z
      have N6' : News g L' h6 ((I, oI) :: (C, oC) :: (D, LCg.lst ys) :: (sa, lobj [.ref na, .int at6 t6] n6) :: tl6) := fun p hp => by
        rcases List.mem_cons.mp hp with rfl | hp
        · exact ⟨k6 _ _ (Ne.symm osa.1) zI.1, zI.2⟩
        · rcases List.mem_cons.mp hp with rfl | hp
          · exact ⟨k6 _ _ (Ne.symm osa.2.1) zC.1, zC.2⟩
          · rcases List.mem_cons.mp hp with rfl | hp
            · exact ⟨k6 _ _ (Ne.symm osa.2.2) zD.1, zD.2⟩
            · exact N6 _ hp
      have sub6' : ∀ p ∈ tl, p ∈ tl6 := fun p hp => sub6 p (by simp [hp]) (off p hp) (by
        have z := o3 p (List.mem_cons_of_mem _ hp)
        simp only [List.mem_cons, List.not_mem_nil, or_false, not_or]
        exact z)
      refine LCg.CompEnd.intro F6 N6' _ (fun p hp => hp) (off3_of fun p hp => ?_) trivial ?_
      · rcases List.mem_cons.mp hp with rfl | hp
        · exact osa
        · exact (off6' p hp).2
      · refine ih (i + 1) (ys ++ [r]) (ds ++ [d]) t6 n6 at6 tl6 (by omega) (by simp [hdl]) Sa6 (fun p hp => (off6' p hp).1) (sub6' _ cD) (sub6' _ cS) ((hys.mono fun a o ⟨e1, e2⟩ _ => ⟨e1, sub6' _ e2⟩).append (.cons (hr.mono fun a o ⟨e1, e2⟩ _ => ⟨old2 a e1, fresh6 a o e1 (by
            simp only [List.mem_cons, List.not_mem_nil, or_false, not_or]
            refine ⟨fun q => ?_, fun q => ?_, fun q => ?_⟩
            · dsimp only at zI e1; rw [q, zI.1] at e1; cases e1
            · dsimp only at zC e1; rw [q, zC.1] at e1; cases e1
            · dsimp only at zD e1; rw [q, zD.1] at e1; cases e1) e2⟩) .nil)) (fun d' hd' => ?_) (by omega) (by omega)
        rcases List.mem_append.mp hd' with h | h
        · exact hds d' h
        · rw [List.mem_singleton.mp h]; exact ⟨hcl, hdp⟩
theorem doc_spec (n : Nat) : DocP w mean mg mb hB n := Nat.strongRecOn n fun n ih => doc_step n ih
end Mine
end
section
open PySem PySem.W PySem.Spec PySem.Calls PyProof.Rows
set_option Elab.async false
set_option maxRecDepth 100000
set_option maxHeartbeats 2000000
namespace Mine
section
variable {prog : Program} {w : World} {A : Around} {E : Value → Shared → Prop} {s : Shared}
theorem list_keys_none : typeLookup (.type "list") "keys" = pure none := by rw [typeLookup_type, builtinLookup_eq_fast]; kernel_rfl
theorem miss_keys {a : Addr} {vs : List Value} {n : Nat} {Q : Option Value → Shared → Prop} (hx : s.heap.get? a = some (lobj vs n)) (hA : A.handled = none)
    (h : ∀ h' tk, (∀ b o, s.heap.get? b = some o → h'.get? b = some o) → Q none { s with heap := h', toks := tk }) :
    wpAny (model prog w) A (getAttr? (.ref a) "keys") Q E s := by
  obtain ⟨hp, g, d, tk, os⟩ := s
  have hT : ∀ tk', (⟨hp, g, d, tk', os⟩ : Shared).TypeIs (.ref a) "list" := fun _ => ⟨_, hx, rfl⟩
  have f1 := sub_AttributeError
  have f3 := PySem.F.slot_list_getattribute.lookup
  have f4 := PySem.F.slot_list_getattribute.bind (.ref a)
  have f5 := am_list_getattr_none
  unfold getAttr? getAttrBy? getAttrBy
  repeat (any_goals (first | assumption | exact hT _ | ((with_reducible show wpAny _ _ (call (Value.builtin "list.__getattribute__") _ _) _ _ _); refine call_meets PySem.F.slot_list_getattribute (hT _) am_entry_list_getattribute (PySem.F.args_list_getattribute_2 _ _) (meets_getattribute_miss_list a vs.toArray n #[] "keys" _ list_keys_none (by decide +kernel)) ⟨hx, hA, fun h' tk' e hx' => ?_⟩) | wp_step))
  obtain ⟨t', u', he⟩ := hx'.there
  have kp := hx'.keeps
  show wpAny _ _ (getattributeRaised _ _ _ _ _ _ _) _ _ _
  unfold getattributeRaised
  repeat (any_goals (first | assumption | wp_step))
  exact h _ _ kp
theorem ne_dict {a b : Addr} {kvs : List (Str × Value)} {Q : Value → Shared → Prop} (ha : (a == sysModules) = false) (hb : (b == sysModules) = false)
    (da : s.heap.DictOf (PySem.strKind prog w) a kvs) (db : s.heap.DictOf (PySem.strKind prog w) b []) (hu : A.units < cLine) (h : Q (.bool (!kvs.isEmpty)) s) :
    wpAny (model prog w) A (compareOp .NotEq (.ref a) (.ref b)) Q E s := by
  cases kvs with
  | nil => exact keq_ne (r := true) ha hb da db hu (fun _ => .nil) h
  | cons p r => exact keq_ne (r := true) ha hb da db hu (fun e => by cases e) h
theorem sort_strs {D : Addr} {n : Nat} {vs : List Value} {ss : List Str} {Q : Value → Shared → Prop} (ho : s.heap.get? D = some (lobj vs n)) (hS : StrsAre vs ss) (h64 : vs.length < 64)
    (h : ∀ h' vs' ss' c, (∀ b o, b ≠ D → s.heap.get? b = some o → h'.get? b = some o) → h'.get? D = some (lobj vs' c) → StrsAre vs' ss' → ss'.Perm ss → Q .none { s with heap := h' }) :
    wpAny (model prog w) A (call (.builtin "list.sort") [.ref D]) Q E s := by
  refine wpAny_call_entry PyProof.Rows.slot_list_sort ⟨_, ho, rfl⟩ PyProof.Rows.entry_list_sort (list_sort_treeK (κ := PyProof.Rows.strKind) (n := n) (vs := vs) strKind_oneLt ho hS.keysOf (fun v₁ v₂ rest e => keyKind_strs (by rw [← e]; exact hS)) h64 fun st' hp hs => ⟨.none, rfl, ?_⟩) (PyProof.Rows.args_list_sort _)
  obtain ⟨ss', h1, h2, h3⟩ := sorted_out_str hS hp hs
  obtain ⟨c, hc⟩ := sortedHeap_at (vs := vs) (out := (arrOf st').map (·.2)) ho
  exact h _ ((arrOf st').map (·.2)).toList ss' c (fun b o hb e => (sortedHeap_old hb (Heap.lt_size e)).trans e) hc h1 h2
/-- sorted of a dict whose keys are strs -/
theorem sorted_dict {h₀ : Heap} {L d : Addr} {m : Str → Option Value} {news : List (Addr × Obj)} {kvs : List (Str × Value)} {ep : Nat} {Q : Value → Shared → Prop} (lo : (d == sysModules) = false) (hh : A.handled = none) (F : Fr h₀ L s.heap m) (N : News h₀ L s.heap news)
    (hat : s.heap.DictAt (PySem.strKind prog w) d kvs ep) (hn : kvs.length < 64)
    (h : ∀ D h' tk vs c, Fr h₀ L h' m → News h₀ L h' ((D, lobj vs c) :: news) → (∀ q ∈ news, q.1 < D) → vs.length = kvs.length → (∀ v ∈ vs, ∃ k x t, (k, x) ∈ kvs ∧ v = .str k t) → Q (.ref D) { s with heap := h', toks := tk }) :
    wpAny (model prog w) A (call (.builtin "sorted") [.ref d]) Q E s := by
  refine kdu_sorted (kdl_dict (knd := PySem.strKind prog w) (kvs := kvs) (ep := ep) lo) hh F N hat (kdl_size (by omega)) fun D h' tk vs F' N' l1 hl hv => ?_
  have hvs : ∀ v ∈ vs, ∃ k x t, (k, x) ∈ kvs ∧ v = .str k t := fun v hv' => by
    obtain ⟨j, hj⟩ := List.mem_iff_getElem?.mp hv'
    obtain ⟨k, x, hx, hk⟩ := hv j v hj
    obtain ⟨t, rfl⟩ := Value.isStrOf_shape hk
    exact ⟨k, x, t, List.mem_of_getElem? hx, rfl⟩
  have hS := strsAre_map vs fun v hv' => by obtain ⟨k, x, t, _, e⟩ := hvs v hv'; exact ⟨k, t, e⟩
  have z := N' _ List.mem_cons_self
  refine sort_strs (s := { s with heap := h', toks := tk }) z.1 hS (by omega) fun h2 vs' ss' c k2 hD hS' hp => ?_
  have F2 : Fr h₀ L h2 m := fr_one F' (Ne.symm z.2.1) z.2.2 k2
  refine h D h2 _ vs' c F2 (fun p hp' => ?_) l1 ?_ ?_
  · rcases List.mem_cons.mp hp' with rfl | hp'
    · exact ⟨hD, z.2⟩
    · have y := N' p (List.mem_cons_of_mem _ hp')
      exact ⟨k2 _ _ (Nat.ne_of_lt (l1 p hp')) y.1, y.2⟩
  · rw [hS'.length, hp.length_eq, ← hl, hS.length]
  · intro v hv'
    obtain ⟨x, t, rfl⟩ := hS'.all v hv'
    have hx : x ∈ ss' := by rw [← hS'.strs]; exact List.mem_map.mpr ⟨_, hv', rfl⟩
    have hx2 := hp.mem_iff.mp hx
    obtain ⟨v0, hv0, e0⟩ := List.mem_map.mp hx2
    obtain ⟨k, y, t', hk, rfl⟩ := hvs v0 hv0
    cases e0
    exact ⟨_, y, t, hk, rfl⟩

theorem entry_upd_loop : entryFor table "dict.update.loop" = some Builtin.«dict.update.loop» := entryFor_of_tree (by kernel_rfl)
theorem plain_upd_loop : plainId "dict.update.loop" = true := by decide +kernel
theorem take_stored {kvs : List (Str × Value)} {i : Nat} {p : Str × Value} (hn : (kvs.map (·.1)).Nodup) (hx : kvs[i]? = some p) : stored (kvs.take i) p.1 p.2 = kvs.take (i + 1) := by
  have hi : i < kvs.length := by
    rcases Nat.lt_or_ge i kvs.length with q | q
    · exact q
    · rw [List.getElem?_eq_none q] at hx; cases hx
  have e : kvs[i] = p := by rw [List.getElem?_eq_getElem hi] at hx; exact Option.some.inj hx
  have hnot : ¬ ((kvs.take i).any fun kv => decide (kv.1 = p.1)) = true := by
    intro q
    obtain ⟨kv, hkv, he⟩ := List.any_eq_true.mp q
    have he := of_decide_eq_true he
    have e1 : kvs = kvs.take i ++ p :: kvs.drop (i + 1) := by rw [← e, ← List.drop_eq_getElem_cons hi, List.take_append_drop]
    rw [e1, List.map_append, List.nodup_append] at hn
    exact hn.2.2 kv.1 (List.mem_map.mpr ⟨kv, hkv, rfl⟩) p.1 (by simp) he
  rw [stored, if_neg hnot, List.take_add_one, hx]
  rfl
/-- between the turns of dict(pairs) -/
theorem upd_loop {I l d : Addr} {vs : List Value} {kvs : List (Str × Value)} {R : Result → Shared → Prop} {h₁ : Heap} (hh : A.handled = none) (hId : I ≠ d) (hIl : I ≠ l) (hdl : d ≠ l) (hl : h₁.IsList l vs.toArray) (hlen : vs.length = kvs.length) (hz : kvs.length < 64) (hn : (kvs.map (·.1)).Nodup)
    (hp : ∀ (j : Nat) (v : Value), vs[j]? = some v → ∃ a n t k x, v = .ref a ∧ a ≠ I ∧ a ≠ d ∧ kvs[j]? = some (k, x) ∧ h₁.get? a = some { cls := .type "tuple", data := .seq #[.str k t, x] n })
    (hR : ∀ h' tk, (∀ b o, b ≠ d → b ≠ I → h₁.get? b = some o → h'.get? b = some o) → h'.DictOf (PySem.strKind prog w) d kvs → R (.ok (.ret .none)) { s with heap := h', toks := tk }) :
    ∀ (k i : Nat) (h : Heap) (tk : Nat), i + k = kvs.length → h.IsListIter I l i → h.DictOf (PySem.strKind prog w) d (kvs.take i) → (∀ b o, b ≠ d → b ≠ I → h₁.get? b = some o → h.get? b = some o) →
      codeAny (model prog w) A (.builtin "dict.update.loop" ⟨[.ref d, .ref I, rawInt i, .none], []⟩) R { s with heap := h, toks := tk } := by
  intro k
  induction k with
  | zero =>
    intro i h tk hi hit hd hk
    have hl' : h.IsList l vs.toArray := let ⟨o, ho, r⟩ := hl; ⟨o, hk _ _ (Ne.symm hdl) (Ne.symm hIl) ho, r⟩
    refine codeAny_builtin entry_upd_loop ?_
    rw [Around.under_plainId plain_upd_loop _]
    unfold Builtin.«dict.update.loop»
    show wpAny _ A.in1 (pyNext (.ref I) >>= _) _ _ _
    refine wpAny_bind (wpAny_pyNext_list_end (s := { s with heap := h, toks := tk }) hh hit hl' (by simp; omega) fun h' e => ?_)
    show wpAny _ _ (Builtin.Dict.addKeywords d [] >>= _) _ _ _
    refine wpAny_bind (wpAny_pure (wpAny_pure (hR h' tk (fun b o hb hbI e1 => e b o hbI (hk b o hb hbI e1)) ?_)))
    rw [show kvs = kvs.take i by rw [List.take_of_length_le (by omega)]]
    exact hd.extBut e (Ne.symm hId)
  | succ k ih =>
    intro i h tk hi hit hd hk
    have hl' : h.IsList l vs.toArray := let ⟨o, ho, r⟩ := hl; ⟨o, hk _ _ (Ne.symm hdl) (Ne.symm hIl) ho, r⟩
    obtain ⟨v, hv⟩ : ∃ v, vs[i]? = some v := ⟨_, List.getElem?_eq_getElem (by omega)⟩
    obtain ⟨a, n, t, kk, x, rfl, haI, had, hx, ha⟩ := hp i v hv
    refine codeAny_builtin entry_upd_loop ?_
    rw [Around.under_plainId plain_upd_loop _]
    unfold Builtin.«dict.update.loop»
    show wpAny _ A.in1 (pyNext (.ref I) >>= _) _ _ _
    refine wpAny_bind (wpAny_pyNext_list_item (s := { s with heap := h, toks := tk }) hit hl' (x := .ref a) (by simpa using hv) fun h' hit' hs => ?_)
    have ha' : h'.get? a = some { cls := .type "tuple", data := .seq #[.str kk t, x] n } := hs.extBut _ _ haI (hk _ _ had haI ha)
    have hd' := hd.sameBut hs (Ne.symm hId)
    refine wpAny_bind (wpAny_holding ?_)
    refine wpAny_bind (wpAny_tryCatch ?_)
    unfold Builtin.Dict.pairItems
    refine wpAny_bind (wpAny_typeOf (T := "tuple") ⟨_, ha', rfl⟩ ?_)
    rw [if_pos (by decide)]
    refine wpAny_bind (wpAny_seqItems ha' rfl (wpAny_pure ?_))
    show wpAny _ _ (holding [.str kk t, x] (dictSet d (.str kk t) x)) _ _ _
    refine wpAny_holding (wpAny_dictSet_pairs (s := { s with heap := h', toks := tk }) (knd := PySem.strKind prog w) (k := kk) (strKind_is _ _ _ _) hd' (fun h2 hd2 hs2 => ?_) (by rw [List.length_take]; have := sizeLine_eq; omega))
    have e2 := take_stored hn hx
    dsimp only at e2
    rw [e2] at hd2
    refine wpAny_pure ⟨plainId_quiet plain_upd_loop _, ?_⟩
    have := ih (i + 1) h2 (tk + 1) (by omega) (let ⟨o, ho, r⟩ := hit'; ⟨o, (hs2.2 _ hId).trans ho, r⟩) hd2 (fun b o hb hbI e1 => hs2.extBut b o hb (hs.extBut b o hbI (hk b o hb hbI e1)))
    simpa [rawInt] using this
/-- dict of a list of pairs whose keys are distinct strs -/
theorem dict_pairs {l nl : Nat} {vs : List Value} {kvs : List (Str × Value)} {Q : Value → Shared → Prop} (hh : A.handled = none) (hl : s.heap.get? l = some (lobj vs nl)) (hlen : vs.length = kvs.length) (hz : kvs.length < 64) (hn : (kvs.map (·.1)).Nodup)
    (hp : ∀ (j : Nat) (v : Value), vs[j]? = some v → ∃ a n t k x, v = .ref a ∧ kvs[j]? = some (k, x) ∧ s.heap.get? a = some { cls := .type "tuple", data := .seq #[.str k t, x] n })
    (h : ∀ h' tk, (∀ b o, s.heap.get? b = some o → h'.get? b = some o) → h'.DictOf (PySem.strKind prog w) s.heap.objs.size kvs → Q (.ref s.heap.objs.size) { s with heap := h', toks := tk }) :
    wpAny (model prog w) A (call (.type "dict") [.ref l]) Q E s := by
  refine callType_codes (Q₁ := fun obj s₁ => obj = .ref s.heap.objs.size ∧ s₁ = { s with heap := s.heap.push { cls := .type "dict", data := .dict #[] } }) PySem.F.kt_called_dict (PySem.F.kt_typeCall_dict_1 _) PySem.F.entry_dict_init (kt_code_dict_new _ ⟨rfl, rfl⟩) ?_
  rintro obj s₁ ⟨rfl, rfl⟩
  have hnew : (s.heap.push { cls := .type "dict", data := .dict #[] }).DictOf (PySem.strKind prog w) s.heap.objs.size [] := Heap.DictOf.new s.heap
  have hl1 : (s.heap.push { cls := .type "dict", data := .dict #[] }).get? l = some (lobj vs nl) := Heap.get?_push_of_some _ hl
  have hld : @LT.lt Nat _ l s.heap.objs.size := Heap.lt_size hl
  refine ⟨hnew.typeIs, PySem.F.args_dict_init_2 _ _, ?_⟩
  unfold Builtin.«dict.__init__»
  refine wpAny_bind ?_
  unfold Builtin.Dict.selfAndRest
  refine wpAny_bind (wpAny_notOrdered_dict hnew.typeIs ?_)
  show wpAny _ _ (pure (s.heap.objs.size, [Value.ref l])) _ _ _
  refine wpAny_pure ?_
  show wpAny _ _ (Builtin.Dict.updateFrom "dict.__init__" s.heap.objs.size (.ref l) [] .none) _ _ _
  unfold Builtin.Dict.updateFrom
  refine wpAny_bind (wpAny_typeOf (T := "list") ⟨_, hl1, rfl⟩ ?_)
  rw [if_pos (by decide)]
  refine wpAny_bind (miss_keys (s := { s with heap := s.heap.push { cls := .type "dict", data := .dict #[] } }) hl1 hh fun h2 tk2 k2 => ?_)
  rw [if_pos (by rfl)]
  refine wpAny_bind (wpAny_rule (wpAny_bind (wpAny_pyIter_list (s := { s with heap := h2, toks := tk2 }) (lobj_list (k2 _ _ hl1)) ?_)))
  have hd2 : h2.DictOf (PySem.strKind prog w) s.heap.objs.size [] := let ⟨o, es, ep, ho, r⟩ := hnew; ⟨o, es, ep, k2 _ _ ho, r⟩
  have hds : s.heap.objs.size < h2.objs.size := let ⟨o, es, ep, ho, r⟩ := hd2; Heap.lt_size ho
  have hls : l < h2.objs.size := Heap.lt_size (k2 _ _ hl1)
  have kp : ∀ b o, s.heap.get? b = some o → (h2.push { cls := .type "list_iterator", data := .fields #[.ref l, .int 0 0] }).get? b = some o := fun b o e => Heap.get?_push_of_some _ (k2 _ _ (Heap.get?_push_of_some _ e))
  refine wpAny_pure ⟨plainId_quiet plain_upd_loop _, upd_loop (A := A.in1) (s := s) (I := h2.objs.size) (l := l) (vs := vs) (kvs := kvs) (h₁ := h2.push { cls := .type "list_iterator", data := .fields #[.ref l, .int 0 0] }) hh (Nat.ne_of_gt hds) (Nat.ne_of_gt hls) (Nat.ne_of_gt hld) (lobj_list (kp _ _ hl)) hlen hz hn (fun j v hv => ?_) (fun h' tk k3 hd' => ?_) kvs.length 0 _ tk2 (by omega) ⟨_, Heap.get?_push_size _ rfl, rfl, rfl⟩ (hd2.push _) (fun b o _ _ e => e)⟩
  · obtain ⟨a, n, t, k, x, rfl, hx, ha⟩ := hp j v hv
    have lta := Heap.lt_size ha
    exact ⟨a, n, t, k, x, rfl, Nat.ne_of_lt (Nat.lt_trans lta hds), Nat.ne_of_lt lta, hx, kp _ _ ha⟩
  · exact ⟨rfl, h h' tk (fun b o e => k3 b o (Nat.ne_of_lt (Heap.lt_size e)) (Nat.ne_of_lt (Nat.lt_trans (Heap.lt_size e) hds)) (kp b o e)) hd'⟩
end
end Mine
end
section
open PySem PySem.W PySem.Spec PySem.Calls PyProof.Rows
set_option Elab.async false
set_option maxRecDepth 100000
set_option maxHeartbeats 2000000
namespace Mine
theorem ne_nil {prog : Program} {w : World} {A : Around} {s : Shared} {E Q : Value → Shared → Prop} {l b : Addr} {vs : List Value} (hl : s.heap.IsList l vs.toArray) (hb : s.heap.IsList b #[]) (hu : A.units < cLine) (h : Q (.bool (!vs.isEmpty)) s) :
    wpAny (model prog w) A (compareOp .NotEq (.ref l) (.ref b)) Q E s := by
  cases vs with
  | nil => exact PySem.SeqAt.RcNeAt.lists (e := fun _ => true) hl hb rfl hu (fun j h1 => absurd h1 (Nat.not_lt_zero _)) prog w E Q h
  | cons v r => exact PySem.SeqAt.RcNeAt.lists_lengths hl hb (by simp) hu prog w E Q h
/-- the draws that less takes at most -/
def lcost : Nat → Int
  | 0 => 0
  | d + 1 => 7 + 3 * lcost d
theorem lcost_pos : ∀ n, 0 ≤ lcost n
  | 0 => by decide
  | n + 1 => by have := lcost_pos n; rw [lcost]; omega
def isAtom : Doc → Bool
  | .atom _ => true
  | _ => false
def LessP (w : World) (mean : ExcName → Option Value) (mg mb : Str → Option Value) (hB : Heap) (n : Nat) : Prop :=
  ∀ (A : Around) (s : Shared) (sa na : Addr) (nums : List Int) (at_ : Int) (v : Value) (c : Doc) (Q E : Value → Shared → Prop), Wld w mean mg mb hB s.heap → hB.get? sa = none → StAt s.heap sa na nums at_ → at_ + lcost n < 1000000 →
    DocIn Challenge.rw_ez0233_01.row.prog w (fun a o => a ≠ sa ∧ s.heap.get? a = some o) v c → clean c → dep c ≤ n →
    A.handled = none → A.depth + 3 * n + 10 < recursionLimit → A.units + 10 * n + 60 < cLine →
    (∀ r d h' tk at', DocIn Challenge.rw_ez0233_01.row.prog w (fun a o => s.heap.get? a = none ∧ h'.get? a = some o) r d → clean d → cont c d = true → dep d ≤ n → isAtom d = isAtom c → (∀ b o, b ≠ sa → s.heap.get? b = some o → h'.get? b = some o) → StAt h' sa na nums at' → at_ ≤ at' → at' ≤ at_ + lcost n →
      Q r { s with heap := h', toks := tk }) → wpAny (model Challenge.rw_ez0233_01.row.prog w) A (call (.ref 65) [.ref sa, v]) Q E s
/-- between the turns of the loop that fills less's dict -/
def LInv (prog : Program) (w : World) (s : Shared) (g : Heap) (L I d0 sa na : Addr) (nums : List Int) (cT cS : Addr) (oT oS : Obj) (lv : Addr) (N0 ep n : Nat) (es0 : List (Str × Doc)) (a0 c : Int) (m0 : Str → Option Value) (j : Nat) (s' : Shared) : Prop :=
  ∃ h' tk i T tl t' n' od oI kvs es at', s' = { s with heap := h', toks := tk } ∧ i ≤ N0 ∧ j = N0 + 1 - i ∧ h'.IsKeyIter I lv i N0 ep ∧ Fr g L h' (fun y => if y = Str.ofString "key" then T else m0 y) ∧
    News g L h' ((sa, lobj [.ref na, .int at' t'] n') :: (d0, od) :: (I, oI) :: tl) ∧ Sta g ((sa, lobj [.ref na, .int at' t'] n') :: (d0, od) :: (I, oI) :: tl) sa na nums at' ∧ (∀ p ∈ tl, p.1 ≠ sa ∧ p.1 ∉ [d0, I]) ∧ (cT, oT) ∈ tl ∧ (cS, oS) ∈ tl ∧
    dobj prog w od kvs ∧ KvsIn prog w (fun a o => s.heap.get? a = none ∧ (a, o) ∈ tl) kvs es ∧ (∀ p ∈ es, ∃ x, (p.1, x) ∈ es0 ∧ clean p.2 ∧ dep p.2 ≤ n ∧ cont x p.2 = true) ∧ a0 ≤ at' ∧ at' ≤ a0 + bnd c i
local macro_rules | `(tactic| tb_rel) => `(tactic| (
  refine' enterC (K := hd.heap_39 _) ?st ?sz ?X ?lim ?k6 ?k7 ?k8 ?k9 ?kB ?kD ?_ ?c2 ?c3 ?c4
  (case X => k_asm)
  (case k6 => k_is)
  (case k7 => k_is)
  (case k9 => first | exact BindsTo.of_eq rfl | exact binds_K (by k_asm) rfl (by k_is) rfl rfl rfl)
  (case kB => exact rfl)
  (case kD => decide +kernel)
  (case c2 => exact rfl)
  (case c3 => exact rfl)
  (case c4 => exact rfl)))
local macro_rules | `(tactic| k_mem) => `(tactic| first | exact List.mem_cons_self | with_reducible assumption | (refine' List.mem_cons_of_mem _ ?_; k_mem))
local macro_rules | `(tactic| walk_at "call builtin:isinstance") => `(tactic| (k_here; (with_reducible show wpAny _ _ (call _ [Value.ref _, _]) _ _ _); k_dflt (first
  | (refine' kia_one kitx_list ?X ?c ?ee ?nb ?_; (case c => exact kit_keep (by assumption) (Fr.keep (by k_asm))); (case X => k_in); (case ee => kit_is); (case nb => kit_nb); k_whole; intro _)
  | (refine' kia_one kitx_dict ?X ?c ?ee ?nb ?_; (case c => exact kit_keep (by assumption) (Fr.keep (by k_asm))); (case X => k_in); (case ee => kit_is); (case nb => kit_nb); k_whole; intro _))))
local macro_rules | `(tactic| walk_at "call builtin:isinstance") => `(tactic| (k_here; (with_reducible show wpAny _ _ (call _ [_, _]) _ _ _); k_dflt (
  (refine' isi_atom_one ?c ?hv ?X ?_; (case c => first | exact Or.inl rfl | exact Or.inr rfl); (case hv => assumption); (case X => k_in); k_whole; intro _))))
local macro_rules | `(tactic| walk_at "subscriptTail") => `(tactic| (k_here; (with_reducible show wpAny _ _ (subscriptTail _ _ (Value.ref _) (Value.str _ _)) _ _ _); k_dflt (refine' sub_doc ?F ?D ?hv ?_ ?hs; (case F => k_asm); (case D => assumption); (case hv => assumption); (case hs => with_unfolding_all rfl); k_whole)))
-- the walk, but it stands still before a loop, an iteration, a list comprehension
local macro_rules | `(tactic| ktr_unf) => `(tactic| repeat' (
  (fail_if_success (with_reducible show wpAny _ _ (exec (Stmt.For _ _ _ _ _) _) _ _ _));
  (fail_if_success (with_reducible show wpAny _ _ (pyIter _) _ _ _));
  (fail_if_success (with_reducible show LCg.CompSrc _ _ _ _ _ _ _ _ _ _ _ _ _ _));
  (fail_if_success (with_reducible show wpAny _ _ (eval (Expr.ListComp _ _ _ _) _) _ _ _));
  (fail_if_success (with_reducible show wpAny _ _ (exec (Stmt.Assign _ (Expr.ListComp _ _ _ _) _) _) _ _ _));
  first | (k_unfold; (try dsimp only)) | (k_end; wrow_close) | walk1 | (dsimp only; walk1) | (leave1; walk_say "STEP leave1"; try dsimp only) | fail "no step"))
local macro_rules | `(tactic| walk_at "call ref") => `(tactic| (k_here; fail "here"))
variable {w : World} {mean : ExcName → Option Value} {mg mb : Str → Option Value} {hB : Heap}
theorem less_step (n : Nat) (IH : ∀ k, k < n → LessP w mean mg mb hB k) : LessP w mean mg mb hB n := by
  intro A s sa na nums at_ v c Q E W hB0 S hat hv hcl hdp hh hdep huni hQ
  obtain ⟨Ah, Ad, Af, Ag, Au⟩ := A
  obtain rfl : Ah = none := hh
  replace hdep : Ad + 3 * n + 10 < recursionLimit := hdep
  replace huni : Au + 10 * n + 60 < cLine := huni
  have X := W.X
  have T := W.T
  obtain ⟨⟨t, ns, e1⟩, hnl, hne, hrest⟩ := id S
  have stg := stays_hide (l := [sa]) W.st (by intro a ha; rw [List.mem_singleton.mp ha]; exact hB0)
  have Xg := W.B.X.keeps stg
  have Tg := W.B.T.keeps stg
  have up : ∀ b o, (hideAll s.heap [sa]).get? b = some o → s.heap.get? b = some o := hide_stays
  have sz := hide_size (h := s.heap) (l := [sa])
  have hin : ∀ b o, b ≠ sa → s.heap.get? b = some o → (hideAll s.heap [sa]).get? b = some o := fun b o hb e => hideAll_get _ e (by simpa using hb)
  have hno : (hideAll s.heap [sa]).get? sa = none := hideAll_none _ (by simp)
  have hlt : sa < s.heap.objs.size := Heap.lt_size e1
  obtain ⟨p1, f1, r1⟩ := id W.t1
  obtain ⟨p2, f2, r2⟩ := id W.t2
  have s26 : sa ≠ 23 := not_tab f1 e1 (by intro q; cases q)
  have s34 : sa ≠ 31 := not_tab f2 e1 (by intro q; cases q)
  revert X; k_fill; intro X
  generalize hgg : hideAll s.heap [sa] = g at *
  have Wg : Wld w mean mg mb hB g := ⟨W.B, stg, ⟨p1, hin _ _ (Ne.symm s26) f1, r1⟩, ⟨p2, hin _ _ (Ne.symm s34) f2, r2⟩⟩
  have hvg : DocAt Challenge.rw_ez0233_01.row.prog w g v c := hv.mono fun a o ⟨q, e⟩ _ => hin a o q e
  have hsaL0 := hlt
  have kit : (match c with | .atom x => True | .list _ => ∃ lx, v = .ref lx ∧ KitAt lx "list" g | .dict _ => ∃ lx, v = .ref lx ∧ KitAt lx "dict" g) := by
    cases hvg with
    | list hlx => exact ⟨_, rfl, _, hlx, rfl⟩
    | dict hlx _ hdx => exact ⟨_, rfl, _, hlx, hdx.1.1⟩
    | _ => trivial
  have lcp := lcost_pos n
  cases c with
  | atom x =>
    k_dflt tb_rel
    (case st => exact up)
    (case sz => exact sz)
    (case lim => exact T.nolimit)
    (case k8 => show Ad < recursionLimit; omega)
    intro L' h₁ tk cells hL F N Y hk
    k_cells Y
    rename_i oT oS dT dS
    replace dS : oS.data = .cell (some (.ref sa)) := dS
    replace N : News g L' h₁ [(sa, lobj [.ref na, .int at_ t] ns), (L' + 1 + 1, oT), (L' + 1, oS)] := fun p hp => by
      rcases List.mem_cons.mp hp with rfl | hp
      · exact ⟨hk _ _ e1, Nat.ne_of_lt (hL ▸ hlt), hno⟩
      · exact N p hp
    have St : Sta g [(sa, lobj [.ref na, .int at_ t] ns), (L' + 1 + 1, oT), (L' + 1, oS)] sa na nums at_ := ⟨⟨_, _, List.Mem.head _⟩, (let ⟨vs, n2, e, hI⟩ := hnl; ⟨vs, n2, hin _ _ hne e, hI⟩), S.ne, S.len, S.len2, S.low, S.high, S.at0, S.at1⟩
    have hsaL : @LT.lt Nat _ sa L' := hL ▸ hlt
    try dsimp only
    try k_fold
    replace dT : oT.data = .cell (some v) := dT
    ktr_unf
    rename Fr _ _ _ _ => F2
    rename News _ _ _ _ => N2
    exact hQ v (.atom x) _ _ at_ (by cases hvg <;> constructor) hcl (by simp [cont]) (Nat.zero_le _) rfl (fun b o hb e => F2.keep b o (hin b o hb e)) (St.at F2 N2) (Int.le_refl _) (by omega)
  | dict es =>
    obtain ⟨lv, rfl, kv⟩ := kit
    k_dflt tb_rel
    (case st => exact up)
    (case sz => exact sz)
    (case lim => exact T.nolimit)
    (case k8 => show Ad < recursionLimit; omega)
    intro L' h₁ tk cells hL F N Y hk
    k_cells Y
    rename_i oT oS dT dS
    replace dS : oS.data = .cell (some (.ref sa)) := dS
    replace N : News g L' h₁ [(sa, lobj [.ref na, .int at_ t] ns), (L' + 1 + 1, oT), (L' + 1, oS)] := fun p hp => by
      rcases List.mem_cons.mp hp with rfl | hp
      · exact ⟨hk _ _ e1, Nat.ne_of_lt (hL ▸ hlt), hno⟩
      · exact N p hp
    have St : Sta g [(sa, lobj [.ref na, .int at_ t] ns), (L' + 1 + 1, oT), (L' + 1, oS)] sa na nums at_ := ⟨⟨_, _, List.Mem.head _⟩, (let ⟨vs, n2, e, hI⟩ := hnl; ⟨vs, n2, hin _ _ hne e, hI⟩), S.ne, S.len, S.len2, S.low, S.high, S.at0, S.at1⟩
    have hsaL : @LT.lt Nat _ sa L' := hL ▸ hlt
    try dsimp only
    try k_fold
    replace dT : oT.data = .cell (some (.ref lv)) := dT
    obtain ⟨n, rfl⟩ : ∃ k, n = k + 1 := ⟨n - 1, by have : dep (.dict es) = depK es + 1 := rfl; omega⟩
    have c0 : lcost (n + 1) = 7 + 3 * lcost n := rfl
    have cp0 := lcost_pos n
    have hlen3 := clean_len hcl
    obtain ⟨hnod0, hck⟩ := id hcl
    rw [cleanK_iff] at hck
    have hdk : depK es ≤ n := Nat.le_of_succ_le_succ hdp
    cases id hvg with
    | @dict _ ol kvl _ hgl hls hld hvl =>
    obtain ⟨ep, hDA⟩ := dobj_at hgl hld
    have hlv3 : kvl.length ≤ 3 := by rw [hvl.length]; exact hlen3
    have hlvs : lv ≠ sa := fun q => by rw [q, hno] at hgl; cases hgl
    ktr_unf
    rename Fr _ _ _ _ => F8
    rename News _ _ _ _ => N8
    rename_i d0 _ o0 lo0 hs0 _ _ _ l10 _
    have hd0 := N8 _ List.mem_cons_self
    have hsd : d0 ≠ sa := Nat.ne_of_gt l10.1
    have dT0 := l10.2.1
    have dS0 := l10.2.2
    refine wpAny_For ?_
    ktr_unf
    refine wpAny_pyIter_dict hls (hDA.at' fun o e => F8.keep _ _ e) ?_
    rename Heap => h4
    have hIg : g.get? h4.objs.size = none := next_is_new F8
    have hIL : h4.objs.size ≠ L' := Nat.ne_of_gt F8.ns.lt
    have hId : h4.objs.size ≠ d0 := Nat.ne_of_gt (Heap.lt_size hd0.1)
    have hIs : h4.objs.size ≠ sa := Nat.ne_of_gt (Heap.lt_size (N8.get (List.mem_cons_of_mem _ List.mem_cons_self)))
    have hIv : lv ≠ h4.objs.size := Nat.ne_of_lt (Heap.lt_size (F8.keep _ _ hgl))
    have hnew : (h4.push { cls := .type "dict_keyiterator", data := .fields #[.ref lv, .int 0 0, .int kvl.length 0, .int ep 0] }).get? h4.objs.size = some { cls := .type "dict_keyiterator", data := .fields #[.ref lv, .int 0 0, .int kvl.length 0, .int ep 0] } := Heap.get?_push_size _ rfl
    have kp : ∀ b o, h4.get? b = some o → (h4.push { cls := .type "dict_keyiterator", data := .fields #[.ref lv, .int 0 0, .int kvl.length 0, .int ep 0] }).get? b = some o := fun b o e => Heap.get?_push_of_some _ e
    have hI3 : ∀ p ∈ [(L' + 1 + 1, oT), (L' + 1, oS)], p.1 ≠ h4.objs.size := fun p hp => Nat.ne_of_lt (Heap.lt_size (N8 p (by simp only [List.mem_cons] at hp ⊢; exact .inr (.inr hp))).1)
    have hDA9 : ∀ h' : Heap, (∀ b o, g.get? b = some o → h'.get? b = some o) → h'.DictAt (strKind Challenge.rw_ez0233_01.row.prog w) lv kvl ep := fun h' k => hDA.at' fun o e => k _ _ e
    dsimp only
    generalize hIeq : h4.objs.size = I at *
    refine forM F8 (fun m0 => LInv Challenge.rw_ez0233_01.row.prog w s g L' I d0 sa na nums (L' + 1 + 1) (L' + 1) oT oS lv kvl.length ep n es at_ (lcost n) m0) ?turn (kvl.length + 1) ?init
    case init =>
      have NN : News g L' (h4.push { cls := .type "dict_keyiterator", data := .fields #[.ref lv, .int 0 0, .int kvl.length 0, .int ep 0] }) ((sa, lobj [.ref na, .int at_ t] ns) :: (d0, o0) :: (I, { cls := .type "dict_keyiterator", data := .fields #[.ref lv, .int 0 0, .int kvl.length 0, .int ep 0] }) :: [(L' + 1 + 1, oT), (L' + 1, oS)]) := fun p hp => by
        rcases List.mem_cons.mp hp with rfl | hp
        · have z := N8 _ (List.mem_cons_of_mem _ List.mem_cons_self); exact ⟨kp _ _ z.1, z.2⟩
        · rcases List.mem_cons.mp hp with rfl | hp
          · exact ⟨kp _ _ hd0.1, hd0.2⟩
          · rcases List.mem_cons.mp hp with rfl | hp
            · exact ⟨hnew, hIL, hIg⟩
            · have z := N8 _ (List.mem_cons_of_mem _ (List.mem_cons_of_mem _ hp)); exact ⟨kp _ _ z.1, z.2⟩
      have F5 := fr_turn (k := Str.ofString "key") (F8.keeps kp)
      exact ⟨_, _, 0, _, [(L' + 1 + 1, oT), (L' + 1, oS)], t, ns, o0, _, [], [], at_, rfl, Nat.zero_le _, by omega, ⟨_, hnew, rfl, rfl⟩, F5, NN, ⟨⟨_, _, List.mem_cons_self⟩, St.nl, St.ne, St.len, St.len2, St.low, St.high, St.at0, St.at1⟩, (fun p hp => by
          simp only [List.mem_cons, List.not_mem_nil, or_false, not_or]
          refine ⟨?_, ?_, hI3 p hp⟩
          all_goals (simp only [List.mem_cons, List.not_mem_nil, or_false] at hp; rcases hp with rfl | rfl)
          · exact neA (by omega)
          · exact neA (by omega)
          · exact Nat.ne_of_lt dT0
          · exact Nat.ne_of_lt dS0), List.mem_cons_self, List.mem_cons_of_mem _ List.mem_cons_self,
        (let ⟨es, ep, r1, r2, r3, r4, r5⟩ := hs0; ⟨r1, es, ep, r2, r3, r4, r5⟩), .nil, (fun p hp => nomatch hp), by omega, by have := bnd0 cp0 0; omega⟩
    case turn =>
      clear F8 N8 St hd0
      rintro j s' ⟨h', tk, i, T, tl, t', n', od, oI, kvs, es', at', rfl, hi, rfl, hit, F, N, Sa, off, cT, cS, hod, hkv, hes, b0, b1⟩
      have b3 := bnd3 (lcost n)
      by_cases hlt : i < kvl.length
      · refine (Walks.dictKeys (prog := Challenge.rw_ez0233_01.row.prog) (w := w) rfl I lv hIv kvl ep).item i _ _ _ hlt ⟨hit, hDA9 _ F.keep⟩ fun v h₁ tk₁ hPv hst₁ hk₁ => ?_
        have bi := bnd_mono (c := lcost n) cp0 (show i + 1 ≤ 3 by omega)
        have bi0 : bnd (lcost n) (i + 1) = bnd (lcost n) i + 1 + lcost n := rfl
        obtain ⟨k, vx, hkx, hkv0⟩ := hPv
        obtain ⟨tv, rfl⟩ : ∃ t, v = .str k t := Value.isStrOf_shape hkv0
        have kI : ∀ b o, b ≠ I → h'.get? b = some o → h₁.get? b = some o := fun b o hb e => hk₁ b o (by simpa using hb) e
        have F1 := fr_one F (Ne.symm hIL) hIg kI
        obtain ⟨oI1, hI1, hIa⟩ := id hst₁.1
        have N1 : News g L' h₁ ((sa, lobj [.ref na, .int at' t'] n') :: (d0, od) :: (I, oI1) :: tl) := fun p hp => by
          rcases List.mem_cons.mp hp with rfl | hp
          · have z := N _ List.mem_cons_self; exact ⟨kI _ _ (Ne.symm hIs) z.1, z.2⟩
          · rcases List.mem_cons.mp hp with rfl | hp
            · have z := N _ (List.mem_cons_of_mem _ List.mem_cons_self); exact ⟨kI _ _ (Ne.symm hId) z.1, z.2⟩
            · rcases List.mem_cons.mp hp with rfl | hp
              · exact ⟨hI1, hIL, hIg⟩
              · have z := N _ (List.mem_cons_of_mem _ (List.mem_cons_of_mem _ (List.mem_cons_of_mem _ hp)))
                exact ⟨kI _ _ (fun q => (off p hp).2 (by simp [q])) z.1, z.2⟩
        have Sa1 : Sta g ((sa, lobj [.ref na, .int at' t'] n') :: (d0, od) :: (I, oI1) :: tl) sa na nums at' := ⟨⟨_, _, List.mem_cons_self⟩, Sa.nl, Sa.ne, Sa.len, Sa.len2, Sa.low, Sa.high, Sa.at0, Sa.at1⟩
        clear F N Sa
        dsimp only
        ktr_unf
        rename Fr _ _ _ _ => F2
        rename News _ _ _ _ => N2
        have hIa : KdkIter oI1 lv (i + 1) kvl.length ep := hIa
        have zd := N2 _ (List.mem_cons_of_mem _ List.mem_cons_self)
        have zI := N2 _ (List.mem_cons_of_mem _ (List.mem_cons_of_mem _ List.mem_cons_self))
        refine st_walk (R := fun _ _ r at2 => ∃ k t, r = .int k t ∧ 0 ≤ k ∧ k < 3 ∧ at2 = at' + 1) F2 N2 Sa1 [d0, I] (fun Q' hQ' => next_spec (Wg.keeps F2.keep) hB0 (Sa1.at F2 N2) (by decide) (by decide) rfl (by show Ad + 1 + 2 < recursionLimit; omega) fun k t h' tk a1 a2 a3 a4 => hQ' _ _ _ _ a3 (a4 (by omega)) ⟨k, t, rfl, a1, a2, rfl⟩) ?_
        rintro r h6 tk6 tl6 t6 n6 at6 F6 N6 Sa6 sub6 off6 k6 - ⟨kk, tk9, rfl, w2, w3, rfl⟩
        have N6' : News g L' h6 ((sa, lobj [.ref na, .int (at' + 1) t6] n6) :: (d0, od) :: (I, oI1) :: tl6) := fun p hp => by
          rcases List.mem_cons.mp hp with rfl | hp
          · exact N6 _ List.mem_cons_self
          · rcases List.mem_cons.mp hp with rfl | hp
            · exact ⟨k6 _ _ hsd zd.1, zd.2⟩
            · rcases List.mem_cons.mp hp with rfl | hp
              · exact ⟨k6 _ _ hIs zI.1, zI.2⟩
              · exact N6 _ (List.mem_cons_of_mem _ hp)
        have Sa6' : Sta g ((sa, lobj [.ref na, .int (at' + 1) t6] n6) :: (d0, od) :: (I, oI1) :: tl6) sa na nums (at' + 1) := ⟨⟨_, _, List.mem_cons_self⟩, Sa6.nl, Sa6.ne, Sa6.len, Sa6.len2, Sa6.low, Sa6.high, Sa6.at0, Sa6.at1⟩
        have cT6 : (L' + 1 + 1, oT) ∈ tl6 := sub6 _ (by simp [cT]) (off _ cT).1 (off _ cT).2
        have cS6 : (L' + 1, oS) ∈ tl6 := sub6 _ (by simp [cS]) (off _ cS).1 (off _ cS).2
        have hkv6 : KvsIn Challenge.rw_ez0233_01.row.prog w (fun a o => s.heap.get? a = none ∧ (a, o) ∈ tl6) kvs es' := hkv.mono fun a o ⟨e1, e2⟩ _ => ⟨e1, sub6 _ (by simp [e2]) (off _ e2).1 (off _ e2).2⟩
        obtain ⟨x, hx0, hxv⟩ := hvl.get hkx
        have hxm := List.mem_of_getElem? hx0
        have hlk : look kvl k = some vx := look_of_mem (let ⟨_, _, _, _, _, _, z⟩ := hld; z) (List.mem_of_getElem? hkx)
        have hLkv : g.DictOf (strKind Challenge.rw_ez0233_01.row.prog w) lv kvl := dobj_of hgl hld
        have hlc0 := hlt
        clear N2 F2 N6 Sa6 Sa1
        have fin : ∀ (h8 : Heap) (od8 : Obj) (tk8 : Nat) (T8 : Option Value) (m0 : Str → Option Value) (kvs8 : List (Str × Value)) (es8 : List (Str × Doc)) (tl8 : List (Addr × Obj)) (t8 : Tok) (n8 : Nat) (at8 : Int),
            Fr g L' h8 (fun y => if y = Str.ofString "key" then T8 else m0 y) → News g L' h8 ((sa, lobj [.ref na, .int at8 t8] n8) :: (d0, od8) :: (I, oI1) :: tl8) → 0 ≤ at8 → at8 < 1000000 → (∀ p ∈ tl8, p.1 ≠ sa ∧ p.1 ∉ [d0, I]) → (L' + 1 + 1, oT) ∈ tl8 → (L' + 1, oS) ∈ tl8 →
            dobj Challenge.rw_ez0233_01.row.prog w od8 kvs8 → KvsIn Challenge.rw_ez0233_01.row.prog w (fun a o => s.heap.get? a = none ∧ (a, o) ∈ tl8) kvs8 es8 → (∀ p ∈ es8, ∃ x, (p.1, x) ∈ es ∧ clean p.2 ∧ dep p.2 ≤ n ∧ cont x p.2 = true) → at' + 1 ≤ at8 → at8 ≤ at' + 1 + lcost n →
            LInv Challenge.rw_ez0233_01.row.prog w s g L' I d0 sa na nums (L' + 1 + 1) (L' + 1) oT oS lv kvl.length ep n es at_ (lcost n) m0 (kvl.length + 1 - (i + 1)) { s with heap := h8, toks := tk8 } :=
          fun h8 od8 tk8 T8 m0 kvs8 es8 tl8 t8 n8 at8 F8 N8 z0 z1 off8 cT8 cS8 D8 K8 E8 b2 b4 =>
          ⟨h8, tk8, i + 1, T8, tl8, t8, n8, od8, oI1, kvs8, es8, at8, rfl, hlc0, rfl, ⟨oI1, (N8 _ (List.mem_cons_of_mem _ (List.mem_cons_of_mem _ List.mem_cons_self))).1, hIa⟩, F8, N8, ⟨⟨_, _, List.mem_cons_self⟩, Sa6'.nl, Sa6'.ne, Sa6'.len, Sa6'.len2, Sa6'.low, Sa6'.high, z0, z1⟩, off8, cT8, cS8, D8, K8, E8, by omega, by omega⟩
        ktr_unf
        · have old2 := was_none F6 N6' List.mem_cons_self hin
          have zd := N6' _ (List.mem_cons_of_mem _ List.mem_cons_self)
          have zI := N6' _ (List.mem_cons_of_mem _ (List.mem_cons_of_mem _ List.mem_cons_self))
          refine st_walk (R := fun hp hq r at2 => ∃ d, DocIn Challenge.rw_ez0233_01.row.prog w (fun a o => hp.get? a = none ∧ hq.get? a = some o) r d ∧ clean d ∧ cont x d = true ∧ dep d ≤ n ∧ at' + 1 ≤ at2 ∧ at2 ≤ at' + 1 + lcost n) F6 N6' Sa6' [d0, I] (fun Q' hQ' => IH n (Nat.lt_succ_self n) _ _ sa na nums (at' + 1) _ x Q' _ (Wg.keeps F6.keep) hB0 (Sa6'.at F6 N6') (by omega) (hxv.mono fun a o e _ => ⟨fun q => (by rw [q, hno] at e; cases e), F6.keep _ _ e⟩) (hck _ hxm).2 (Nat.le_trans (dep_memK hxm) hdk) rfl (by show Ad + 1 + 3 * n + 10 < recursionLimit; omega) (by show Au + _ + 10 * n + 60 < cLine; omega) fun r d h' tk at2 a1 a2 a3 a4 _ a5 a6 a7 a8 => hQ' _ _ _ _ a5 a6 ⟨d, a1, a2, a3, a4, a7, a8⟩) ?_
          rintro r h7 tk7 tl7 t7 n7 at7 F7 N7 Sa7 sub7 off7 k7 fresh7 ⟨d, hr, hcl7, hct, hdp7, hlo, hhi⟩
          have N7' : News g L' h7 ((sa, lobj [.ref na, .int at7 t7] n7) :: (d0, od) :: (I, oI1) :: tl7) := fun p hp => by
            rcases List.mem_cons.mp hp with rfl | hp
            · exact N7 _ List.mem_cons_self
            · rcases List.mem_cons.mp hp with rfl | hp
              · exact ⟨k7 _ _ hsd zd.1, zd.2⟩
              · rcases List.mem_cons.mp hp with rfl | hp
                · exact ⟨k7 _ _ hIs zI.1, zI.2⟩
                · exact N7 _ (List.mem_cons_of_mem _ hp)
          have cT7 : (L' + 1 + 1, oT) ∈ tl7 := sub7 _ (by simp [cT6]) (off6 _ cT6).1 (off6 _ cT6).2
          have cS7 : (L' + 1, oS) ∈ tl7 := sub7 _ (by simp [cS6]) (off6 _ cS6).1 (off6 _ cS6).2
          have hkv7 : KvsIn Challenge.rw_ez0233_01.row.prog w (fun a o => s.heap.get? a = none ∧ (a, o) ∈ tl7) kvs es' := hkv6.mono fun a o ⟨e1, e2⟩ _ => ⟨e1, sub7 _ (by simp [e2]) (off6 _ e2).1 (off6 _ e2).2⟩
          have hr7 : DocIn Challenge.rw_ez0233_01.row.prog w (fun a o => s.heap.get? a = none ∧ (a, o) ∈ tl7) r d := hr.mono fun a o ⟨e1, e2⟩ _ => ⟨old2 a e1, fresh7 a o e1 (by
              simp only [List.mem_cons, List.not_mem_nil, or_false, not_or]
              exact ⟨fun q => (by dsimp only at zd e1; rw [q, zd.1] at e1; cases e1), fun q => (by dsimp only at zI e1; rw [q, zI.1] at e1; cases e1)⟩) e2⟩
          have offI : ∀ p ∈ (I, oI1) :: tl7, p.1 ≠ d0 := fun p hp => by
            rcases List.mem_cons.mp hp with rfl | hp
            · exact hId
            · exact fun q => (off7 p hp).2 (by simp [q])
          have hky : ∀ k ∈ kvs.map (·.1), k ∈ keyz := fun k hk => by
            rw [hkv.keys] at hk
            obtain ⟨p, hp, rfl⟩ := List.mem_map.mp hk
            obtain ⟨x', hx', _⟩ := hes p hp
            exact (hck _ hx').1
          have s70 := Sa7.at0
          have s71 := Sa7.at1
          clear N6' F6 N7 Sa6' Sa7
          ktr_unf
          refine set_step F7 N7' hsd offI hod hky fun h8 od8 F8 N8 D8 => ?_
          clear F7 N7'
          ktr_unf
          rotate_left 2
          exact (kvl.length + 1 - (i + 1))
          · omega
          · exact fin _ _ _ _ _ _ _ _ _ _ _ (fr_turn2 F8) N8 s70 s71 off7 cT7 cS7 D8 (hkv7.stored hr7) (fun p hp => (storedD_mem p hp).elim (hes p) (fun e => by rw [e]; exact ⟨x, hxm, hcl7, hdp7, hct⟩)) hlo hhi
        rotate_left 2
        exact (kvl.length + 1 - (i + 1))
        · omega
        · exact fin _ _ _ _ _ _ _ _ _ _ _ (fr_turn2 F6) N6' Sa6'.at0 Sa6'.at1 off6 cT6 cS6 hod hkv6 hes (Int.le_refl _) (by omega)
      · obtain rfl : i = kvl.length := by omega
        refine (Walks.dictKeys (prog := Challenge.rw_ez0233_01.row.prog) (w := w) rfl I lv hIv kvl ep).done _ _ _ ⟨hit, hDA9 _ F.keep⟩ fun h9 tk9 k9 => ?_
        have bi := bnd_mono (c := lcost n) cp0 hlv3
        have kI : ∀ b o, b ≠ I → h'.get? b = some o → h9.get? b = some o := fun b o hb e => k9 b o (by simpa using hb) e
        have F1 := fr_one F (Ne.symm hIL) hIg kI
        have zs := N _ List.mem_cons_self
        have zd := N _ (List.mem_cons_of_mem _ List.mem_cons_self)
        have N1 : News g L' h9 ((sa, lobj [.ref na, .int at' t'] n') :: (d0, od) :: tl) := fun p hp => by
          rcases List.mem_cons.mp hp with rfl | hp
          · exact ⟨kI _ _ (Ne.symm hIs) zs.1, zs.2⟩
          · rcases List.mem_cons.mp hp with rfl | hp
            · exact ⟨kI _ _ (Ne.symm hId) zd.1, zd.2⟩
            · have z := N _ (List.mem_cons_of_mem _ (List.mem_cons_of_mem _ (List.mem_cons_of_mem _ hp)))
              exact ⟨kI _ _ (fun q => (off p hp).2 (by simp [q])) z.1, z.2⟩
        have Sa1 : Sta g ((sa, lobj [.ref na, .int at' t'] n') :: (d0, od) :: tl) sa na nums at' := ⟨⟨_, _, List.mem_cons_self⟩, Sa.nl, Sa.ne, Sa.len, Sa.len2, Sa.low, Sa.high, Sa.at0, Sa.at1⟩
        have hnod : (es'.map (·.1)).Nodup := by rw [← hkv.keys]; obtain ⟨_, _, _, _, _, _, z⟩ := hod; exact z
        have fresh : s.heap.get? d0 = none := by
          cases q : s.heap.get? d0 with
          | none => rfl
          | some o' => have := zd.2.2; dsimp only at this; rw [hin _ _ hsd q] at this; cases this
        have kpg : ∀ b o, b ≠ sa → s.heap.get? b = some o → h9.get? b = some o := fun b o hb e => F1.keep b o (hin b o hb e)
        clear F N
        dsimp only
        ktr_unf
        exact hQ (.ref d0) (.dict es') h9 _ at' (.dict ⟨fresh, N1.get (List.mem_cons_of_mem _ List.mem_cons_self)⟩ lo0 hod (hkv.mono fun a o ⟨e1, e2⟩ _ => ⟨e1, N1.get (List.mem_cons_of_mem _ (List.mem_cons_of_mem _ e2))⟩))
          ⟨hnod, cleanK_iff.mpr fun p hp => (let ⟨x, hx, h1, _⟩ := hes p hp; ⟨(hck _ hx).1, h1⟩)⟩ (contKvs_iff.mpr fun p hp => (let ⟨x, hx, _, _, h1⟩ := hes p hp; ⟨x, look_of_mem hnod0 hx, h1⟩)) (Nat.succ_le_succ (depK_le fun p hp => (let ⟨x, hx, _, h1, _⟩ := hes p hp; h1))) rfl kpg (Sa1.at F1 N1) (by omega) (by omega)
  | list ds =>
    obtain ⟨lv, rfl, kv⟩ := kit
    k_dflt tb_rel
    (case st => exact up)
    (case sz => exact sz)
    (case lim => exact T.nolimit)
    (case k8 => show Ad < recursionLimit; omega)
    intro L' h₁ tk cells hL F N Y hk
    k_cells Y
    rename_i oT oS dT dS
    replace dS : oS.data = .cell (some (.ref sa)) := dS
    replace N : News g L' h₁ [(sa, lobj [.ref na, .int at_ t] ns), (L' + 1 + 1, oT), (L' + 1, oS)] := fun p hp => by
      rcases List.mem_cons.mp hp with rfl | hp
      · exact ⟨hk _ _ e1, Nat.ne_of_lt (hL ▸ hlt), hno⟩
      · exact N p hp
    have St : Sta g [(sa, lobj [.ref na, .int at_ t] ns), (L' + 1 + 1, oT), (L' + 1, oS)] sa na nums at_ := ⟨⟨_, _, List.Mem.head _⟩, (let ⟨vs, n2, e, hI⟩ := hnl; ⟨vs, n2, hin _ _ hne e, hI⟩), S.ne, S.len, S.len2, S.low, S.high, S.at0, S.at1⟩
    have hsaL : @LT.lt Nat _ sa L' := hL ▸ hlt
    try dsimp only
    try k_fold
    replace dT : oT.data = .cell (some (.ref lv)) := dT
    obtain ⟨n, rfl⟩ : ∃ k, n = k + 1 := ⟨n - 1, by have : dep (.list ds) = depL ds + 1 := rfl; omega⟩
    have c0 : lcost (n + 1) = 7 + 3 * lcost n := rfl
    have cp0 := lcost_pos n
    obtain ⟨hlen3, hck⟩ := id hcl
    rw [cleanL_iff] at hck
    have hdk : depL ds ≤ n := Nat.le_of_succ_le_succ hdp
    cases id hvg with
    | @list _ nl vsl _ hgl hvl =>
    have hlv3 : vsl.length ≤ 3 := by rw [hvl.length]; exact hlen3
    have hlvs : lv ≠ sa := fun q => by rw [q, hno] at hgl; cases hgl
    have hLl := lobj_list hgl
    ktr_unf
    rename Fr _ _ _ _ => F8
    rename News _ _ _ _ => N8
    refine LCg.Assign_ListComp_U (F₀ := F8) (by rfl) (by with_unfolding_all rfl) (by rfl) (by decide) (by rfl) (by decide) (by rfl) (by rfl) (by rfl) ?_
    ktr_unf
    refine st_walk (R := fun _ _ r at2 => ∃ k t, r = .int k t ∧ 0 ≤ k ∧ k < 4 ∧ at2 = at_ + 1) F8 N8 St [] (fun Q' hQ' => next_spec (Wg.keeps F8.keep) hB0 (St.at F8 N8) (by decide) (by decide) rfl (by show Ad + 1 + 2 < recursionLimit; omega) fun k t h' tk a1 a2 a3 a4 => hQ' _ _ _ _ a3 (a4 (by omega)) ⟨k, t, rfl, a1, a2, rfl⟩) ?_
    rintro r h3 tk3 tl3 t3 n3 at3 F3 N3 St3 sub3 off3 k3 - ⟨kk, tk9, rfl, w2, w3, rfl⟩
    have cT3 : (L' + 1 + 1, oT) ∈ tl3 := sub3 _ (by simp) (neA (by omega)) (by simp)
    have cS3 : (L' + 1, oS) ∈ tl3 := sub3 _ (by simp) (neA (by omega)) (by simp)
    clear F8 N8
    ktr_unf
    rename Fr _ _ _ _ => F4
    rename News _ _ _ _ => N4
    refine ne_nil (lobj_list (F4.keep _ _ hgl)) ⟨_, N4.get List.mem_cons_self, rfl, _, rfl⟩ (by show Au + _ < cLine; omega) ?_
    obtain ⟨bb, hbb⟩ : ∃ bb, (!vsl.isEmpty) = bb := ⟨_, rfl⟩
    rw [hbb]
    ktr_unf
    rename IsRange _ _ _ _ _ _ _ _ => hR
    rename Fr _ _ _ _ => F5
    rename News _ _ _ _ => N5
    obtain ⟨n0, hn0, hn03, hpos⟩ : ∃ n0 : Nat, kk * (if bb = true then 1 else 0) = (n0 : Int) ∧ n0 ≤ 3 ∧ (0 < n0 → 0 < vsl.length) := by
      cases bb with
      | false => exact ⟨0, by simp, by omega, fun h => absurd h (Nat.lt_irrefl _)⟩
      | true => exact ⟨kk.toNat, by simp; omega, by omega, fun _ => by cases vsl with | nil => cases hbb | cons => simp⟩
    have hR' := hR
    rw [hn0] at hR'
    have hc3 : n0 = 0 ∨ n0 = 1 ∨ n0 = 2 ∨ n0 = 3 := by omega
    have N6 := fun p hp => N5 p (List.mem_cons_of_mem _ hp)
    refine LCg.CompSrc.range (n := n0) (by rfl) F5 N6 hR' (by rcases hc3 with rfl | rfl | rfl | rfl <;> decide) (by rcases hc3 with rfl | rfl | rfl | rfl <;> decide) (Nat.le_trans hn03 (by decide)) ?_
    intro g'
    suffices key : ∀ (k i : Nat) (ys : List Value) (t' : Tok) (n' : Nat) (at' : Int) (tl : List (Addr × Obj)), i + k = n0 → ys.length = i → Sta g ((sa, lobj [.ref na, .int at' t'] n') :: tl) sa na nums at' → (∀ p ∈ tl, p.1 ≠ sa) → (L' + 1 + 1, oT) ∈ tl → (L' + 1, oS) ∈ tl →
        (∀ y ∈ ys, ∃ j t, y = .int j t ∧ 0 ≤ j ∧ j < vsl.length) → at_ + 1 ≤ at' → at' ≤ at_ + 1 + i →
        LCg.CompRest _ _ _ _ _ _ _ _ _ _ _ _ (fun _ => True) _ _ k i ys ((sa, lobj [.ref na, .int at' t'] n') :: tl) from
      key n0 0 [] t3 n3 _ tl3 (by omega) rfl St3 (fun p hp => (off3 p hp).1) cT3 cS3 (fun y hy => nomatch hy) (Int.le_refl _) (by omega)
    clear N6 hR hR'
    try clear N5 F5
    try clear N3 F3
    try clear St3
    intro k
    induction k with
    | zero =>
      intro i ys t' n' at' tl hi hyl Sa off cT cS hys b0 b1
      refine LCg.CompRest.zero ?_
      intro D h tk F N o1
      dsimp only
      ktr_unf
      rename Fr _ _ _ _ => F5
      rename News _ _ _ _ => N5
      have hDs : sa ≠ D := o1.1
      have hDt := o1.2
      refine LCg.ListComp_U (F₀ := F5) (by rfl) (by decide) (by rfl) (by decide) (by rfl) ?_
      ktr_unf
      have N6 : News g L' _ ((sa, lobj [.ref na, .int at' t'] n') :: (D, LCg.lst ys) :: tl) := fun p hp => N5 p (by
        simp only [List.mem_cons] at hp ⊢
        rcases hp with h | h | h
        · exact .inr (.inl h)
        · exact .inl h
        · exact .inr (.inr h))
      have hys3 : ys.length ≤ 3 := by omega
      refine LCg.CompSrc.ledger (by rfl) F5 N6 (List.mem_cons_of_mem _ List.mem_cons_self) (by simp only [List.size_toArray]; exact Nat.le_trans hys3 (by decide)) ?_
      intro g2
      have b3 := bnd3 (lcost n)
      suffices key2 : ∀ (k i : Nat) (rs : List Value) (es : List Doc) (t2 : Tok) (n2 : Nat) (at2 : Int) (tl2 : List (Addr × Obj)), i + k = ys.length → es.length = i → Sta g ((sa, lobj [.ref na, .int at2 t2] n2) :: tl2) sa na nums at2 → (∀ p ∈ tl2, p.1 ≠ sa) → (L' + 1 + 1, oT) ∈ tl2 → (L' + 1, oS) ∈ tl2 → (D, LCg.lst ys) ∈ tl2 →
          DocsIn Challenge.rw_ez0233_01.row.prog w (fun a o => s.heap.get? a = none ∧ (a, o) ∈ tl2) rs es → (∀ e ∈ es, clean e ∧ dep e ≤ n ∧ ∃ x ∈ ds, cont x e = true) → at' ≤ at2 → at2 ≤ at' + bnd (lcost n) i →
          LCg.CompRest _ _ _ _ _ _ _ _ _ _ _ _ (LCg.SrcAt g D ys.toArray) _ _ k i rs ((sa, lobj [.ref na, .int at2 t2] n2) :: tl2) from
        key2 ys.toArray.size 0 [] [] t' n' at' ((D, LCg.lst ys) :: tl) (by simp) rfl ⟨⟨_, _, List.mem_cons_self⟩, Sa.nl, Sa.ne, Sa.len, Sa.len2, Sa.low, Sa.high, Sa.at0, Sa.at1⟩ (fun p hp => by
          rcases List.mem_cons.mp hp with rfl | hp
          · exact Ne.symm hDs
          · exact off p hp) (List.mem_cons_of_mem _ cT) (List.mem_cons_of_mem _ cS) List.mem_cons_self .nil (fun e he => nomatch he) (Int.le_refl _) (by have := bnd0 cp0 0; omega)
      clear N6
      try clear N5 F5
      try clear Sa
      intro k
      induction k with
      | zero =>
        intro i rs es t2 n2 at2 tl2 hi2 hel Sa off cT cS cD hrs hes b2 b4
        refine LCg.CompRest.zero ?_
        intro D2 h2 tk2 F N o2
        have fresh : s.heap.get? D2 = none := by
          have z := N _ List.mem_cons_self
          have hDs : D2 ≠ sa := fun q => (o2.1 : ¬ _) q.symm
          cases q : s.heap.get? D2 with
          | none => rfl
          | some o' => have := z.2.2; dsimp only at this; rw [hin _ _ hDs q] at this; cases this
        have bi := bnd_mono (c := lcost n) cp0 (show i ≤ 3 by omega)
        exact hQ (.ref D2) (.list es) h2 _ at2 (.list ⟨fresh, N.get List.mem_cons_self⟩ (hrs.mono fun a o ⟨e1, e2⟩ _ => ⟨e1, N.get (List.mem_cons_of_mem _ (List.mem_cons_of_mem _ e2))⟩))
            ⟨by omega, cleanL_iff.mpr fun d hd => (hes d hd).1⟩ (contAll_iff.mpr fun d hd => (hes d hd).2.2) (Nat.succ_le_succ (depL_le fun d hd => (hes d hd).2.1)) rfl (fun b o hb e => F.keep b o (hin b o hb e)) (Sa.at F fun p hp => N p (List.mem_cons_of_mem _ hp)) (by omega) (by omega)
      | succ k ih2 =>
        intro i rs es t2 n2 at2 tl2 hi2 hel Sa off cT cS cD hrs hes b2 b4
        refine LCg.CompRest.succ ?_
        intro v I oI C oC D2 m₂ h₁ tk₁ E' hP hC hx F N off3' ne
        have bi := bnd_mono (c := lcost n) cp0 (show i + 1 ≤ 3 by omega)
        have bi0 : bnd (lcost n) (i + 1) = bnd (lcost n) i + 1 + lcost n := rfl
        have o3 := off3'.mem
        have osa := o3 _ List.mem_cons_self
        obtain ⟨j, tj, rfl, j0, j1⟩ := hys v (by simpa using List.mem_of_getElem? (by simpa using hP))
        obtain ⟨vx, hvx⟩ : ∃ vx, vsl[j.toNat]? = some vx := ⟨_, List.getElem?_eq_getElem (by omega)⟩
        obtain ⟨x, hxd⟩ : ∃ x, ds[j.toNat]? = some x := ⟨_, List.getElem?_eq_getElem (by rw [← hvl.length]; omega)⟩
        have hxv := hvl.get hvx hxd
        have hxm := List.mem_of_getElem? hxd
        have Sa1 : Sta g ((I, oI) :: (C, oC) :: (D2, LCg.lst rs) :: (sa, lobj [.ref na, .int at2 t2] n2) :: tl2) sa na nums at2 := ⟨⟨_, _, List.mem_cons_of_mem _ (List.mem_cons_of_mem _ (List.mem_cons_of_mem _ List.mem_cons_self))⟩, Sa.nl, Sa.ne, Sa.len, Sa.len2, Sa.low, Sa.high, Sa.at0, Sa.at1⟩
        ktr_unf
        refine item_doc (lobj_list (F.keep _ _ hgl)) j0 (by omega) hvx ?_ (by with_unfolding_all rfl)
        ktr_unf
        rename Fr _ _ _ _ => F7
        rename News _ _ _ _ => N7
        refine st_walk (R := fun hp hq r at3 => ∃ d, DocIn Challenge.rw_ez0233_01.row.prog w (fun a o => hp.get? a = none ∧ hq.get? a = some o) r d ∧ clean d ∧ cont x d = true ∧ dep d ≤ n ∧ at2 ≤ at3 ∧ at3 ≤ at2 + lcost n) F7 N7 Sa1 [I, C, D2] (fun Q' hQ' => IH n (Nat.lt_succ_self n) _ _ sa na nums at2 _ x Q' _ (Wg.keeps F7.keep) hB0 (Sa1.at F7 N7) (by omega) (hxv.mono fun a o e _ => ⟨fun q => (by rw [q, hno] at e; cases e), F7.keep _ _ e⟩) (hck _ hxm) (Nat.le_trans (dep_mem hxm) hdk) rfl (by show Ad + 1 + 3 * n + 10 < recursionLimit; omega) (by show Au + _ + 10 * n + 60 < cLine; omega) fun r d h' tk at3 a1 a2 a3 a4 _ a5 a6 a7 a8 => hQ' _ _ _ _ a5 a6 ⟨d, a1, a2, a3, a4, a7, a8⟩) ?_
        rintro r h6 tk6 tl6 t6 n6 at6 F6 N6 Sa6 sub6 off6 k6 fresh6 ⟨d, hr, hcl6, hct6, hdp6, hlo, hhi⟩
        have zI := N7 _ List.mem_cons_self
        have zC := N7 _ (List.mem_cons_of_mem _ List.mem_cons_self)
        have zD := N7 _ (List.mem_cons_of_mem _ (List.mem_cons_of_mem _ List.mem_cons_self))
        have zs := N7 _ (List.mem_cons_of_mem _ (List.mem_cons_of_mem _ (List.mem_cons_of_mem _ List.mem_cons_self)))
        have old2 := was_none F7 N7 (List.mem_cons_of_mem _ (List.mem_cons_of_mem _ (List.mem_cons_of_mem _ List.mem_cons_self))) hin
        have off6' : ∀ p ∈ tl6, p.1 ≠ sa ∧ p.1 ≠ I ∧ p.1 ≠ C ∧ p.1 ≠ D2 := fun p hp => by
          have z := off6 p hp
          simpa only [List.mem_cons, List.not_mem_nil, or_false, not_or] using z
        have N6' : News g L' h6 ((I, oI) :: (C, oC) :: (D2, LCg.lst rs) :: (sa, lobj [.ref na, .int at6 t6] n6) :: tl6) := fun p hp => by
          rcases List.mem_cons.mp hp with rfl | hp
          · exact ⟨k6 _ _ (Ne.symm osa.1) zI.1, zI.2⟩
          · rcases List.mem_cons.mp hp with rfl | hp
            · exact ⟨k6 _ _ (Ne.symm osa.2.1) zC.1, zC.2⟩
            · rcases List.mem_cons.mp hp with rfl | hp
              · exact ⟨k6 _ _ (Ne.symm osa.2.2) zD.1, zD.2⟩
              · exact N6 _ hp
        have sub6' : ∀ p ∈ tl2, p ∈ tl6 := fun p hp => sub6 p (by simp [hp]) (off p hp) (by
          have z := o3 p (List.mem_cons_of_mem _ hp)
          simp only [List.mem_cons, List.not_mem_nil, or_false, not_or]
          exact z)
        refine LCg.CompEnd.intro F6 N6' _ (fun p hp => hp) (off3_of fun p hp => ?_) (.inr ⟨_, List.mem_cons_of_mem _ (sub6' _ cD), rfl, _, rfl⟩) ?_
        · rcases List.mem_cons.mp hp with rfl | hp
          · exact osa
          · exact (off6' p hp).2
        · refine ih2 (i + 1) (rs ++ [r]) (es ++ [d]) t6 n6 at6 tl6 (by omega) (by simp [hel]) Sa6 (fun p hp => (off6' p hp).1) (sub6' _ cT) (sub6' _ cS) (sub6' _ cD) ((hrs.mono fun a o ⟨e1, e2⟩ _ => ⟨e1, sub6' _ e2⟩).append (.cons (hr.mono fun a o ⟨e1, e2⟩ _ => ⟨old2 a e1, fresh6 a o e1 (by
              simp only [List.mem_cons, List.not_mem_nil, or_false, not_or]
              refine ⟨fun q => ?_, fun q => ?_, fun q => ?_⟩
              · dsimp only at zI e1; rw [q, zI.1] at e1; cases e1
              · dsimp only at zC e1; rw [q, zC.1] at e1; cases e1
              · dsimp only at zD e1; rw [q, zD.1] at e1; cases e1) e2⟩) .nil)) (fun d' hd' => ?_) (by omega) (by omega)
          rcases List.mem_append.mp hd' with h | h
          · exact hes d' h
          · rw [List.mem_singleton.mp h]; exact ⟨hcl6, hdp6, x, hxm, hct6⟩
    | succ k ih =>
      intro i ys t' n' at' tl hi hyl Sa off cT cS hys b0 b1
      refine LCg.CompRest.succ ?_
      intro v I oI C oC D m₂ h₁ tk₁ E' hP hC hx F N off3' ne
      have o3 := off3'.mem
      have osa := o3 _ List.mem_cons_self
      have hvp := hpos (by omega)
      have Sa1 : Sta g ((I, oI) :: (C, oC) :: (D, LCg.lst ys) :: (sa, lobj [.ref na, .int at' t'] n') :: tl) sa na nums at' := ⟨⟨_, _, List.mem_cons_of_mem _ (List.mem_cons_of_mem _ (List.mem_cons_of_mem _ List.mem_cons_self))⟩, Sa.nl, Sa.ne, Sa.len, Sa.len2, Sa.low, Sa.high, Sa.at0, Sa.at1⟩
      ktr_unf
      rename Fr _ _ _ _ => F7
      rename News _ _ _ _ => N7
      refine kun_lenL (k := (vsl.length : Int)) (lobj_list (F7.keep _ _ hgl)) (by simp) (by omega) ?_
      ktr_unf
      refine st_walk (R := fun _ _ r at2 => ∃ k t, r = .int k t ∧ 0 ≤ k ∧ k < (vsl.length : Int) ∧ at2 = at' + 1) F7 N7 Sa1 [I, C, D] (fun Q' hQ' => next_spec (Wg.keeps F7.keep) hB0 (Sa1.at F7 N7) (by omega) (by omega) rfl (by show Ad + 1 + 2 < recursionLimit; omega) fun k t h' tk a1 a2 a3 a4 => hQ' _ _ _ _ a3 (a4 (by omega)) ⟨k, t, rfl, a1, a2, rfl⟩) ?_
      rintro r h6 tk6 tl6 t6 n6 at6 F6 N6 Sa6 sub6 off6 k6 fresh6 ⟨kx, tkx, rfl, x0, x1, rfl⟩
      have zI := N7 _ List.mem_cons_self
      have zC := N7 _ (List.mem_cons_of_mem _ List.mem_cons_self)
      have zD := N7 _ (List.mem_cons_of_mem _ (List.mem_cons_of_mem _ List.mem_cons_self))
      have off6' : ∀ p ∈ tl6, p.1 ≠ sa ∧ p.1 ≠ I ∧ p.1 ≠ C ∧ p.1 ≠ D := fun p hp => by
        have z := off6 p hp
        simpa only [List.mem_cons, List.not_mem_nil, or_false, not_or] using z
      have N6' : News g L' h6 ((I, oI) :: (C, oC) :: (D, LCg.lst ys) :: (sa, lobj [.ref na, .int (at' + 1) t6] n6) :: tl6) := fun p hp => by
        rcases List.mem_cons.mp hp with rfl | hp
        · exact ⟨k6 _ _ (Ne.symm osa.1) zI.1, zI.2⟩
        · rcases List.mem_cons.mp hp with rfl | hp
          · exact ⟨k6 _ _ (Ne.symm osa.2.1) zC.1, zC.2⟩
          · rcases List.mem_cons.mp hp with rfl | hp
            · exact ⟨k6 _ _ (Ne.symm osa.2.2) zD.1, zD.2⟩
            · exact N6 _ hp
      have sub6' : ∀ p ∈ tl, p ∈ tl6 := fun p hp => sub6 p (by simp [hp]) (off p hp) (by
        have z := o3 p (List.mem_cons_of_mem _ hp)
        simp only [List.mem_cons, List.not_mem_nil, or_false, not_or]
        exact z)
      refine LCg.CompEnd.intro F6 N6' _ (fun p hp => hp) (off3_of fun p hp => ?_) trivial ?_
      · rcases List.mem_cons.mp hp with rfl | hp
        · exact osa
        · exact (off6' p hp).2
      · refine ih (i + 1) (ys ++ [.int kx tkx]) t6 n6 (at' + 1) tl6 (by omega) (by simp [hyl]) Sa6 (fun p hp => (off6' p hp).1) (sub6' _ cT) (sub6' _ cS) (fun y hy => ?_) (by omega) (by omega)
        rcases List.mem_append.mp hy with h | h
        · exact hys y h
        · rw [List.mem_singleton.mp h]; exact ⟨kx, tkx, rfl, x0, x1⟩
theorem less_spec (n : Nat) : LessP w mean mg mb hB n := Nat.strongRecOn n fun n ih => less_step n ih
end Mine
end
section
open PySem PySem.W PySem.Spec PySem.Calls PyProof.Rows
set_option Elab.async false
set_option maxRecDepth 100000
set_option maxHeartbeats 2000000
namespace Mine
def WithP (w : World) (mean : ExcName → Option Value) (mg mb : Str → Option Value) (hB : Heap) (n : Nat) : Prop :=
  ∀ (A : Around) (s : Shared) (sa na : Addr) (nums : List Int) (at_ : Int) (v fv : Value) (c f : Doc) (P : Addr → Obj → Prop) (Q E : Value → Shared → Prop), Wld w mean mg mb hB s.heap → hB.get? sa = none → StAt s.heap sa na nums at_ → at_ + 2 * n < 1000000 →
    (∀ a o, P a o → a ≠ sa ∧ s.heap.get? a = some o) → DocIn Challenge.rw_ez0233_01.row.prog w P v c → clean c → dep c ≤ n → DocIn Challenge.rw_ez0233_01.row.prog w P fv f → f ∈ foreigns →
    A.handled = none → A.depth + 3 * n + 10 < recursionLimit → A.units + 10 * n + 60 < cLine →
    (∀ r d h' tk at', DocIn Challenge.rw_ez0233_01.row.prog w (fun a o => P a o ∨ (s.heap.get? a = none ∧ h'.get? a = some o)) r d → bad d → dep d ≤ n + 1 → (isAtom c = false → isAtom d = false) → (∀ b o, b ≠ sa → s.heap.get? b = some o → h'.get? b = some o) → StAt h' sa na nums at' → at_ ≤ at' → at' ≤ at_ + 2 * n →
      Q r { s with heap := h', toks := tk }) → wpAny (model Challenge.rw_ez0233_01.row.prog w) A (call (.ref 72) [.ref sa, v, fv]) Q E s
theorem dep_foreign : ∀ f ∈ foreigns, dep f ≤ 1 := by decide +kernel
section
variable {prog : Program} {w : World} {A : Around} {E : Value → Shared → Prop} {s : Shared} {h₀ : Heap} {L d : Addr} {m : Str → Option Value} {news : List (Addr × Obj)} {kvs : List (Str × Value)}
theorem items_view {Q : Value → Shared → Prop} (F : Fr h₀ L s.heap m) (N : News h₀ L s.heap news) (hD : s.heap.DictOf (PySem.strKind prog w) d kvs) (lo : (d == sysModules) = false)
    (h : ∀ (D : Addr) h', Fr h₀ L h' m → News h₀ L h' ((D, { cls := .type "dict_items", data := .fields #[.ref d] }) :: news) → (∀ q ∈ news, q.1 < D) → Q (.ref D) { s with heap := h' }) :
    wpAny (model prog w) A (call (.builtin "dict.items") [.ref d]) Q E s :=
  call_meetsIn PySem.F.slot_dict_items hD.typeIs PySem.F.entry_dict_items (PySem.F.args_dict_items_1 _) (meets_dict_items (PySem.strKind prog w) d lo) ⟨⟨kvs, hD⟩, h _ _ (F.push _) (News.push F N _) fun q hq => Heap.lt_size (N q hq).1⟩
theorem items_method {pl : Sem Bool} {Q : Value × List Value → Shared → Prop} (hD : s.heap.DictOf (PySem.strKind prog w) d kvs) (h : Q (.builtin "dict.items", [.ref d]) s) :
    wpAny (model prog w) A (getMethod (.ref d) (Str.ofString "items") pl) Q E s :=
  getMethod_builtin hD.typeIs PySem.F.plainAttrs_dict PySem.F.slot_dict_items PySem.F.type_dict_items hD.mapOf.noDict h
end
theorem pairs_news {prog : Program} {w : World} {g h5 h7 : Heap} {L sa : Addr} {m : Str → Option Value} {so : Obj} {D5 : Addr × Obj} {tl : List (Addr × Obj)} {kvl : List (Str × Value)} {as : List Addr} {acc : Array Value} {c : Nat} (F : Fr g L h5 m) (N : News g L h5 (D5 :: (sa, so) :: tl))
    (k7 : ∀ b o, h5.get? b = some o → h7.get? b = some o) (hl : h7.get? h5.objs.size = some { cls := .type "list", dict := none, data := .seq acc c, slots := #[] }) (hG : KdxG (PySem.strKind prog w) kvl h5.objs.size h7 as) (hacc : acc.toList = as.map Value.ref) :
    ∃ tl7, Fr g L h7 m ∧ News g L h7 ((h5.objs.size, lobj (as.map .ref) c) :: (sa, so) :: tl7) ∧ (∀ p ∈ tl7, p.1 ≠ sa ∧ p.1 ≠ h5.objs.size) ∧
      (∀ (j : Nat) (v : Value), (as.map Value.ref)[j]? = some v → ∃ a t k x, v = .ref a ∧ kvl[j]? = some (k, x) ∧ (a, ({ cls := .type "tuple", data := .seq #[.str k t, x] } : Obj)) ∈ tl7) := by
  have zs := N _ (List.mem_cons_of_mem _ List.mem_cons_self)
  have hL : @LT.lt Nat _ L h5.objs.size := F.ns.lt
  have hs : @LT.lt Nat _ sa h5.objs.size := Heap.lt_size zs.1
  have F7 := F.keeps k7
  obtain rfl : acc = (as.map Value.ref).toArray := by rw [← hacc]
  refine ⟨restX g [L, sa, h5.objs.size] h7, F7, fun p hp => ?_, fun p hp => ?_, fun j v hv => ?_⟩
  · rcases List.mem_cons.mp hp with rfl | hp
    · exact ⟨hl, Nat.ne_of_gt hL, next_is_new F⟩
    · rcases List.mem_cons.mp hp with rfl | hp
      · exact ⟨k7 _ _ zs.1, zs.2⟩
      · exact restX_news g (by simp) h7 p hp
  · have z := (restX_get hp).2.1
    simp only [List.mem_cons, List.not_mem_nil, or_false, not_or] at z
    exact z.2
  · obtain ⟨a, ha, rfl⟩ : ∃ a, as[j]? = some a ∧ v = .ref a := by
      rw [List.getElem?_map] at hv
      cases q : as[j]? with
      | none => rw [q] at hv; cases hv
      | some a => rw [q] at hv; cases hv; exact ⟨a, rfl, rfl⟩
    obtain ⟨key, k, x, hx, hk, e⟩ := hG.pairs j a ha
    obtain ⟨t, rfl⟩ := Value.isStrOf_shape hk
    have hab : @LT.lt Nat _ h5.objs.size a := hG.above a (List.mem_of_getElem? ha)
    refine ⟨a, t, k, x, rfl, hx, restX_mem e ?_ (Heap.get?_none_of_le ?_)⟩
    · simp only [List.mem_cons, List.not_mem_nil, or_false, not_or]
      exact ⟨Nat.ne_of_gt (Nat.lt_trans hL hab), Nat.ne_of_gt (Nat.lt_trans hs hab), Nat.ne_of_gt hab⟩
    · exact Nat.le_trans F.above (Nat.le_of_lt (Nat.lt_trans hL hab))
theorem storedD_self {es : List (Str × Doc)} {k : Str} {d : Doc} : (k, d) ∈ storedD es k d := by
  unfold storedD
  split
  · rename_i q
    obtain ⟨p, hp, e⟩ := List.any_eq_true.mp q
    exact List.mem_map.mpr ⟨p, hp, by simp only [decide_eq_true_eq] at e; rw [if_pos e, e]⟩
  · exact List.mem_append_right _ List.mem_cons_self
local macro_rules | `(tactic| tb_start) => `(tactic| (
  refine' enter (K := hd.heap_39 _) ?st ?sz ?X ?lim ?k6 ?k7 ?k8 ?k9 ?kB ?_ ?c2 ?c3 ?c4 ?c5
  (case X => k_asm)
  (case k6 => k_is)
  (case k7 => k_is)
  (case k9 => first | exact BindsTo.of_eq rfl | exact binds_K (by k_asm) rfl (by k_is) rfl rfl rfl)
  (case kB => exact locs rfl)
  (case c2 => exact rfl)
  (case c3 => exact rfl)
  (case c4 => exact rfl)
  (case c5 => decide)))
local macro_rules | `(tactic| k_mem) => `(tactic| first | exact List.mem_cons_self | with_reducible assumption | (refine' List.mem_cons_of_mem _ ?_; k_mem))
local macro_rules | `(tactic| walk_at "call builtin:isinstance") => `(tactic| (k_here; (with_reducible show wpAny _ _ (call _ [Value.ref _, _]) _ _ _); k_dflt (first
  | (refine' kia_one kitx_list ?X ?c ?ee ?nb ?_; (case c => exact kit_keep (by assumption) (Fr.keep (by k_asm))); (case X => k_in); (case ee => kit_is); (case nb => kit_nb); k_whole; intro _)
  | (refine' kia_one kitx_dict ?X ?c ?ee ?nb ?_; (case c => exact kit_keep (by assumption) (Fr.keep (by k_asm))); (case X => k_in); (case ee => kit_is); (case nb => kit_nb); k_whole; intro _))))
local macro_rules | `(tactic| walk_at "call builtin:isinstance") => `(tactic| (k_here; (with_reducible show wpAny _ _ (call _ [_, _]) _ _ _); k_dflt (
  (refine' isi_atom_one ?c ?hv ?X ?_; (case c => first | exact Or.inl rfl | exact Or.inr rfl); (case hv => assumption); (case X => k_in); k_whole; intro _))))
-- the walk, but it stands still before what is done by hand
local macro_rules | `(tactic| ktr_unf) => `(tactic| repeat' (
  (fail_if_success (with_reducible show wpAny _ _ (compareOp CmpOp.NotEq (Value.ref _) (Value.ref _)) _ _ _));
  (fail_if_success (with_reducible show wpAny _ _ (binaryOp Operator.Add (Value.ref _) (Value.ref _)) _ _ _));
  (fail_if_success (with_reducible show wpAny _ _ (call (Value.type "dict") _) _ _ _));
  (fail_if_success (with_reducible show wpAny _ _ (call (Value.type "list") _) _ _ _));
  (fail_if_success (with_reducible show wpAny _ _ (call (Value.builtin "sorted") _) _ _ _));
  (fail_if_success (with_reducible show wpAny _ _ (call (Value.builtin "dict.items") _) _ _ _));
  (fail_if_success (with_reducible show wpAny _ _ (call (Value.builtin "len") _) _ _ _));
  (fail_if_success (with_reducible show wpAny _ _ (getMethod _ _ _) _ _ _));
  (fail_if_success (with_reducible show wpAny _ _ (setItem _ _ _) _ _ _));
  (fail_if_success (with_reducible show wpAny _ _ (subscriptTail _ _ _ _) _ _ _));
  first | (k_unfold; (try dsimp only)) | (k_end; wrow_close) | walk1 | (dsimp only; walk1) | (leave1; walk_say "STEP leave1"; try dsimp only) | fail "no step"))
local macro_rules | `(tactic| walk_at "call ref") => `(tactic| (k_here; fail "here"))
variable {w : World} {mean : ExcName → Option Value} {mg mb : Str → Option Value} {hB : Heap}
theorem with_step (n : Nat) (IH : ∀ k, k < n → WithP w mean mg mb hB k) : WithP w mean mg mb hB n := by
  intro A s sa na nums at_ v fv c f P Q E W hB0 S hat hP hv hcl hdp hfv hff hh hdep huni hQ
  obtain ⟨Ah, Ad, Af, Ag, Au⟩ := A
  obtain rfl : Ah = none := hh
  replace hdep : Ad + 3 * n + 10 < recursionLimit := hdep
  replace huni : Au + 10 * n + 60 < cLine := huni
  have X := W.X
  have T := W.T
  obtain ⟨⟨t, ns, e1⟩, hnl, hne, hrest⟩ := id S
  have stg := stays_hide (l := [sa]) W.st (by intro a ha; rw [List.mem_singleton.mp ha]; exact hB0)
  have Xg := W.B.X.keeps stg
  have Tg := W.B.T.keeps stg
  have up : ∀ b o, (hideAll s.heap [sa]).get? b = some o → s.heap.get? b = some o := hide_stays
  have sz := hide_size (h := s.heap) (l := [sa])
  have hin : ∀ b o, b ≠ sa → s.heap.get? b = some o → (hideAll s.heap [sa]).get? b = some o := fun b o hb e => hideAll_get _ e (by simpa using hb)
  have hno : (hideAll s.heap [sa]).get? sa = none := hideAll_none _ (by simp)
  have hlt : sa < s.heap.objs.size := Heap.lt_size e1
  obtain ⟨p1, f1, r1⟩ := id W.t1
  obtain ⟨p2, f2, r2⟩ := id W.t2
  have s26 : sa ≠ 23 := not_tab f1 e1 (by intro q; cases q)
  have s34 : sa ≠ 31 := not_tab f2 e1 (by intro q; cases q)
  revert X; k_fill; intro X
  generalize hgg : hideAll s.heap [sa] = g at *
  have Wg : Wld w mean mg mb hB g := ⟨W.B, stg, ⟨p1, hin _ _ (Ne.symm s26) f1, r1⟩, ⟨p2, hin _ _ (Ne.symm s34) f2, r2⟩⟩
  have hfr : ∀ a, a ≠ sa → g.get? a = none → s.heap.get? a = none := fun a h1 h2 => by
    cases q : s.heap.get? a with
    | none => rfl
    | some o => rw [hin _ _ h1 q] at h2; cases h2
  have hPg : ∀ a o, P a o → g.get? a = some o := fun a o q => hin a o (hP a o q).1 (hP a o q).2
  have hPs : ∀ a o, P a o → a ≠ sa := fun a o q => (hP a o q).1
  have kit : (match c with | .atom x => True | .list _ => ∃ lx, v = .ref lx ∧ KitAt lx "list" g | .dict _ => ∃ lx, v = .ref lx ∧ KitAt lx "dict" g) := by
    cases hv with
    | list hlx => exact ⟨_, rfl, _, hPg _ _ hlx, rfl⟩
    | dict hlx _ hdx => exact ⟨_, rfl, _, hPg _ _ hlx, hdx.1.1⟩
    | _ => trivial
  cases c with
  | atom x =>
    k_dflt tb_start
    (case st => exact up)
    (case sz => exact sz)
    (case lim => exact T.nolimit)
    (case k8 => show Ad < recursionLimit; omega)
    intro L' h₁ tk hL F hk
    have N : News g L' h₁ [(sa, lobj [.ref na, .int at_ t] ns)] := fun p hp => by
      rw [List.mem_singleton.mp hp]; exact ⟨hk _ _ e1, Nat.ne_of_lt (hL ▸ hlt), hno⟩
    have St : Sta g [(sa, lobj [.ref na, .int at_ t] ns)] sa na nums at_ := ⟨⟨_, _, List.Mem.head _⟩, (let ⟨vs, n2, e, hI⟩ := hnl; ⟨vs, n2, hin _ _ hne e, hI⟩), S.ne, S.len, S.len2, S.low, S.high, S.at0, S.at1⟩
    have hsaL : @LT.lt Nat _ sa L' := hL ▸ hlt
    try dsimp only
    try k_fold
    ktr_unf
    rename Fr _ _ _ _ => F2
    rename News _ _ _ _ => N2
    exact hQ fv f _ _ at_ (hfv.mono fun a o q _ => .inl q) (bad_foreign f hff) (Nat.le_trans (dep_foreign f hff) (by omega)) (fun q => by cases q) (fun b o hb e => F2.keep b o (hin b o hb e)) (St.at F2 N2) (Int.le_refl _) (by omega)
  | dict es =>
    obtain ⟨lv, rfl, kv⟩ := kit
    obtain ⟨n, rfl⟩ : ∃ k, n = k + 1 := ⟨n - 1, by have : dep (.dict es) = depK es + 1 := rfl; omega⟩
    have hlen3 := clean_len hcl
    obtain ⟨hnod0, hck⟩ := id hcl
    rw [cleanK_iff] at hck
    have hdk : depK es ≤ n := Nat.le_of_succ_le_succ hdp
    cases id hv with
    | @dict _ ol kvl _ hPl hls hld hvl =>
    have hgl := hPg _ _ hPl
    obtain ⟨ep, hDA⟩ := dobj_at hgl hld
    have hlv3 : kvl.length ≤ 3 := by rw [hvl.length]; exact hlen3
    have hlvs : lv ≠ sa := hPs _ _ hPl
    have hnodv : (kvl.map (·.1)).Nodup := by obtain ⟨_, _, _, _, _, _, z⟩ := hld; exact z
    k_dflt tb_start
    (case st => exact up)
    (case sz => exact sz)
    (case lim => exact T.nolimit)
    (case k8 => show Ad < recursionLimit; omega)
    intro L' h₁ tk hL F hk
    have N : News g L' h₁ [(sa, lobj [.ref na, .int at_ t] ns)] := fun p hp => by
      rw [List.mem_singleton.mp hp]; exact ⟨hk _ _ e1, Nat.ne_of_lt (hL ▸ hlt), hno⟩
    have St : Sta g [(sa, lobj [.ref na, .int at_ t] ns)] sa na nums at_ := ⟨⟨_, _, List.Mem.head _⟩, (let ⟨vs, n2, e, hI⟩ := hnl; ⟨vs, n2, hin _ _ hne e, hI⟩), S.ne, S.len, S.len2, S.low, S.high, S.at0, S.at1⟩
    have hsaL : @LT.lt Nat _ sa L' := hL ▸ hlt
    try dsimp only
    try k_fold
    ktr_unf
    rename_i d0 h2 o0 F2 N2 lo0 hs0 _ _ _ l10
    refine ne_dict hls lo0 (dobj_of (F2.keep _ _ hgl) hld) (kda_dict N2 List.mem_cons_self hs0) (by show Au + _ < cLine; omega) ?_
    cases hemp : kvl.isEmpty
    · simp only [Bool.not_false]
      ktr_unf
      refine st_walk (R := fun _ _ r at2 => ∃ k t, r = .int k t ∧ 0 ≤ k ∧ k < 2 ∧ at2 = at_ + 1) F2 N2 ⟨⟨_, _, List.mem_cons_of_mem _ List.mem_cons_self⟩, St.nl, St.ne, St.len, St.len2, St.low, St.high, St.at0, St.at1⟩ [] (fun Q' hQ' => next_spec (Wg.keeps F2.keep) hB0 (St.at F2 fun p hp => N2 p (List.mem_cons_of_mem _ hp)) (by decide) (by decide) rfl (by show Ad + 1 + 2 < recursionLimit; omega) fun k t h' tk a1 a2 a3 a4 => hQ' _ _ _ _ a3 (a4 (by omega)) ⟨k, t, rfl, a1, a2, rfl⟩) ?_
      rintro r h3 tk3 tl3 t3 n3 at3 F3 N3 St3 sub3 off3 k3 fresh3 ⟨kk, tk9, rfl, w2, w3, rfl⟩
      clear F2 N2 St
      ktr_unf
      · refine sorted_dict hls rfl F3 N3 (hDA.at' fun o e => F3.keep _ _ e) (by omega) fun D4 h4 tk4 vs4 c4 F4 N4 lt4 hlen4 hvs4 => ?_
        clear F3 N3
        ktr_unf
        rename Fr _ _ _ _ => F5
        rename News _ _ _ _ => N5
        have hkp : 0 < kvl.length := by cases kvl with | nil => cases hemp | cons => simp
        refine kun_lenL (k := (kvl.length : Int)) (lobj_list (N5.get List.mem_cons_self)) (by simp [hlen4]) (by omega) ?_
        ktr_unf
        have St5 : Sta g ((D4, lobj vs4 c4) :: (sa, lobj [.ref na, .int (at_ + 1) t3] n3) :: tl3) sa na nums (at_ + 1) := ⟨⟨_, _, List.mem_cons_of_mem _ List.mem_cons_self⟩, St3.nl, St3.ne, St3.len, St3.len2, St3.low, St3.high, St3.at0, St3.at1⟩
        refine st_walk (R := fun _ _ r at2 => ∃ k t, r = .int k t ∧ 0 ≤ k ∧ k < (kvl.length : Int) ∧ at2 = at_ + 1 + 1) F5 N5 St5 [] (fun Q' hQ' => next_spec (Wg.keeps F5.keep) hB0 (St5.at F5 N5) (by omega) (by omega) rfl (by show Ad + 1 + 2 < recursionLimit; omega) fun k t h' tk a1 a2 a3 a4 => hQ' _ _ _ _ a3 (a4 (by omega)) ⟨k, t, rfl, a1, a2, rfl⟩) ?_
        rintro r h6 tk6 tl6 t6 n6 at6 F6 N6 St6 sub6 off6 k6 fresh6 ⟨kx, tkx, rfl, x0, x1, rfl⟩
        have hD4s : D4 ≠ sa := Nat.ne_of_gt (lt4 _ List.mem_cons_self)
        have hm6 : (D4, lobj vs4 c4) ∈ tl6 := sub6 _ List.mem_cons_self hD4s (by simp)
        clear F5 N5 St5
        ktr_unf
        obtain ⟨v4, hv4⟩ : ∃ v4, vs4[kx.toNat]? = some v4 := ⟨_, List.getElem?_eq_getElem (by omega)⟩
        obtain ⟨k, vx, t4, hkx, rfl⟩ := hvs4 v4 (List.mem_of_getElem? hv4)
        refine item_doc (lobj_list (N6.get (List.mem_cons_of_mem _ hm6))) x0 (by omega) hv4 ?_ (by with_unfolding_all rfl)
        ktr_unf
        rename Fr _ _ _ _ => F7
        rename News _ _ _ _ => N7
        rename Heap => hq8
        refine kt_call_dict (knd := PySem.strKind _ _) hls (dobj_of (F7.keep _ _ hgl) hld) (by rw [sizeLine_eq]; omega) fun h8 hd8 hs8 => ?_
        dsimp only at hd8 hs8 ⊢
        obtain ⟨o8, e8, x8⟩ := dobj_back hd8
        have kp8 : ∀ b o, hq8.get? b = some o → h8.get? b = some o := fun b o e => hs8.extBut b o (Nat.ne_of_lt (Heap.lt_size e)) (Heap.get?_push_of_some _ e)
        have F8 := F7.keeps kp8
        have lo8 : (hq8.objs.size == sysModules) = false := F7.notModules (modules_low Tg.nolimit)
        have g8 : g.get? hq8.objs.size = none := next_is_new F7
        have L8 : hq8.objs.size ≠ L' := Nat.ne_of_gt F7.ns.lt
        have s8 : hq8.objs.size ≠ sa := Nat.ne_of_gt (Heap.lt_size (N7.get List.mem_cons_self))
        have off8 : ∀ p ∈ tl6, p.1 ≠ hq8.objs.size := fun p hp => Nat.ne_of_lt (Heap.lt_size (N7 p (List.mem_cons_of_mem _ hp)).1)
        have N8 : News g L' h8 ((sa, lobj [.ref na, .int (at_ + 1 + 1) t6] n6) :: (hq8.objs.size, o8) :: tl6) := fun p hp => by
          rcases List.mem_cons.mp hp with rfl | hp
          · have z := N7 _ List.mem_cons_self; exact ⟨kp8 _ _ z.1, z.2⟩
          · rcases List.mem_cons.mp hp with rfl | hp
            · exact ⟨e8, L8, g8⟩
            · have z := N7 _ (List.mem_cons_of_mem _ hp); exact ⟨kp8 _ _ z.1, z.2⟩
        have fr8 := hfr _ s8 g8
        have St8 : Sta g ((sa, lobj [.ref na, .int (at_ + 1 + 1) t6] n6) :: (hq8.objs.size, o8) :: tl6) sa na nums (at_ + 1 + 1) := ⟨⟨_, _, List.mem_cons_self⟩, St6.nl, St6.ne, St6.len, St6.len2, St6.low, St6.high, St6.at0, St6.at1⟩
        clear F7 N7 hs8 hd8 kp8
        generalize hq8.objs.size = D8 at *
        ktr_unf
        rename Fr _ _ _ _ => F9
        rename News _ _ _ _ => N9
        refine sub_doc F9 (dobj_of hgl hld) (look_of_mem hnodv hkx) ?_ (by with_unfolding_all rfl)
        ktr_unf
        obtain ⟨j8, hj8⟩ := List.mem_iff_getElem?.mp hkx
        obtain ⟨x, hx0, hxv⟩ := hvl.get hj8
        have hxm := List.mem_of_getElem? hx0
        have z8 := N9 _ (List.mem_cons_of_mem _ List.mem_cons_self)
        refine st_walk (R := fun hp hq r at2 => ∃ d, DocIn Challenge.rw_ez0233_01.row.prog w (fun a o => P a o ∨ (hp.get? a = none ∧ hq.get? a = some o)) r d ∧ bad d ∧ dep d ≤ n + 1 ∧ at_ + 1 + 1 ≤ at2 ∧ at2 ≤ at_ + 1 + 1 + 2 * n) F9 N9 St8 [D8] (fun Q' hQ' => IH n (Nat.lt_succ_self n) _ _ sa na nums (at_ + 1 + 1) vx fv x f P Q' _ (Wg.keeps F9.keep) hB0 (St8.at F9 N9) (by omega) (fun a o q => ⟨hPs a o q, F9.keep _ _ (hPg a o q)⟩) hxv (hck _ hxm).2 (Nat.le_trans (dep_memK hxm) hdk) hfv hff rfl (by show Ad + 1 + 3 * n + 10 < recursionLimit; omega) (by show Au + _ + 10 * n + 60 < cLine; omega) fun r d h' tk at2 a1 a2 a3 _ a4 a5 a6 a7 => hQ' _ _ _ _ a4 a5 ⟨d, a1, a2, a3, a6, a7⟩) ?_
        rintro r hB1 tkB tlB tB nB atB FB NB StB subB offB kB freshB ⟨d, hr, hbd, hdpB, hlo, hhi⟩
        have NB' : News g L' hB1 ((sa, lobj [.ref na, .int atB tB] nB) :: (D8, o8) :: tlB) := fun p hp => by
          rcases List.mem_cons.mp hp with rfl | hp
          · exact NB _ List.mem_cons_self
          · rcases List.mem_cons.mp hp with rfl | hp
            · exact ⟨kB _ _ s8 z8.1, z8.2⟩
            · exact NB _ (List.mem_cons_of_mem _ hp)
        have oldB := was_none F9 N9 List.mem_cons_self hin
        have hr2 : DocIn Challenge.rw_ez0233_01.row.prog w (fun a o => P a o ∨ (s.heap.get? a = none ∧ (a, o) ∈ tlB)) r d := hr.mono fun a o q _ => q.elim .inl fun ⟨e1, e2⟩ => .inr ⟨oldB a e1, freshB a o e1 (by
          simp only [List.mem_cons, List.not_mem_nil, or_false]
          exact fun q => (by dsimp only at z8 e1; rw [q, z8.1] at e1; cases e1)) e2⟩
        have offB' : ∀ p ∈ tlB, p.1 ≠ D8 := fun p hp => by
          have := (offB p hp).2
          simpa using this
        have hky : ∀ k ∈ kvl.map (·.1), k ∈ keyz := fun k hk => by
          rw [hvl.keys] at hk
          obtain ⟨p, hp, rfl⟩ := List.mem_map.mp hk
          exact (hck p hp).1
        have sB0 := StB.at0
        have sB1 := StB.at1
        clear NB F9 N9
        ktr_unf
        refine set_step FB NB' (Ne.symm (Ne.symm s8)) offB' x8 hky fun hC oC FC NC xC => ?_
        clear FB NB'
        ktr_unf
        exact hQ _ (.dict (storedD es k d)) hC _ _ (.dict (.inr ⟨fr8, NC.get (List.mem_cons_of_mem _ List.mem_cons_self)⟩) lo8 xC (KvsIn.stored (hvl.mono fun a o q _ => .inl q) (hr2.mono fun a o q _ => q.imp id fun ⟨e1, e2⟩ => ⟨e1, NC.get (List.mem_cons_of_mem _ (List.mem_cons_of_mem _ e2))⟩)))
          (bad_dict storedD_self (.inr hbd))
          (Nat.succ_le_succ (depK_le fun p hp => by
            rcases storedD_mem p hp with hp | rfl
            · exact Nat.le_trans (dep_memK hp) (Nat.le_trans hdk (Nat.le_succ n))
            · exact hdpB))
          (fun _ => rfl) (fun b o hb e => FC.keep b o (hin b o hb e)) (Sta.at (at_ := atB) ⟨⟨_, _, List.mem_cons_self⟩, StB.nl, StB.ne, StB.len, StB.len2, StB.low, StB.high, sB0, sB1⟩ FC NC) (by omega) (by omega)
      · ktr_unf
        rename Fr _ _ _ _ => F5
        rename News _ _ _ _ => N5
        refine items_method (dobj_of (F5.keep _ _ hgl) hld) ?_
        ktr_unf
        refine items_view F5 N5 (dobj_of (F5.keep _ _ hgl) hld) hls fun D5 h5 F6 N6 l6 => ?_
        clear F5 N5
        ktr_unf
        refine kdx_call (knd := PySem.strKind _ _) (kvs := kvl) (ep := ep) rfl ⟨_, N6.get List.mem_cons_self, rfl, rfl⟩ (hDA.at' fun o e => F6.keep _ _ e) (by rw [sizeLine_eq]; omega) fun h7 tk7 acc c7 as k7 hl7 hlen7 hG7 hacc7 => ?_
        dsimp only at k7 hl7 hG7 ⊢
        obtain ⟨tl7, F7, N7, off7, tup7⟩ := pairs_news F6 N6 k7 hl7 hG7 hacc7
        clear hG7 hl7 k7 N6 F6
        generalize h5.objs.size = D7 at *
        ktr_unf
        rename_i l8 h8 F8 N8 lt8
        refine add_lists (vs := as.map .ref) (ws := [.ref h7.objs.size]) F8 N8 (lobj_list (N8.get (List.mem_cons_of_mem _ (List.mem_cons_of_mem _ List.mem_cons_self)))) ⟨_, N8.get List.mem_cons_self, rfl, _, rfl⟩ (hsz := by rw [sizeLine_eq]; simp; omega) fun h9 F9 N9 => ?_
        try clear F8 N8
        ktr_unf
        have hzk : Str.ofString "z" ∉ kvl.map (·.1) := fun q => by
          rw [hvl.keys] at q
          obtain ⟨p, hp, e⟩ := List.mem_map.mp q
          have := (hck p hp).1
          rw [e] at this
          exact absurd this (by decide +kernel)
        refine dict_pairs (vs := as.map .ref ++ [.ref h7.objs.size]) (kvs := kvl ++ [(Str.ofString "z", fv)]) (nl := 0) rfl (N9.get List.mem_cons_self) (by simp [hlen7]) (by simp; omega) ?nod ?prs fun hA tkA kA hdA => ?_
        case nod =>
          rw [List.map_append, List.nodup_append]
          refine ⟨hnodv, by simp, fun a ha b hb => ?_⟩
          simp only [List.map_cons, List.map_nil, List.mem_singleton] at hb
          rw [hb]; exact fun q => hzk (q ▸ ha)
        case prs =>
          intro j v hv
          rcases Nat.lt_or_ge j as.length with q | q
          · rw [List.getElem?_append_left (by simpa using q)] at hv
            obtain ⟨a, t, k, x, rfl, hx, hm⟩ := tup7 j v hv
            exact ⟨a, 0, t, k, x, rfl, by rw [List.getElem?_append_left (by omega)]; exact hx, N9.get (List.mem_cons_of_mem _ (List.mem_cons_of_mem _ (List.mem_cons_of_mem _ (List.mem_cons_of_mem _ (List.mem_cons_of_mem _ hm)))))⟩
          · rw [List.getElem?_append_right (by simpa using q)] at hv
            obtain ⟨rfl, rfl⟩ : j = as.length ∧ v = .ref h7.objs.size := by
              rw [List.length_map] at hv
              rcases Nat.eq_or_lt_of_le q with e | e
              · rw [← e] at hv; simp at hv; exact ⟨e.symm, hv.symm⟩
              · rw [List.getElem?_eq_none (by simp; omega)] at hv; cases hv
            exact ⟨_, _, _, _, _, rfl, by rw [List.getElem?_append_right (by omega)]; simp [hlen7], N9.get (List.mem_cons_of_mem _ (List.mem_cons_of_mem _ List.mem_cons_self))⟩
        obtain ⟨oA, eA, xA⟩ := dobj_back hdA
        have FA := F9.keeps kA
        have NA : News g L' hA ((sa, lobj [.ref na, .int (at_ + 1) t3] n3) :: tl7) := fun p hp => by
          have z := N9 p (List.mem_cons_of_mem _ (List.mem_cons_of_mem _ (List.mem_cons_of_mem _ (List.mem_cons_of_mem _ hp))))
          exact ⟨kA _ _ z.1, z.2⟩
        have hsA : @LT.lt Nat _ sa h9.objs.size := Heap.lt_size (N9.get (List.mem_cons_of_mem _ (List.mem_cons_of_mem _ (List.mem_cons_of_mem _ (List.mem_cons_of_mem _ List.mem_cons_self)))))
        have frA : s.heap.get? h9.objs.size = none := hfr _ (Nat.ne_of_gt hsA) (next_is_new F9)
        have loA : (h9.objs.size == sysModules) = false := F9.notModules (modules_low Tg.nolimit)
        clear N9 F9
        ktr_unf
        exact hQ _ (.dict (es ++ [(Str.ofString "z", f)])) hA _ _ (.dict (.inr ⟨frA, eA⟩) loA xA ((hvl.mono fun a o q _ => .inl q).append (.cons (hfv.mono fun a o q _ => .inl q) .nil)))
          (bad_dict (List.mem_append_right _ List.mem_cons_self) (.inl (by decide +kernel)))
          (Nat.succ_le_succ (depK_le fun p hp => by
            rcases List.mem_append.mp hp with hp | hp
            · exact Nat.le_trans (dep_memK hp) (Nat.le_trans hdk (Nat.le_succ n))
            · rw [List.mem_singleton.mp hp]; exact Nat.le_trans (dep_foreign f hff) (by omega)))
          (fun _ => rfl) (fun b o hb e => FA.keep b o (hin b o hb e)) (Sta.at (at_ := (at_ + 1)) ⟨⟨_, _, List.mem_cons_self⟩, St3.nl, St3.ne, St3.len, St3.len2, St3.low, St3.high, St3.at0, St3.at1⟩ FA NA) (by omega) (by omega)
    · simp only [Bool.not_true]
      have N3 : News g L' h2 ((sa, lobj [.ref na, .int at_ t] ns) :: [(d0, o0)]) := fun p hp => N2 p (by simp only [List.mem_cons, List.not_mem_nil, or_false] at hp ⊢; exact hp.symm)
      clear N2
      ktr_unf
      rename Fr _ _ _ _ => F5
      rename News _ _ _ _ => N5
      refine items_method (dobj_of (F5.keep _ _ hgl) hld) ?_
      ktr_unf
      refine items_view F5 N5 (dobj_of (F5.keep _ _ hgl) hld) hls fun D5 h5 F6 N6 l6 => ?_
      clear F5 N5
      ktr_unf
      refine kdx_call (knd := PySem.strKind _ _) (kvs := kvl) (ep := ep) rfl ⟨_, N6.get List.mem_cons_self, rfl, rfl⟩ (hDA.at' fun o e => F6.keep _ _ e) (by rw [sizeLine_eq]; omega) fun h7 tk7 acc c7 as k7 hl7 hlen7 hG7 hacc7 => ?_
      dsimp only at k7 hl7 hG7 ⊢
      obtain ⟨tl7, F7, N7, off7, tup7⟩ := pairs_news F6 N6 k7 hl7 hG7 hacc7
      clear hG7 hl7 k7 N6 F6
      generalize h5.objs.size = D7 at *
      ktr_unf
      rename_i l8 h8 F8 N8 lt8
      refine add_lists (vs := as.map .ref) (ws := [.ref h7.objs.size]) F8 N8 (lobj_list (N8.get (List.mem_cons_of_mem _ (List.mem_cons_of_mem _ List.mem_cons_self)))) ⟨_, N8.get List.mem_cons_self, rfl, _, rfl⟩ (hsz := by rw [sizeLine_eq]; simp; omega) fun h9 F9 N9 => ?_
      try clear F8 N8
      ktr_unf
      have hzk : Str.ofString "z" ∉ kvl.map (·.1) := fun q => by
        rw [hvl.keys] at q
        obtain ⟨p, hp, e⟩ := List.mem_map.mp q
        have := (hck p hp).1
        rw [e] at this
        exact absurd this (by decide +kernel)
      refine dict_pairs (vs := as.map .ref ++ [.ref h7.objs.size]) (kvs := kvl ++ [(Str.ofString "z", fv)]) (nl := 0) rfl (N9.get List.mem_cons_self) (by simp [hlen7]) (by simp; omega) ?nod ?prs fun hA tkA kA hdA => ?_
      case nod =>
        rw [List.map_append, List.nodup_append]
        refine ⟨hnodv, by simp, fun a ha b hb => ?_⟩
        simp only [List.map_cons, List.map_nil, List.mem_singleton] at hb
        rw [hb]; exact fun q => hzk (q ▸ ha)
      case prs =>
        intro j v hv
        rcases Nat.lt_or_ge j as.length with q | q
        · rw [List.getElem?_append_left (by simpa using q)] at hv
          obtain ⟨a, t, k, x, rfl, hx, hm⟩ := tup7 j v hv
          exact ⟨a, 0, t, k, x, rfl, by rw [List.getElem?_append_left (by omega)]; exact hx, N9.get (List.mem_cons_of_mem _ (List.mem_cons_of_mem _ (List.mem_cons_of_mem _ (List.mem_cons_of_mem _ (List.mem_cons_of_mem _ hm)))))⟩
        · rw [List.getElem?_append_right (by simpa using q)] at hv
          obtain ⟨rfl, rfl⟩ : j = as.length ∧ v = .ref h7.objs.size := by
            rw [List.length_map] at hv
            rcases Nat.eq_or_lt_of_le q with e | e
            · rw [← e] at hv; simp at hv; exact ⟨e.symm, hv.symm⟩
            · rw [List.getElem?_eq_none (by simp; omega)] at hv; cases hv
          exact ⟨_, _, _, _, _, rfl, by rw [List.getElem?_append_right (by omega)]; simp [hlen7], N9.get (List.mem_cons_of_mem _ (List.mem_cons_of_mem _ List.mem_cons_self))⟩
      obtain ⟨oA, eA, xA⟩ := dobj_back hdA
      have FA := F9.keeps kA
      have NA : News g L' hA ((sa, lobj [.ref na, .int at_ t] ns) :: tl7) := fun p hp => by
        have z := N9 p (List.mem_cons_of_mem _ (List.mem_cons_of_mem _ (List.mem_cons_of_mem _ (List.mem_cons_of_mem _ hp))))
        exact ⟨kA _ _ z.1, z.2⟩
      have hsA : @LT.lt Nat _ sa h9.objs.size := Heap.lt_size (N9.get (List.mem_cons_of_mem _ (List.mem_cons_of_mem _ (List.mem_cons_of_mem _ (List.mem_cons_of_mem _ List.mem_cons_self)))))
      have frA : s.heap.get? h9.objs.size = none := hfr _ (Nat.ne_of_gt hsA) (next_is_new F9)
      have loA : (h9.objs.size == sysModules) = false := F9.notModules (modules_low Tg.nolimit)
      clear N9 F9
      ktr_unf
      exact hQ _ (.dict (es ++ [(Str.ofString "z", f)])) hA _ _ (.dict (.inr ⟨frA, eA⟩) loA xA ((hvl.mono fun a o q _ => .inl q).append (.cons (hfv.mono fun a o q _ => .inl q) .nil)))
        (bad_dict (List.mem_append_right _ List.mem_cons_self) (.inl (by decide +kernel)))
        (Nat.succ_le_succ (depK_le fun p hp => by
          rcases List.mem_append.mp hp with hp | hp
          · exact Nat.le_trans (dep_memK hp) (Nat.le_trans hdk (Nat.le_succ n))
          · rw [List.mem_singleton.mp hp]; exact Nat.le_trans (dep_foreign f hff) (by omega)))
        (fun _ => rfl) (fun b o hb e => FA.keep b o (hin b o hb e)) (Sta.at (at_ := at_) ⟨⟨_, _, List.mem_cons_self⟩, St.nl, St.ne, St.len, St.len2, St.low, St.high, St.at0, St.at1⟩ FA NA) (by omega) (by omega)
  | list ds =>
    obtain ⟨lv, rfl, kv⟩ := kit
    obtain ⟨n, rfl⟩ : ∃ k, n = k + 1 := ⟨n - 1, by have : dep (.list ds) = depL ds + 1 := rfl; omega⟩
    obtain ⟨hlen3, hck⟩ := id hcl
    rw [cleanL_iff] at hck
    have hdk : depL ds ≤ n := Nat.le_of_succ_le_succ hdp
    cases id hv with
    | @list _ nl vsl _ hPl hvl =>
    have hgl := hPg _ _ hPl
    have hlv3 : vsl.length ≤ 3 := by rw [hvl.length]; exact hlen3
    have hlvs : lv ≠ sa := hPs _ _ hPl
    k_dflt tb_start
    (case st => exact up)
    (case sz => exact sz)
    (case lim => exact T.nolimit)
    (case k8 => show Ad < recursionLimit; omega)
    intro L' h₁ tk hL F hk
    have N : News g L' h₁ [(sa, lobj [.ref na, .int at_ t] ns)] := fun p hp => by
      rw [List.mem_singleton.mp hp]; exact ⟨hk _ _ e1, Nat.ne_of_lt (hL ▸ hlt), hno⟩
    have St : Sta g [(sa, lobj [.ref na, .int at_ t] ns)] sa na nums at_ := ⟨⟨_, _, List.Mem.head _⟩, (let ⟨vs, n2, e, hI⟩ := hnl; ⟨vs, n2, hin _ _ hne e, hI⟩), S.ne, S.len, S.len2, S.low, S.high, S.at0, S.at1⟩
    have hsaL : @LT.lt Nat _ sa L' := hL ▸ hlt
    try dsimp only
    try k_fold
    ktr_unf
    rename Fr _ _ _ _ => F2
    rename News _ _ _ _ => N2
    refine ne_nil (lobj_list (F2.keep _ _ hgl)) ⟨_, N2.get List.mem_cons_self, rfl, _, rfl⟩ (by show Au + _ < cLine; omega) ?_
    cases hemp : vsl.isEmpty
    · simp only [Bool.not_false]
      ktr_unf
      refine st_walk (R := fun _ _ r at2 => ∃ k t, r = .int k t ∧ 0 ≤ k ∧ k < 2 ∧ at2 = at_ + 1) F2 N2 ⟨⟨_, _, List.mem_cons_of_mem _ List.mem_cons_self⟩, St.nl, St.ne, St.len, St.len2, St.low, St.high, St.at0, St.at1⟩ [] (fun Q' hQ' => next_spec (Wg.keeps F2.keep) hB0 (St.at F2 fun p hp => N2 p (List.mem_cons_of_mem _ hp)) (by decide) (by decide) rfl (by show Ad + 1 + 2 < recursionLimit; omega) fun k t h' tk a1 a2 a3 a4 => hQ' _ _ _ _ a3 (a4 (by omega)) ⟨k, t, rfl, a1, a2, rfl⟩) ?_
      rintro r h3 tk3 tl3 t3 n3 at3 F3 N3 St3 sub3 off3 k3 fresh3 ⟨kk, tk9, rfl, w2, w3, rfl⟩
      clear F2 N2 St
      ktr_unf
      · have hkp : 0 < vsl.length := by cases vsl with | nil => cases hemp | cons => simp
        refine kun_lenL (k := (vsl.length : Int)) (lobj_list (F3.keep _ _ hgl)) (by simp) (by omega) ?_
        ktr_unf
        refine st_walk (R := fun _ _ r at2 => ∃ k t, r = .int k t ∧ 0 ≤ k ∧ k < (vsl.length : Int) ∧ at2 = at_ + 1 + 1) F3 N3 St3 [] (fun Q' hQ' => next_spec (Wg.keeps F3.keep) hB0 (St3.at F3 N3) (by omega) (by omega) rfl (by show Ad + 1 + 2 < recursionLimit; omega) fun k t h' tk a1 a2 a3 a4 => hQ' _ _ _ _ a3 (a4 (by omega)) ⟨k, t, rfl, a1, a2, rfl⟩) ?_
        rintro r h6 tk6 tl6 t6 n6 at6 F6 N6 St6 sub6 off6 k6 fresh6 ⟨kx, tkx, rfl, x0, x1, rfl⟩
        obtain ⟨j, rfl⟩ : ∃ j : Nat, kx = (j : Int) := ⟨kx.toNat, by omega⟩
        have hj : j < vsl.length := by omega
        obtain ⟨vx, hvx⟩ : ∃ vx, vsl[j]? = some vx := ⟨_, List.getElem?_eq_getElem hj⟩
        obtain ⟨x, hxd⟩ : ∃ x, ds[j]? = some x := ⟨_, List.getElem?_eq_getElem (by rw [← hvl.length]; omega)⟩
        have hxv := hvl.get hvx hxd
        have hxm := List.mem_of_getElem? hxd
        clear F3 N3 St3
        ktr_unf
        rename Fr _ _ _ _ => F7
        rename News _ _ _ _ => N7
        rename Heap => h7
        refine slice_list F7 N7 (lobj_list (F7.keep _ _ hgl)) .none (.int _ _) (hsz := by rw [sizeLine_eq]; simp; omega) fun h8 F8 N8 => ?_
        have e8 : slicePick vsl.toArray none (some (j : Int)) none = (vsl.take j).toArray := slicePick_upto' _ _
        rw [e8] at N8
        have hD8 : h7.objs.size + 1 ≠ sa := neA (Nat.ne_of_gt (Nat.lt_succ_of_lt (Heap.lt_size (N7.get List.mem_cons_self))))
        clear F7 N7
        dsimp only
        generalize h7.objs.size + 1 = D8 at *
        have St8 : Sta g ((D8, lobj (vsl.take j) 0) :: (sa, lobj [.ref na, .int (at_ + 1 + 1) t6] n6) :: tl6) sa na nums (at_ + 1 + 1) := ⟨⟨_, _, List.mem_cons_of_mem _ List.mem_cons_self⟩, St6.nl, St6.ne, St6.len, St6.len2, St6.low, St6.high, St6.at0, St6.at1⟩
        ktr_unf
        rename Fr _ _ _ _ => F9
        rename News _ _ _ _ => N9
        refine item_doc (lobj_list (F9.keep _ _ hgl)) x0 (by omega) (by simpa using hvx) ?_ (by with_unfolding_all rfl)
        ktr_unf
        refine st_walk (R := fun hp hq r at2 => ∃ d, DocIn Challenge.rw_ez0233_01.row.prog w (fun a o => P a o ∨ (hp.get? a = none ∧ hq.get? a = some o)) r d ∧ bad d ∧ dep d ≤ n + 1 ∧ at_ + 1 + 1 ≤ at2 ∧ at2 ≤ at_ + 1 + 1 + 2 * n) F9 N9 St8 [] (fun Q' hQ' => IH n (Nat.lt_succ_self n) _ _ sa na nums (at_ + 1 + 1) vx fv x f P Q' _ (Wg.keeps F9.keep) hB0 (St8.at F9 N9) (by omega) (fun a o q => ⟨hPs a o q, F9.keep _ _ (hPg a o q)⟩) hxv (hck _ hxm) (Nat.le_trans (dep_mem hxm) hdk) hfv hff rfl (by show Ad + 1 + 3 * n + 10 < recursionLimit; omega) (by show Au + _ + 10 * n + 60 < cLine; omega) fun r d h' tk at2 a1 a2 a3 _ a4 a5 a6 a7 => hQ' _ _ _ _ a4 a5 ⟨d, a1, a2, a3, a6, a7⟩) ?_
        rintro r hB1 tkB tlB tB nB atB FB NB StB subB offB kB freshB ⟨d, hr, hbd, hdpB, hlo, hhi⟩
        have oldB := was_none F9 N9 (List.mem_cons_of_mem _ List.mem_cons_self) hin
        have hr2 : DocIn Challenge.rw_ez0233_01.row.prog w (fun a o => P a o ∨ (s.heap.get? a = none ∧ (a, o) ∈ tlB)) r d := hr.mono fun a o q _ => q.elim .inl fun ⟨e1, e2⟩ => .inr ⟨oldB a e1, freshB a o e1 (by simp) e2⟩
        have mB : (D8, lobj (vsl.take j) 0) ∈ tlB := subB _ List.mem_cons_self hD8 (by simp)
        clear F9 N9 St8
        ktr_unf
        rename_i lE hE FE NE ltE
        refine add_lists (vs := vsl.take j) (ws := [r]) FE NE (lobj_list (NE.get (List.mem_cons_of_mem _ (List.mem_cons_of_mem _ mB)))) ⟨_, NE.get List.mem_cons_self, rfl, _, rfl⟩ (hsz := by rw [sizeLine_eq]; simp; omega) fun hG FG NG => ?_
        try clear FE NE
        try clear FB NB
        generalize hE.objs.size = DG at *
        ktr_unf
        rename Fr _ _ _ _ => FH
        rename News _ _ _ _ => NH
        rename Heap => hH
        refine slice_list FH NH (lobj_list (FH.keep _ _ hgl)) (.int _ _) .none (hsz := by rw [sizeLine_eq]; simp; omega) fun hI FI NI => ?_
        have eI : slicePick vsl.toArray (some ((j : Int) + 1)) none none = (vsl.drop (j + 1)).toArray := slicePick_from' _ (j + 1)
        rw [eI] at NI
        clear FH NH
        dsimp only
        generalize hH.objs.size + 1 = DI at *
        ktr_unf
        rename Fr _ _ _ _ => FJ
        rename News _ _ _ _ => NJ
        rename Heap => hJ
        refine add_lists (vs := vsl.take j ++ [r]) (ws := vsl.drop (j + 1)) FJ NJ (lobj_list (NJ.get (List.mem_cons_of_mem _ List.mem_cons_self))) (lobj_list (NJ.get List.mem_cons_self)) (hsz := by rw [sizeLine_eq]; simp; omega) fun hK FK NK => ?_
        have hsK : @LT.lt Nat _ sa hJ.objs.size := Heap.lt_size (NJ.get (List.mem_cons_of_mem _ (List.mem_cons_of_mem _ (List.mem_cons_of_mem _ List.mem_cons_self))))
        have frK : s.heap.get? hJ.objs.size = none := hfr _ (Nat.ne_of_gt hsK) (next_is_new FJ)
        try clear FJ NJ
        have sB0 := StB.at0
        have sB1 := StB.at1
        ktr_unf
        exact hQ _ (.list ((ds.take j ++ [d]) ++ ds.drop (j + 1))) hK _ _ (.list (.inr ⟨frK, NK.get List.mem_cons_self⟩)
          ((((hvl.mono fun a o q _ => .inl q).take j).append (.cons (hr2.mono fun a o q _ => q.imp id fun ⟨e1, e2⟩ => ⟨e1, NK.get (List.mem_cons_of_mem _ (List.mem_cons_of_mem _ (List.mem_cons_of_mem _ (List.mem_cons_of_mem _ (List.mem_cons_of_mem _ e2)))))⟩) .nil)).append ((hvl.mono fun a o q _ => .inl q).drop (j + 1))))
          (bad_list (List.mem_append_left _ (List.mem_append_right _ List.mem_cons_self)) hbd)
          (Nat.succ_le_succ (depL_le fun p hp => by
            rcases List.mem_append.mp hp with hp | hp
            · rcases List.mem_append.mp hp with hp | hp
              · exact Nat.le_trans (dep_mem (List.mem_of_mem_take hp)) (Nat.le_trans hdk (Nat.le_succ n))
              · rw [List.mem_singleton.mp hp]; exact hdpB
            · exact Nat.le_trans (dep_mem (List.mem_of_mem_drop hp)) (Nat.le_trans hdk (Nat.le_succ n))))
          (fun _ => rfl) (fun b o hb e => FK.keep b o (hin b o hb e)) (Sta.at (at_ := atB) ⟨⟨_, _, List.mem_cons_of_mem _ (List.mem_cons_of_mem _ (List.mem_cons_of_mem _ (List.mem_cons_of_mem _ List.mem_cons_self)))⟩, StB.nl, StB.ne, StB.len, StB.len2, StB.low, StB.high, sB0, sB1⟩ FK NK) (by omega) (by omega)
      · ktr_unf
        rename_i l8 h8 F8 N8 lt8
        refine add_lists (vs := vsl) (ws := [fv]) F8 N8 (lobj_list (F8.keep _ _ hgl)) ⟨_, N8.get List.mem_cons_self, rfl, _, rfl⟩ (hsz := by rw [sizeLine_eq]; simp; omega) fun h9 F9 N9 => ?_
        have hs8 : @LT.lt Nat _ sa h8.objs.size := Heap.lt_size (N8.get (List.mem_cons_of_mem _ List.mem_cons_self))
        have fr9 : s.heap.get? h8.objs.size = none := hfr _ (Nat.ne_of_gt hs8) (next_is_new F8)
        try clear F8 N8
        ktr_unf
        exact hQ _ (.list (ds ++ [f])) h9 _ _ (.list (.inr ⟨fr9, N9.get List.mem_cons_self⟩) ((hvl.mono fun a o q _ => .inl q).append (.cons (hfv.mono fun a o q _ => .inl q) .nil)))
          (bad_list (List.mem_append_right _ List.mem_cons_self) (bad_foreign f hff))
          (Nat.succ_le_succ (depL_le fun p hp => by
            rcases List.mem_append.mp hp with hp | hp
            · exact Nat.le_trans (dep_mem hp) (Nat.le_trans hdk (Nat.le_succ n))
            · rw [List.mem_singleton.mp hp]; exact Nat.le_trans (dep_foreign f hff) (by omega)))
          (fun _ => rfl) (fun b o hb e => F9.keep b o (hin b o hb e)) (Sta.at (at_ := (at_ + 1)) ⟨⟨_, _, List.mem_cons_of_mem _ (List.mem_cons_of_mem _ List.mem_cons_self)⟩, St3.nl, St3.ne, St3.len, St3.len2, St3.low, St3.high, St3.at0, St3.at1⟩ F9 N9) (by omega) (by omega)
    · simp only [Bool.not_true]
      ktr_unf
      rename_i l8 h8 F8 N8 lt8
      refine add_lists (vs := vsl) (ws := [fv]) F8 N8 (lobj_list (F8.keep _ _ hgl)) ⟨_, N8.get List.mem_cons_self, rfl, _, rfl⟩ (hsz := by rw [sizeLine_eq]; simp; omega) fun h9 F9 N9 => ?_
      have hs8 : @LT.lt Nat _ sa h8.objs.size := Heap.lt_size (N8.get (List.mem_cons_of_mem _ (List.mem_cons_of_mem _ List.mem_cons_self)))
      have fr9 : s.heap.get? h8.objs.size = none := hfr _ (Nat.ne_of_gt hs8) (next_is_new F8)
      try clear F8 N8
      ktr_unf
      exact hQ _ (.list (ds ++ [f])) h9 _ _ (.list (.inr ⟨fr9, N9.get List.mem_cons_self⟩) ((hvl.mono fun a o q _ => .inl q).append (.cons (hfv.mono fun a o q _ => .inl q) .nil)))
        (bad_list (List.mem_append_right _ List.mem_cons_self) (bad_foreign f hff))
        (Nat.succ_le_succ (depL_le fun p hp => by
          rcases List.mem_append.mp hp with hp | hp
          · exact Nat.le_trans (dep_mem hp) (Nat.le_trans hdk (Nat.le_succ n))
          · rw [List.mem_singleton.mp hp]; exact Nat.le_trans (dep_foreign f hff) (by omega)))
        (fun _ => rfl) (fun b o hb e => F9.keep b o (hin b o hb e)) (Sta.at (at_ := at_) ⟨⟨_, _, List.mem_cons_of_mem _ (List.mem_cons_of_mem _ (List.mem_cons_of_mem _ List.mem_cons_self))⟩, St.nl, St.ne, St.len, St.len2, St.low, St.high, St.at0, St.at1⟩ F9 N9) (by omega) (by omega)
theorem with_spec (n : Nat) : WithP w mean mg mb hB n := Nat.strongRecOn n fun n ih => with_step n ih
end Mine
end
section
open PySem PySem.W PySem.Spec PySem.Calls PyProof.Rows
set_option Elab.async false
set_option maxRecDepth 100000
set_option maxHeartbeats 2000000
namespace Mine
/-- what calls of contains leave alone -/
structure Kept (s s' : Shared) : Prop where
  old : ∀ b o, b ≠ 23 → b ≠ 31 → s.heap.get? b = some o → s'.heap.get? b = some o
  t1 : Tab s'.heap 23
  t2 : Tab s'.heap 31
  bare : AllBare s.gens → AllBare s'.gens
  drawn : s'.drawn = s.drawn
  os : s'.os = s.os
theorem Kept.trans {s s' s'' : Shared} (x : Kept s s') (y : Kept s' s'') : Kept s s'' :=
  ⟨fun b o h1 h2 e => y.old b o h1 h2 (x.old b o h1 h2 e), y.t1, y.t2, fun h => y.bare (x.bare h), y.drawn.trans x.drawn, y.os.trans x.os⟩
theorem Kept.heap {s s' : Shared} {h' : Heap} {tk : Nat} (x : Kept s s') (k : ∀ b o, b < s.heap.objs.size → s'.heap.get? b = some o → h'.get? b = some o) (l1 : 23 < s.heap.objs.size) (l2 : 31 < s.heap.objs.size) : Kept s { s' with heap := h', toks := tk } :=
  ⟨fun b o h1 h2 e => k b o (Heap.lt_size e) (x.old b o h1 h2 e), x.t1.at fun o => k _ o l1, x.t2.at fun o => k _ o l2, x.bare, x.drawn, x.os⟩
/-- what such a comprehension asks of its source -/
def SrcC (prog : Program) (w : World) (A : Around) (env : Env) (elt : Expr) (x : Str) (scope : Scope) (cl : List (Str × Addr)) (P : Nat → Value → Prop) (Q : Value → Shared → Prop) (xv : Value) (s₁ : Shared) : Prop :=
  ∃ ax its, xv = .ref ax ∧ s₁.heap.IsList ax its ∧ its.size ≤ 100 ∧ ax ≠ 23 ∧ ax ≠ 31 ∧ Tab s₁.heap 23 ∧ Tab s₁.heap 31 ∧
      (∀ i v C m₂ s₂ (E' : Value → Shared → Prop), its[i]? = some v → Kept s₁ s₂ → s₁.heap.objs.size ≤ C → s₂.heap.Ns C m₂ → m₂ x = some v →
        wpAny (model prog w) A (eval elt (compEnvC scope cl C env)) (fun y s₃ => P i y ∧ Kept s₂ s₃) E' s₂) ∧
      (∀ D ys n s₂, Kept s₁ s₂ → s₁.heap.objs.size ≤ D → s₂.heap.get? D = some (lobj ys n) → ys.length = its.size → (∀ i y, ys[i]? = some y → P i y) → Q (.ref D) s₂)
/-- a list comprehension whose elements call contains -/
theorem comp_calls {prog : Program} {w : World} {A : Around} {E : Value → Shared → Prop} {s : Shared} {env : Env} {elt iter : Expr} {x : Str} {px : Pos} {scope : Scope} {cl : List (Str × Addr)} {pos : Pos} {Q : Value → Shared → Prop} {P : Nat → Value → Prop}
    (hh : A.handled = none) (hclos : closureFor scope env = pure cl) (hcell : ∀ y ∈ scope.names, y.2 ≠ .cell) (hkind : scope.kind = .function)
    (hnames : ∀ y ∈ scope.names, y.2 = .local → scope.names.lookup y.1 = some .local) (hx : scope.names.lookup x = some .local)
    (h : wpAny (model prog w) A (eval iter env) (SrcC prog w A env elt x scope cl P Q) E s)
    (hs : ∀ x, foldedSetIterable iter env x = pure x := by intro _; rfl) :
    wpAny (model prog w) A (eval (.ListComp elt [⟨.Name x px, iter, [], 0⟩] scope pos) env) Q E s := by
  rw [eval_ListComp]
  refine wpAny_comprehension_free (use := none) rfl hs hclos hkind hnames (wpAny_mono h (fun xv s₁ h₁ => ?_) fun _ _ e => e)
  obtain ⟨ax, its, rfl, hl, hsz, a1, a2, T1, T2, step, fin⟩ := h₁
  have l1 : @LT.lt Nat _ 23 s₁.heap.objs.size := let ⟨_, e, _⟩ := T1; Heap.lt_size e
  have l2 : @LT.lt Nat _ 31 s₁.heap.objs.size := let ⟨_, e, _⟩ := T2; Heap.lt_size e
  have lax : @LT.lt Nat _ ax s₁.heap.objs.size := let ⟨_, e, _⟩ := hl; Heap.lt_size e
  refine wpAny_pyIter_list hl ?_
  refine wpAny_newObj_type (wpAny_newFunctionEnv hcell (by intro y hy; simp at hy) (fun h₃ hns₃ hsb₃ => ?_) hkind)
  dsimp only at hns₃ hsb₃ ⊢
  have hC : ((s₁.heap.push { cls := .type "list_iterator", data := .fields #[.ref ax, .int 0 0] }).push { cls := .type "list", dict := none, data := .seq ([] : List Value).toArray }).objs.size = s₁.heap.objs.size + 2 := by rw [Heap.size_push, Heap.size_push]
  have hD : (s₁.heap.push { cls := .type "list_iterator", data := .fields #[.ref ax, .int 0 0] }).objs.size = s₁.heap.objs.size + 1 := by rw [Heap.size_push]
  have old3 : ∀ b o, s₁.heap.get? b = some o → h₃.get? b = some o := fun b o e => hsb₃.extBut b o (by rw [hC]; exact Nat.ne_of_lt (Nat.lt_trans (Heap.lt_size e) (Nat.lt_succ_of_lt (Nat.lt_succ_self _)))) (Heap.get?_push_of_some _ (Heap.get?_push_of_some _ (Heap.get?_push_of_some _ e)))
  have hI3 : h₃.get? s₁.heap.objs.size = some { cls := .type "list_iterator", data := .fields #[.ref ax, .int 0 0] } :=
    hsb₃.extBut _ _ (by rw [hC]; exact Nat.ne_of_lt (Nat.lt_succ_of_lt (Nat.lt_succ_self _))) (Heap.get?_push_of_some _ (Heap.get?_push_of_some _ (Heap.get?_push_size _ rfl)))
  have hD3 : h₃.get? (s₁.heap.objs.size + 1) = some (lobj [] 0) :=
    hsb₃.extBut _ _ (by rw [hC]; exact Nat.ne_of_lt (Nat.lt_succ_self _)) (by rw [← hD]; exact Heap.get?_push_of_some _ (Heap.get?_push_size _ rfl))
  rw [hD]
  rw [hC] at hns₃ ⊢
  clear hsb₃ hC hD
  generalize hN : s₁.heap.objs.size = N at *
  have loop : ∀ s₃ : Shared, s₃ = { s₁ with heap := h₃, toks := s₁.toks + ([] : List (Str × Value)).length } →
      codeAny (model prog w) A (.compLoop (.ListComp elt [⟨.Name x px, iter, [], 0⟩] scope pos) 0 (.ref N) (.ref (N + 1)) (compEnvC scope cl (N + 2) env)) (compPost (model prog w) A E none Q (.ref (N + 1)) (N + 2)) s₃ := by
    rintro s₃ rfl
    refine codeAny_compLoop_tests (fun k s' => ∃ i ys n m', i ≤ its.size ∧ k = its.size + 1 - i ∧ ys.length = i ∧ Kept s₁ s' ∧ s'.heap.IsListIter N ax i ∧ s'.heap.get? (N + 1) = some (lobj ys n) ∧ s'.heap.Ns (N + 2) m' ∧ ∀ j y, ys[j]? = some y → P j y) ?_ (its.size + 1)
      ⟨0, [], 0, _, Nat.zero_le _, rfl, rfl, ⟨fun b o _ _ e => old3 b o e, T1.at fun o => old3 _ o, T2.at fun o => old3 _ o, id, rfl, rfl⟩, ⟨_, hI3, rfl, rfl⟩, hD3, hns₃, fun j y e => by simp at e⟩
    rintro k s' ⟨i, ys, n, m', hi, rfl, hyl, K', hit, hD', hn', hP'⟩
    have hl' : s'.heap.IsList ax its := let ⟨o, e, r⟩ := hl; ⟨o, K'.old _ _ a1 a2 e, r⟩
    by_cases hlt : i < its.size
    · refine wpAny_pyNext_list_item hit hl' (x := its[i]) (by simp [hlt]) fun h₄ hit4 hs4 => ?_
      refine wpAny_assign_Name (wpAny_storeName_local (lookup_relabel_local hx) (hn'.sameBut hs4 (Nat.ne_of_gt (Nat.lt_succ_of_lt (Nat.lt_succ_self _)))) (fun h₅ hn5 hs5 => ?_) (by simp [compEnvC, relabel, hkind]))
      refine wpAny_tests_nil ?_
      simp only [if_true]
      have k5 : ∀ b o, b ≠ N → b ≠ N + 2 → s'.heap.get? b = some o → h₅.get? b = some o := fun b o e1 e2 e => hs5.extBut b o e2 (hs4.extBut b o e1 e)
      have K5 : Kept s₁ { s' with heap := h₅, toks := s'.toks + 1 } := K'.heap (tk := s'.toks + 1) (fun b o hb e => by rw [hN] at hb; exact k5 b o (Nat.ne_of_lt hb) (Nat.ne_of_lt (Nat.lt_succ_of_lt (Nat.lt_succ_of_lt hb))) e) (hN ▸ l1) (hN ▸ l2)
      have it5 : h₅.IsListIter N ax (i + 1) := let ⟨o, e, r⟩ := hit4; ⟨o, hs5.extBut _ _ (Nat.ne_of_lt (Nat.lt_succ_of_lt (Nat.lt_succ_self _))) e, r⟩
      have d5 : h₅.get? (N + 1) = some (lobj ys n) := k5 _ _ (Nat.ne_of_gt (Nat.lt_succ_self _)) (Nat.ne_of_lt (Nat.lt_succ_self _)) hD'
      refine wpAny_mono (step i its[i] (N + 2) _ { s' with heap := h₅, toks := s'.toks + 1 } _ (by simp [hlt]) K5 (Nat.le_succ_of_le (Nat.le_succ _)) hn5 (by simp)) (fun y s₆ h₆ => ?_) fun _ _ e => e
      obtain ⟨hPy, K6⟩ := h₆
      have ne : ∀ c : Nat, N ≤ c → c ≠ 23 ∧ c ≠ 31 := fun c hc => ⟨Nat.ne_of_gt (Nat.lt_of_lt_of_le l1 hc), Nat.ne_of_gt (Nat.lt_of_lt_of_le l2 hc)⟩
      have nI := ne N (Nat.le_refl _)
      have nD := ne (N + 1) (Nat.le_succ _)
      have nC := ne (N + 2) (Nat.le_succ_of_le (Nat.le_succ _))
      have d6 := K6.old _ _ nD.1 nD.2 d5
      refine append_at (hsz := by simp only [List.size_toArray]; rw [hyl, sizeLine_eq]; omega) d6 fun h₇ hs7 hd7 => ?_
      have K67 := K5.trans K6
      have hN6 : ∀ b o, b ≠ N + 1 → s₆.heap.get? b = some o → h₇.get? b = some o := fun b o e1 e => hs7.extBut b o e1 e
      have n7 : h₇.Ns (N + 2) _ := hn5.at' fun o e => hN6 _ o (Nat.ne_of_gt (Nat.lt_succ_self _)) (K6.old _ o nC.1 nC.2 e)
      refine ⟨its.size + 1 - (i + 1), by omega, i + 1, ys ++ [y], n + 1, _, hlt, rfl, by rw [List.length_append, hyl]; rfl, K67.heap (tk := s₆.toks) (fun b o hb e => by rw [hN] at hb; exact hN6 b o (Nat.ne_of_lt (Nat.lt_succ_of_lt hb)) e) (hN ▸ l1) (hN ▸ l2), ?_, ?_, n7, ?_⟩
      · obtain ⟨o, e, r⟩ := it5
        exact ⟨o, hN6 _ _ (Nat.ne_of_lt (Nat.lt_succ_self _)) (K6.old _ _ nI.1 nI.2 e), r⟩
      · rw [hd7]; show some ({ cls := .type "list", data := .seq (ys.toArray.push y) (n + 1) } : Obj) = _; rw [List.push_toArray]
      · intro j z hj
        rcases Nat.lt_or_ge j ys.length with q | q
        · rw [List.getElem?_append_left q] at hj; exact hP' j z hj
        · rw [List.getElem?_append_right q] at hj
          have hj0 : j - ys.length = 0 := by
            rcases Nat.eq_zero_or_pos (j - ys.length) with e | e
            · exact e
            · rw [List.getElem?_eq_none (by simp; omega)] at hj; cases hj
          rw [hj0] at hj
          have : z = y := by simpa using hj.symm
          rw [this, show j = i by omega]; exact hPy
    · obtain rfl : i = its.size := by omega
      refine wpAny_pyNext_list_end hh hit hl' (by simp) fun h₄ he => ?_
      refine ⟨m', hn'.at' fun o e => he _ o (Nat.ne_of_gt (Nat.lt_succ_of_lt (Nat.lt_succ_self _))) e, fun h'' hs'' => ?_⟩
      exact fin (N + 1) ys n _ (K'.heap (tk := s'.toks) (fun b o hb e => by rw [hN] at hb; exact hs''.extBut b o (Nat.ne_of_lt (Nat.lt_succ_of_lt (Nat.lt_succ_of_lt hb))) (he b o (Nat.ne_of_lt hb) e)) (hN ▸ l1) (hN ▸ l2)) (Nat.le_succ _) (hs''.extBut _ _ (Nat.ne_of_lt (Nat.lt_succ_self _)) (he _ _ (Nat.ne_of_gt (Nat.lt_succ_self _)) hD')) hyl hP'
  exact codeAny_compStart_list (loop _ rfl) (wpAny_pyIter_listiter (s := { s₁ with heap := h₃, toks := s₁.toks + ([] : List (Str × Value)).length }) ⟨_, hI3, rfl, rfl⟩ (loop _ rfl))
end Mine
end
section
open PySem PySem.W PySem.Spec PySem.Calls PyProof.Rows
set_option Elab.async false
set_option maxRecDepth 100000
set_option maxHeartbeats 2000000
namespace Mine
/-- the law's state and the two tables, on the ledger of the law's own frame -/
structure LS (hB : Heap) (news : List (Addr × Obj)) (sa na : Addr) (nums : List Int) (at_ : Int) : Prop where
  st : ∃ t n, (sa, lobj [.ref na, .int at_ t] n) ∈ news
  nl : ∃ vs n, (hB.get? na = some (lobj vs n) ∨ (na, lobj vs n) ∈ news) ∧ IntsAre vs nums
  t1 : ∃ p, (23, tabObj p) ∈ news ∧ TriplesOk p.toList
  t2 : ∃ p, (31, tabObj p) ∈ news ∧ TriplesOk p.toList
  ne : na ≠ sa
  len : 0 < nums.length
  len2 : nums.length ≤ 64
  low : ∀ x ∈ nums, 0 ≤ x
  high : ∀ x ∈ nums, x < 1000003
  at0 : 0 ≤ at_
  at1 : at_ < 1000000
section
variable {w : World} {mean : ExcName → Option Value} {mg mb : Str → Option Value} {hB : Heap} {A : Around} {E : Value → Shared → Prop} {s : Shared} {L sa na : Addr} {m : Str → Option Value} {news : List (Addr × Obj)} {nums : List Int} {at_ : Int}
theorem LS.at {h : Heap} (S : LS hB news sa na nums at_) (F : Fr hB L h m) (N : News hB L h news) : StAt h sa na nums at_ :=
  ⟨let ⟨t, n, hm⟩ := S.st; ⟨t, n, N.get hm⟩, let ⟨vs, n, e, hI⟩ := S.nl; ⟨vs, n, e.elim (F.keep _ _) N.get, hI⟩, S.ne, S.len, S.len2, S.low, S.high, S.at0, S.at1⟩
theorem LS.tab1 {h : Heap} (S : LS hB news sa na nums at_) (N : News hB L h news) : Tab h 23 := let ⟨p, hm, r⟩ := S.t1; ⟨p, N.get hm, r⟩
theorem LS.tab2 {h : Heap} (S : LS hB news sa na nums at_) (N : News hB L h news) : Tab h 31 := let ⟨p, hm, r⟩ := S.t2; ⟨p, N.get hm, r⟩
theorem LS.wld (B : Base w mean mg mb hB) {h : Heap} (S : LS hB news sa na nums at_) (F : Fr hB L h m) (N : News hB L h news) : Wld w mean mg mb hB h := ⟨B, F.keep, S.tab1 N, S.tab2 N⟩
theorem LS.hB0 {h : Heap} (S : LS hB news sa na nums at_) (N : News hB L h news) : hB.get? sa = none := let ⟨_, _, hm⟩ := S.st; (N _ hm).2.2
theorem LS.sub {news' : List (Addr × Obj)} (S : LS hB news sa na nums at_) (k : ∀ p ∈ news, p ∈ news') : LS hB news' sa na nums at_ :=
  ⟨let ⟨t, n, hm⟩ := S.st; ⟨t, n, k _ hm⟩, let ⟨vs, n, hm, r⟩ := S.nl; ⟨vs, n, hm.imp id (k _), r⟩, let ⟨p, hm, r⟩ := S.t1; ⟨p, k _ hm, r⟩, let ⟨p, hm, r⟩ := S.t2; ⟨p, k _ hm, r⟩, S.ne, S.len, S.len2, S.low, S.high, S.at0, S.at1⟩
/-- the ledger after a call -/
theorem lw_post {h h' : Heap} {at' : Int} {ex : List Addr} (F : Fr hB L h m) (N : News hB L h news) (S : LS hB news sa na nums at_) (hex : ∀ e ∈ ex, ∃ o, (e, o) ∈ news) (k : ∀ b o, b ≠ sa → b ≠ 23 → b ≠ 31 → b ∉ ex → h.get? b = some o → h'.get? b = some o) (S' : StAt h' sa na nums at') (T1 : Tab h' 23) (T2 : Tab h' 31) :
    ∃ tl t n p1 p2, Fr hB L h' m ∧ News hB L h' ((sa, lobj [.ref na, .int at' t] n) :: (23, tabObj p1) :: (31, tabObj p2) :: tl) ∧ LS hB ((sa, lobj [.ref na, .int at' t] n) :: (23, tabObj p1) :: (31, tabObj p2) :: tl) sa na nums at' ∧
      (∀ p ∈ news, p.1 ≠ sa → p.1 ≠ 23 → p.1 ≠ 31 → p.1 ∉ ex → p ∈ tl) ∧ (∀ p ∈ tl, p.1 ≠ sa ∧ p.1 ≠ 23 ∧ p.1 ≠ 31) ∧ (∀ a o, h'.get? a = some o → a ≠ L → a ≠ sa → a ≠ 23 → a ≠ 31 → hB.get? a = none → (a, o) ∈ tl) ∧ (∀ a o, h.get? a = none → h'.get? a = some o → (a, o) ∈ tl) := by
  obtain ⟨t0, n0, hm0⟩ := id S.st
  obtain ⟨q1, hm1, _⟩ := id S.t1
  obtain ⟨q2, hm2, _⟩ := id S.t2
  have z0 := N _ hm0
  have z1 := N _ hm1
  have z2 := N _ hm2
  obtain ⟨t', n', e'⟩ := S'.st
  obtain ⟨p1, e1, r1⟩ := T1
  obtain ⟨p2, e2, r2⟩ := T2
  have xL : L ∉ ex := fun q => by obtain ⟨o, ho⟩ := hex _ q; exact (N _ ho).2.1 rfl
  have xB : ∀ b o, hB.get? b = some o → b ∉ ex := fun b o e q => by obtain ⟨o', ho⟩ := hex _ q; have := (N _ ho).2.2; dsimp only at this; rw [this] at e; cases e
  have old : ∀ b o, hB.get? b = some o → h'.get? b = some o := fun b o e => k b o (fun q => by have := z0.2.2; dsimp only at this; rw [q, this] at e; cases e) (fun q => by have := z1.2.2; dsimp only at this; rw [q, this] at e; cases e) (fun q => by have := z2.2.2; dsimp only at this; rw [q, this] at e; cases e) (xB b o e) (F.keep b o e)
  have F' : Fr hB L h' m := ⟨F.ns.at' fun o e => k L o (Ne.symm z0.2.1) (Ne.symm z1.2.1) (Ne.symm z2.2.1) xL e, old, F.above⟩
  have mem : ∀ a o, h'.get? a = some o → a ≠ L → a ≠ sa → a ≠ 23 → a ≠ 31 → hB.get? a = none → (a, o) ∈ restX hB (L :: [sa, 23, 31]) h' := fun a o e h0 h1 h2 h3 hb => restX_mem e (by simp only [List.mem_cons, List.not_mem_nil, or_false, not_or]; exact ⟨h0, h1, h2, h3⟩) hb
  have N' : News hB L h' ((sa, lobj [.ref na, .int at' t'] n') :: (23, tabObj p1) :: (31, tabObj p2) :: restX hB (L :: [sa, 23, 31]) h') := fun p hp => by
    rcases List.mem_cons.mp hp with rfl | hp
    · exact ⟨e', z0.2⟩
    · rcases List.mem_cons.mp hp with rfl | hp
      · exact ⟨e1, z1.2⟩
      · rcases List.mem_cons.mp hp with rfl | hp
        · exact ⟨e2, z2.2⟩
        · exact restX_news hB (by simp) h' p hp
  have off : ∀ p ∈ restX hB (L :: [sa, 23, 31]) h', p.1 ≠ sa ∧ p.1 ≠ 23 ∧ p.1 ≠ 31 := fun p hp => by
    have z := (restX_get hp).2.1
    simp only [List.mem_cons, List.not_mem_nil, or_false, not_or] at z
    exact z.2
  obtain ⟨vs, n2, en, hI⟩ := id S'.nl
  have nk : ∀ {P : Addr} {q : Array Value}, h'.get? P = some (tabObj q) → na ≠ P := fun e1 q => by rw [q, e1] at en; cases en
  refine ⟨_, t', n', p1, p2, F', N', ⟨⟨t', n', List.mem_cons_self⟩, ⟨vs, n2, ?_, hI⟩, ⟨p1, List.mem_cons_of_mem _ List.mem_cons_self, r1⟩, ⟨p2, List.mem_cons_of_mem _ (List.mem_cons_of_mem _ List.mem_cons_self), r2⟩, S'.ne, S'.len, S'.len2, S'.low, S'.high, S'.at0, S'.at1⟩, fun p hp h1 h2 h3 h4 => ?_, off, mem, fun a o e e' => ?_⟩
  · cases q : hB.get? na with
    | some o' =>
      have := F'.keep _ _ q
      rw [en] at this
      exact .inl this.symm
    | none =>
      obtain ⟨oL2, _, _, eL2, hd2, _⟩ := id F'.ns
      exact .inr (List.mem_cons_of_mem _ (List.mem_cons_of_mem _ (List.mem_cons_of_mem _ (mem _ _ en (fun q => (by rw [q, eL2] at en; cases en; cases hd2)) S'.ne (nk e1) (nk e2) q))))
  · have z := N p hp
    exact mem _ _ (k _ _ h1 h2 h3 h4 z.1) z.2.1 h1 h2 h3 z.2.2
  · have ne : ∀ c o', h.get? c = some o' → a ≠ c := fun c o' e2 q => by rw [q, e2] at e; cases e
    obtain ⟨oL, _, _, eL, _⟩ := F.ns
    refine mem _ _ e' (ne _ _ eL) (ne _ _ z0.1) (ne _ _ z1.1) (ne _ _ z2.1) ?_
    cases q : hB.get? a with
    | none => rfl
    | some o' => rw [F.keep _ _ q] at e; cases e
theorem LS.keepOn {h h' : Heap} (F : Fr hB L h m) (N : News hB L h news) (S : LS hB news sa na nums at_) (k : ∀ b o, ((∃ xs n, o.data = .seq xs n) ∨ ∃ ps, o = tabObj ps) → h.get? b = some o → h'.get? b = some o) : StAt h' sa na nums at_ ∧ Tab h' 23 ∧ Tab h' 31 := by
  have z := S.at F N
  obtain ⟨t, n, e⟩ := z.st
  obtain ⟨vs, n2, e2, hI⟩ := z.nl
  exact ⟨⟨⟨t, n, k _ _ (.inl ⟨_, _, rfl⟩) e⟩, ⟨vs, n2, k _ _ (.inl ⟨_, _, rfl⟩) e2, hI⟩, z.ne, z.len, z.len2, z.low, z.high, z.at0, z.at1⟩, (let ⟨p, hm, r⟩ := S.t1; ⟨p, k _ _ (.inr ⟨_, rfl⟩) (N.get hm), r⟩), (let ⟨p, hm, r⟩ := S.t2; ⟨p, k _ _ (.inr ⟨_, rfl⟩) (N.get hm), r⟩)⟩
/-- one object of the frame's own is changed: an iterator, a cell -/
theorem lw_one {h h' : Heap} {c : Addr} {oC : Obj} (F : Fr hB L h m) (N : News hB L h news) (S : LS hB news sa na nums at_) (hm : (c, oC) ∈ news) (hns : ∀ xs n, oC.data ≠ .seq xs n) (hnt : ∀ ps, oC ≠ tabObj ps) (k : ∀ b o, b ≠ c → h.get? b = some o → h'.get? b = some o) :
    ∃ tl t n p1 p2, Fr hB L h' m ∧ News hB L h' ((sa, lobj [.ref na, .int at_ t] n) :: (23, tabObj p1) :: (31, tabObj p2) :: tl) ∧ LS hB ((sa, lobj [.ref na, .int at_ t] n) :: (23, tabObj p1) :: (31, tabObj p2) :: tl) sa na nums at_ ∧
      (∀ p ∈ news, p.1 ≠ sa → p.1 ≠ 23 → p.1 ≠ 31 → p.1 ≠ c → p ∈ tl) ∧ (∀ p ∈ tl, p.1 ≠ sa ∧ p.1 ≠ 23 ∧ p.1 ≠ 31) ∧ (∀ o, h'.get? c = some o → (c, o) ∈ tl) := by
  have zc := N _ hm
  have kk : ∀ b o, ((∃ xs n, o.data = .seq xs n) ∨ ∃ ps, o = tabObj ps) → h.get? b = some o → h'.get? b = some o := fun b o hk e => k b o (fun q => by
    rw [q, zc.1] at e
    cases e
    rcases hk with ⟨xs, n, e⟩ | ⟨ps, e⟩
    · exact hns _ _ e
    · exact hnt _ e) e
  obtain ⟨S', T1, T2⟩ := S.keepOn F N kk
  obtain ⟨tl, t, n, p1, p2, F', N', S2, sub, off, mem, -⟩ := lw_post (ex := [c]) F N S (fun e he => ⟨_, List.mem_singleton.mp he ▸ hm⟩) (fun b o _ _ _ h4 e => k b o (by simpa using h4) e) S' T1 T2
  have ne0 : c ≠ sa := fun q => by obtain ⟨t, n, hm0⟩ := S.st; have e := N.get hm0; rw [← q, zc.1] at e; cases e; exact hns _ _ rfl
  have ne1 : c ≠ 23 := fun q => by obtain ⟨p, hm0, _⟩ := S.t1; have e := N.get hm0; rw [← q, zc.1] at e; cases e; exact hnt _ rfl
  have ne2 : c ≠ 31 := fun q => by obtain ⟨p, hm0, _⟩ := S.t2; have e := N.get hm0; rw [← q, zc.1] at e; cases e; exact hnt _ rfl
  exact ⟨tl, t, n, p1, p2, F', N', S2, fun p hp h1 h2 h3 h4 => sub p hp h1 h2 h3 (by simpa using h4), off, fun o e => mem c o e zc.2.1 ne0 ne1 ne2 zc.2.2⟩
theorem LS.off {h : Heap} {c : Addr} {oC : Obj} (N : News hB L h news) (S : LS hB news sa na nums at_) (hm : (c, oC) ∈ news) (hns : ∀ xs n, oC.data ≠ .seq xs n) (hnt : ∀ ps, oC ≠ tabObj ps) : c ≠ sa ∧ c ≠ 23 ∧ c ≠ 31 := by
  have zc := N _ hm
  exact ⟨fun q => by obtain ⟨t, n, hm0⟩ := S.st; have e := N.get hm0; rw [← q, zc.1] at e; cases e; exact hns _ _ rfl,
    fun q => by obtain ⟨p, hm0, _⟩ := S.t1; have e := N.get hm0; rw [← q, zc.1] at e; cases e; exact hnt _ rfl,
    fun q => by obtain ⟨p, hm0, _⟩ := S.t2; have e := N.get hm0; rw [← q, zc.1] at e; cases e; exact hnt _ rfl⟩
theorem LS.keepAt {h h' : Heap} (F : Fr hB L h m) (N : News hB L h news) (S : LS hB news sa na nums at_) (k : ∀ b o, b ≠ 23 → b ≠ 31 → h.get? b = some o → h'.get? b = some o) : StAt h' sa na nums at_ := by
  obtain ⟨t0, n0, hm0⟩ := id S.st
  obtain ⟨q1, hm1, _⟩ := id S.t1
  obtain ⟨q2, hm2, _⟩ := id S.t2
  obtain ⟨vs, n2, hmn, hI⟩ := id S.nl
  have ne : ∀ {P c : Addr} {q : Array Value} {vs : List Value} {n : Nat}, h.get? P = some (tabObj q) → h.get? c = some (lobj vs n) → c ≠ P := fun e1 e2 q => by rw [q, e1] at e2; cases e2
  have zn : h.get? na = some (lobj vs n2) := hmn.elim (F.keep _ _) N.get
  exact ⟨⟨t0, n0, k _ _ (ne (N.get hm1) (N.get hm0)) (ne (N.get hm2) (N.get hm0)) (N.get hm0)⟩, ⟨vs, n2, k _ _ (ne (N.get hm1) zn) (ne (N.get hm2) zn) zn, hI⟩, S.ne, S.len, S.len2, S.low, S.high, S.at0, S.at1⟩
/-- a call in the law's frame -/
theorem lw_walk {prog : Program} {tree : Sem Value} {Q : Value → Shared → Prop} {R : Heap → Heap → Value → Int → Prop} (F : Fr hB L s.heap m) (N : News hB L s.heap news) (S : LS hB news sa na nums at_) (hb : AllBare s.gens)
    (spec : ∀ Q' : Value → Shared → Prop, (∀ r s' at', (∀ b o, b ≠ sa → b ≠ 23 → b ≠ 31 → s.heap.get? b = some o → s'.heap.get? b = some o) → StAt s'.heap sa na nums at' → Tab s'.heap 23 → Tab s'.heap 31 → (AllBare s.gens → AllBare s'.gens) → s'.drawn = s.drawn → s'.os = s.os → R s.heap s'.heap r at' → Q' r s') → wpAny (model prog w) A tree Q' E s)
    (h : ∀ r h' g' tk tl t n p1 p2 at', Fr hB L h' m → News hB L h' ((sa, lobj [.ref na, .int at' t] n) :: (23, tabObj p1) :: (31, tabObj p2) :: tl) → LS hB ((sa, lobj [.ref na, .int at' t] n) :: (23, tabObj p1) :: (31, tabObj p2) :: tl) sa na nums at' →
      (∀ p ∈ news, p.1 ≠ sa → p.1 ≠ 23 → p.1 ≠ 31 → p ∈ tl) → (∀ p ∈ tl, p.1 ≠ sa ∧ p.1 ≠ 23 ∧ p.1 ≠ 31) → (∀ a o, s.heap.get? a = none → h'.get? a = some o → (a, o) ∈ tl) → AllBare g' → R s.heap h' r at' → Q r ⟨h', g', s.drawn, tk, s.os⟩) :
    wpAny (model prog w) A tree Q E s := by
  refine spec Q fun r s' at' k S' T1 T2 hb' hd ho hR => ?_
  obtain ⟨h', g', d', tk', os'⟩ := s'
  dsimp only at k S' T1 T2 hb' hd ho hR
  subst hd ho
  obtain ⟨tl, t', n', p1, p2, F', N', S2, sub, off, -, fr⟩ := lw_post (ex := []) F N S (fun e he => nomatch he) (fun b o h1 h2 h3 _ e => k b o h1 h2 h3 e) S' T1 T2
  exact h r h' g' tk' tl t' n' p1 p2 at' F' N' S2 (fun p hp h1 h2 h3 => sub p hp h1 h2 h3 (by simp)) off fr (hb' hb) hR
/-- a call of contains in the law's frame -/
theorem lw_cont {va vb : Value} {a b : Doc} {Q : Value → Shared → Prop} (B : Base w mean mg mb hB) (F : Fr hB L s.heap m) (N : News hB L s.heap news) (S : LS hB news sa na nums at_) (hb : AllBare s.gens)
    (ha : DocIn Challenge.rw_ez0233_01.row.prog w (fun a o => (a, o) ∈ news) va a) (hb2 : DocIn Challenge.rw_ez0233_01.row.prog w (fun a o => (a, o) ∈ news) vb b) (hh : A.handled = none) (hdep : A.depth + 6 * dep b + 20 < recursionLimit) (huni : A.units + 60 * dep b + 120 < cLine)
    (h : ∀ h' g' tk tl t n p1 p2, Fr hB L h' m → News hB L h' ((sa, lobj [.ref na, .int at_ t] n) :: (23, tabObj p1) :: (31, tabObj p2) :: tl) → LS hB ((sa, lobj [.ref na, .int at_ t] n) :: (23, tabObj p1) :: (31, tabObj p2) :: tl) sa na nums at_ →
      (∀ p ∈ news, p.1 ≠ sa → p.1 ≠ 23 → p.1 ≠ 31 → p ∈ tl) → (∀ p ∈ tl, p.1 ≠ sa ∧ p.1 ≠ 23 ∧ p.1 ≠ 31) → AllBare g' → Q (.bool (contTop a b)) ⟨h', g', s.drawn, tk, s.os⟩) :
    wpAny (model Challenge.rw_ez0233_01.row.prog w) A (call (.ref 36) [va, vb]) Q E s := by
  refine lw_walk (R := fun _ _ r at' => r = .bool (contTop a b) ∧ at' = at_) F N S hb (fun Q' hQ' => top_spec (S.wld B F N) (ha.mono fun a o e _ => N.get e) (hb2.mono fun a o e _ => N.get e) hh hdep huni fun s' g W' => hQ' _ s' at_ (fun b o _ h1 h2 e => g.heap b o (by simp [T2, h1, h2]) e) (S.keepAt F N fun b o h1 h2 e => g.heap b o (by simp [T2, h1, h2]) e) W'.t1 W'.t2 g.bare g.drawn g.os ⟨rfl, rfl⟩) ?_
  rintro r h' g' tk tl t n p1 p2 at' F' N' S' sub off - hb' ⟨rfl, rfl⟩
  exact h h' g' tk tl t n p1 p2 F' N' S' sub off hb'
/-- a call that turns the state alone, in the law's frame -/
theorem lw_heap {prog : Program} {tree : Sem Value} {Q : Value → Shared → Prop} {R : Heap → Heap → Value → Int → Prop} (F : Fr hB L s.heap m) (N : News hB L s.heap news) (S : LS hB news sa na nums at_) (hb : AllBare s.gens)
    (spec : ∀ Q' : Value → Shared → Prop, (∀ r h' tk at', (∀ b o, b ≠ sa → s.heap.get? b = some o → h'.get? b = some o) → StAt h' sa na nums at' → R s.heap h' r at' → Q' r { s with heap := h', toks := tk }) → wpAny (model prog w) A tree Q' E s)
    (h : ∀ r h' g' tk tl t n p1 p2 at', Fr hB L h' m → News hB L h' ((sa, lobj [.ref na, .int at' t] n) :: (23, tabObj p1) :: (31, tabObj p2) :: tl) → LS hB ((sa, lobj [.ref na, .int at' t] n) :: (23, tabObj p1) :: (31, tabObj p2) :: tl) sa na nums at' →
      (∀ p ∈ news, p.1 ≠ sa → p.1 ≠ 23 → p.1 ≠ 31 → p ∈ tl) → (∀ p ∈ tl, p.1 ≠ sa ∧ p.1 ≠ 23 ∧ p.1 ≠ 31) → (∀ a o, s.heap.get? a = none → h'.get? a = some o → (a, o) ∈ tl) → AllBare g' → R s.heap h' r at' → Q r ⟨h', g', s.drawn, tk, s.os⟩) :
    wpAny (model prog w) A tree Q E s := by
  obtain ⟨t0, n0, hm0⟩ := id S.st
  obtain ⟨q1, hm1, _⟩ := id S.t1
  obtain ⟨q2, hm2, _⟩ := id S.t2
  have ne : ∀ {P c : Addr} {q : Array Value} {vs : List Value} {n : Nat}, s.heap.get? P = some (tabObj q) → s.heap.get? c = some (lobj vs n) → P ≠ c := fun e1 e2 q => by rw [q, e2] at e1; cases e1
  exact lw_walk F N S hb (fun Q' hQ' => spec Q' fun r h' tk at' k S' hR => hQ' r _ at' (fun b o h1 _ _ e => k b o h1 e) S' ((S.tab1 N).at fun o e => k _ o (ne (N.get hm1) (N.get hm0)) e) ((S.tab2 N).at fun o e => k _ o (ne (N.get hm2) (N.get hm0)) e) id rfl rfl hR) h
/-- the law's first call -/
theorem lw_state {ls : Addr} {vs : List Value} {ns : List Int} {Q : Value → Shared → Prop} (B : Base w mean mg mb hB) (F : Fr hB L s.heap m) (N : News hB L s.heap news) (h23 : (23, tabObj #[]) ∈ news) (h31 : (31, tabObj #[]) ∈ news)
    (hl : s.heap.IsList ls vs.toArray) (hI : IntsAre vs ns) (hlen : ns.length ≤ 63) (hdep : A.depth + 4 < recursionLimit) (hh : A.handled = none)
    (h : ∀ sa na nums h' tk tl t n, Fr hB L h' m → News hB L h' ((sa, lobj [.ref na, .int 0 t] n) :: (23, tabObj #[]) :: (31, tabObj #[]) :: tl) → LS hB ((sa, lobj [.ref na, .int 0 t] n) :: (23, tabObj #[]) :: (31, tabObj #[]) :: tl) sa na nums 0 →
      (∀ p ∈ news, p.1 ≠ 23 → p.1 ≠ 31 → p ∈ tl) → (∀ p ∈ tl, p.1 ≠ sa ∧ p.1 ≠ 23 ∧ p.1 ≠ 31) → Q (.ref sa) { s with heap := h', toks := tk }) :
    wpAny (model Challenge.rw_ez0233_01.row.prog w) A (call (.ref 48) [.ref ls]) Q E s := by
  have W : Wld w mean mg mb hB s.heap := ⟨B, F.keep, ⟨_, N.get h23, trivial⟩, ⟨_, N.get h31, trivial⟩⟩
  refine state_spec W hl hI hlen hdep hh fun sa na nums h' tk e0 S' k => ?_
  obtain ⟨t', n', e'⟩ := S'.st
  obtain ⟨vs2, n2, en, hI2⟩ := S'.nl
  have z1 := N _ h23
  have z2 := N _ h31
  obtain ⟨oL, _, _, eL, _⟩ := id F.ns
  have ne : ∀ c o', s.heap.get? c = some o' → sa ≠ c := fun c o' e2 q => by rw [q, e2] at e0; cases e0
  have gs : hB.get? sa = none := by
    cases q : hB.get? sa with
    | none => rfl
    | some o' => rw [F.keep _ _ q] at e0; cases e0
  have F' := F.keeps k
  have N' : News hB L h' ((sa, lobj [.ref na, .int 0 t'] n') :: (23, tabObj #[]) :: (31, tabObj #[]) :: restX hB (L :: [sa, 23, 31]) h') := fun p hp => by
    rcases List.mem_cons.mp hp with rfl | hp
    · exact ⟨e', ne _ _ eL, gs⟩
    · rcases List.mem_cons.mp hp with rfl | hp
      · exact ⟨k _ _ z1.1, z1.2⟩
      · rcases List.mem_cons.mp hp with rfl | hp
        · exact ⟨k _ _ z2.1, z2.2⟩
        · exact restX_news hB (by simp) h' p hp
  have off : ∀ p ∈ restX hB (L :: [sa, 23, 31]) h', p.1 ≠ sa ∧ p.1 ≠ 23 ∧ p.1 ≠ 31 := fun p hp => by
    have z := (restX_get hp).2.1
    simp only [List.mem_cons, List.not_mem_nil, or_false, not_or] at z
    exact z.2
  have sub : ∀ p ∈ news, p.1 ≠ 23 → p.1 ≠ 31 → p ∈ restX hB (L :: [sa, 23, 31]) h' := fun p hp h2 h3 => by
    have z := N p hp
    exact restX_mem (k _ _ z.1) (by simp only [List.mem_cons, List.not_mem_nil, or_false, not_or]; exact ⟨z.2.1, Ne.symm (ne _ _ z.1), h2, h3⟩) z.2.2
  have hL' : h'.get? L = some oL := k _ _ eL
  have nk : ∀ {P : Addr} {q : Array Value}, h'.get? P = some (tabObj q) → na ≠ P := fun e1 q => by rw [q, e1] at en; cases en
  refine h sa na nums h' tk _ t' n' F' N' ⟨⟨t', n', List.mem_cons_self⟩, ⟨vs2, n2, ?_, hI2⟩, ⟨_, List.mem_cons_of_mem _ List.mem_cons_self, trivial⟩, ⟨_, List.mem_cons_of_mem _ (List.mem_cons_of_mem _ List.mem_cons_self), trivial⟩, S'.ne, S'.len, S'.len2, S'.low, S'.high, S'.at0, S'.at1⟩ sub off
  cases q : hB.get? na with
  | some o' =>
    have := F'.keep _ _ q
    rw [en] at this
    exact .inl this.symm
  | none =>
    refine .inr (List.mem_cons_of_mem _ (List.mem_cons_of_mem _ (List.mem_cons_of_mem _ (restX_mem en ?_ q))))
    simp only [List.mem_cons, List.not_mem_nil, or_false, not_or]
    obtain ⟨oL2, _, _, eL2, hd2, _⟩ := id F'.ns
    exact ⟨fun q => (by rw [q, eL2] at en; cases en; cases hd2), S'.ne, nk (k _ _ z1.1), nk (k _ _ z2.1)⟩
/-- a new object of the frame's own -/
theorem lw_push {h : Heap} {o : Obj} (F : Fr hB L h m) (N : News hB L h news) (S : LS hB news sa na nums at_) (e : (h.push o).get? h.objs.size = some o) :
    ∃ tl t n p1 p2, Fr hB L (h.push o) m ∧ News hB L (h.push o) ((sa, lobj [.ref na, .int at_ t] n) :: (23, tabObj p1) :: (31, tabObj p2) :: tl) ∧ LS hB ((sa, lobj [.ref na, .int at_ t] n) :: (23, tabObj p1) :: (31, tabObj p2) :: tl) sa na nums at_ ∧
      (∀ p ∈ news, p.1 ≠ sa → p.1 ≠ 23 → p.1 ≠ 31 → p ∈ tl) ∧ (∀ p ∈ tl, p.1 ≠ sa ∧ p.1 ≠ 23 ∧ p.1 ≠ 31) ∧ (h.objs.size, o) ∈ tl := by
  obtain ⟨S', T1, T2⟩ := S.keepOn (h' := h.push o) F N fun b o' _ e => Heap.get?_push_of_some _ e
  obtain ⟨tl, t, n, p1, p2, F', N', S2, sub, off, -, fr⟩ := lw_post (ex := []) F N S (fun e he => nomatch he) (fun b o' _ _ _ _ e => Heap.get?_push_of_some _ e) S' T1 T2
  exact ⟨tl, t, n, p1, p2, F', N', S2, fun p hp h1 h2 h3 => sub p hp h1 h2 h3 (by simp), off, fr _ _ (Heap.get?_none_of_le (Nat.le_refl _)) e⟩
theorem fr_ext {g h : Heap} {L : Addr} {m m' : Str → Option Value} (F : Fr g L h m) (e : ∀ y, m y = m' y) : Fr g L h m' := by
  rw [← funext e]; exact F
/-- the names that the law's outer loop binds -/
def mapW (T1 T2 T3 T4 T5 T6 : Option Value) (m0 : Str → Option Value) : Str → Option Value := fun y =>
  if y = Str.ofString "turn" then T1 else if y = Str.ofString "two" then T2 else if y = Str.ofString "three" then T3 else if y = Str.ofString "foreign" then T4 else if y = Str.ofString "item" then T5 else if y = Str.ofString "plain" then T6 else m0 y
theorem fr_mapW {g h : Heap} {L : Addr} {m m0 : Str → Option Value} (F : Fr g L h m) (e : ∀ y, y ≠ Str.ofString "turn" → y ≠ Str.ofString "two" → y ≠ Str.ofString "three" → y ≠ Str.ofString "foreign" → y ≠ Str.ofString "item" → y ≠ Str.ofString "plain" → m y = m0 y) :
    Fr g L h (mapW (m (Str.ofString "turn")) (m (Str.ofString "two")) (m (Str.ofString "three")) (m (Str.ofString "foreign")) (m (Str.ofString "item")) (m (Str.ofString "plain")) m0) := fr_ext F fun y => by
  unfold mapW
  by_cases h1 : y = Str.ofString "turn"
  · rw [if_pos h1, h1]
  rw [if_neg h1]
  by_cases h2 : y = Str.ofString "two"
  · rw [if_pos h2, h2]
  rw [if_neg h2]
  by_cases h3 : y = Str.ofString "three"
  · rw [if_pos h3, h3]
  rw [if_neg h3]
  by_cases h4 : y = Str.ofString "foreign"
  · rw [if_pos h4, h4]
  rw [if_neg h4]
  by_cases h5 : y = Str.ofString "item"
  · rw [if_pos h5, h5]
  rw [if_neg h5]
  by_cases h6 : y = Str.ofString "plain"
  · rw [if_pos h6, h6]
  rw [if_neg h6]
  exact e y h1 h2 h3 h4 h5 h6
/-- between the turns of the law's outer loop -/
def WInv (hB : Heap) (L I sa na : Addr) (nums : List Int) (dr : Drawn) (os : OsState) (m0 : Str → Option Value) (j : Nat) (s' : Shared) : Prop :=
  ∃ h g tk tl t n p1 p2 at' i T1 T2 T3 T4 T5 T6 oOne v0, s' = ⟨h, g, dr, tk, os⟩ ∧ i ≤ 2 ∧ j = 3 - i ∧ Fr hB L h (mapW T1 T2 T3 T4 T5 T6 m0) ∧ News hB L h ((sa, lobj [.ref na, .int at' t] n) :: (23, tabObj p1) :: (31, tabObj p2) :: tl) ∧ LS hB ((sa, lobj [.ref na, .int at' t] n) :: (23, tabObj p1) :: (31, tabObj p2) :: tl) sa na nums at' ∧
    (∀ p ∈ tl, p.1 ≠ sa ∧ p.1 ≠ 23 ∧ p.1 ≠ 31) ∧ (L + 1, oOne) ∈ tl ∧ oOne.data = .cell v0 ∧ (I, ({ cls := .type "range_iterator", data := .fields #[rawInt (0 + (i : Int) * 1), rawInt (((2 : Nat) : Int) - (i : Int)), rawInt 1] } : Obj)) ∈ tl ∧ AllBare g ∧ at' ≤ 1000 * (i : Int)
theorem Kept.post {s s' : Shared} (F : Fr hB L s.heap m) (N : News hB L s.heap news) (S : LS hB news sa na nums at_) (K : Kept s s') :
    ∃ tl t n p1 p2, Fr hB L s'.heap m ∧ News hB L s'.heap ((sa, lobj [.ref na, .int at_ t] n) :: (23, tabObj p1) :: (31, tabObj p2) :: tl) ∧ LS hB ((sa, lobj [.ref na, .int at_ t] n) :: (23, tabObj p1) :: (31, tabObj p2) :: tl) sa na nums at_ ∧
      (∀ p ∈ news, p.1 ≠ sa → p.1 ≠ 23 → p.1 ≠ 31 → p ∈ tl) ∧ (∀ p ∈ tl, p.1 ≠ sa ∧ p.1 ≠ 23 ∧ p.1 ≠ 31) ∧ (∀ a o, s.heap.get? a = none → s'.heap.get? a = some o → (a, o) ∈ tl) := by
  obtain ⟨tl, t, n, p1, p2, F', N', S2, sub, off, -, fr⟩ := lw_post (ex := []) F N S (fun e he => nomatch he) (fun b o _ h2 h3 _ e => K.old b o h2 h3 e) (S.keepAt F N K.old) K.t1 K.t2
  exact ⟨tl, t, n, p1, p2, F', N', S2, fun p hp h1 h2 h3 => sub p hp h1 h2 h3 (by simp), off, fr⟩
theorem ne_trues {prog : Program} {A : Around} {l b : Addr} {vs : List Value} {Q : Value → Shared → Prop} (hl : s.heap.IsList l vs.toArray) (hb : s.heap.IsList b vs.toArray) (hu : A.units < cLine) (h : Q (.bool false) s) :
    wpAny (model prog w) A (compareOp .NotEq (.ref l) (.ref b)) Q E s :=
  PySem.SeqAt.RcNeAt.lists (e := fun _ => true) hl hb rfl hu (fun j h1 h2 => PySem.SeqAt.EqAt.same _) prog w E Q (by rw [show (List.range vs.toArray.size).all (fun _ => true) = true from List.all_eq_true.mpr fun _ _ => rfl]; exact h)
theorem contTop_cont {a b : Doc} (h : isAtom b = false) : contTop a b = cont a b := by
  cases b with
  | atom x => cases h
  | list _ => cases a <;> rfl
  | dict _ => cases a <;> rfl
theorem DocsIn.at {prog : Program} {P : Addr → Obj → Prop} {vs : List Value} {ds : List Doc} (h : DocsIn prog w P vs ds) {i : Nat} {d : Doc} (hd : ds[i]? = some d) : ∃ v, vs[i]? = some v ∧ DocIn prog w P v d := by
  have hi : i < ds.length := by
    rcases Nat.lt_or_ge i ds.length with q | q
    · exact q
    · rw [List.getElem?_eq_none q] at hd; cases hd
  exact ⟨vs[i]'(by rw [h.length]; exact hi), List.getElem?_eq_getElem _, h.get (List.getElem?_eq_getElem (by rw [h.length]; exact hi)) hd⟩
theorem foreign_docs {prog : Program} {h : Heap} {dP lT : Addr} {oP : Obj} {t1 t2 t3 : Tok} (_N : News hB L h news) (h1 : (dP, oP) ∈ news) (lo : (dP == sysModules) = false) (hd : dobj prog w oP [(Str.ofString "p", .int 7 t3)]) (h2 : (lT, lobj [.bool true] 0) ∈ news) :
    DocsIn prog w (fun a o => (a, o) ∈ news) [.int 7 t1, .str (Str.ofString "w") t2, .bool true, .ref dP, .ref lT] foreigns :=
  .cons (.int _ _) (.cons (.str _ _) (.cons (.bool _) (.cons (.dict h1 lo hd (.cons (.int _ _) .nil)) (.cons (.list h2 (.cons (.bool _) .nil)) .nil))))
theorem mid_step {M : Model} {A : Around} {E : Value → Shared → Prop} {s : Shared} {g h : Heap} {L : Addr} {m : Str → Option Value} {tree : Sem Flow} {Q : Flow → Shared → Prop} (_F : Fr g L h m) (Mid : (Str → Option Value) → Shared → Prop) (main : wpAny M A tree (fun f s' => f = .next ∧ Mid m s') E s) (cont : ∀ s', Mid m s' → Q .next s') : wpAny M A tree Q E s :=
  wpAny_mono main (fun _ s' hm => by obtain ⟨rfl, hm⟩ := hm; exact cont s' hm) fun _ _ e => e
/-- one is a list or a dict -/
def MidW (prog : Program) (w : World) (hB : Heap) (L I sa na : Addr) (nums : List Int) (dr : Drawn) (os : OsState) (oI : Obj) (a1 : Int) (m : Str → Option Value) (s' : Shared) : Prop :=
  ∃ h g tk tl t n p1 p2 at' oOne v d, s' = ⟨h, g, dr, tk, os⟩ ∧ Fr hB L h m ∧ News hB L h ((sa, lobj [.ref na, .int at' t] n) :: (23, tabObj p1) :: (31, tabObj p2) :: tl) ∧ LS hB ((sa, lobj [.ref na, .int at' t] n) :: (23, tabObj p1) :: (31, tabObj p2) :: tl) sa na nums at' ∧
    (∀ p ∈ tl, p.1 ≠ sa ∧ p.1 ≠ 23 ∧ p.1 ≠ 31) ∧ (L + 1, oOne) ∈ tl ∧ oOne.data = .cell (some v) ∧ (I, oI) ∈ tl ∧ AllBare g ∧ DocIn prog w (fun a o => (a, o) ∈ tl) v d ∧ clean d ∧ dep d ≤ 3 ∧ isAtom d = false ∧ at' ≤ a1
section
variable {prog : Program} {w w' : World} {P : Addr → Obj → Prop} {A : Around} {E : Value → Shared → Prop} {s : Shared} {v : Value} {d : Doc} {Q : Value → Shared → Prop}
set_option maxHeartbeats 1000000 in
theorem isi_doc {tp : Addr} {n : Nat} (hv : DocIn prog w' P v d) (hP : ∀ a o, P a o → s.heap.get? a = some o) (X : (hd.heap_39 w.params).In s.heap) (htp : s.heap.get? tp = some ⟨.type "tuple", none, .seq [Value.type "dict", Value.type "list"].toArray n, #[]⟩)
    (h : ∀ tk, Q (.bool (!isAtom d)) { s with toks := tk }) : wpAny (model Challenge.rw_ez0233_01.row.prog w) A (call (.builtin "isinstance") [v, .ref tp]) Q E s := by
  cases d with
  | atom x => exact isi_atom_tup hv X htp h
  | list ds =>
    revert X; k_fill; intro X
    cases hv with
    | list e _ => exact kia_tup kitx_list X ⟨_, hP _ _ e, rfl⟩ htp (by kit_is) (by intro q; cases q) h
  | dict ds =>
    revert X; k_fill; intro X
    cases hv with
    | dict e _ hd _ => exact kia_tup kitx_dict X ⟨_, hP _ _ e, hd.1.1⟩ htp (by kit_is) (by intro q; cases q) h
def isList : Doc → Bool
  | .list _ => true
  | _ => false
set_option maxHeartbeats 1000000 in
theorem isi_list (hv : DocIn prog w' P v d) (hP : ∀ a o, P a o → s.heap.get? a = some o) (X : (hd.heap_39 w.params).In s.heap)
    (h : ∀ tk, Q (.bool (isList d)) { s with toks := tk }) : wpAny (model Challenge.rw_ez0233_01.row.prog w) A (call (.builtin "isinstance") [v, .type "list"]) Q E s := by
  cases d with
  | atom x => exact isi_atom_one (.inr rfl) hv X h
  | list ds =>
    revert X; k_fill; intro X
    cases hv with
    | list e _ => exact kia_one kitx_list X ⟨_, hP _ _ e, rfl⟩ (by kit_is) (by intro q; cases q) h
  | dict ds =>
    revert X; k_fill; intro X
    cases hv with
    | dict e _ hd _ => exact kia_one kitx_dict X ⟨_, hP _ _ e, hd.1.1⟩ (by kit_is) (by intro q; cases q) h
end
/-- a name that is a cell of the law's frame is bound -/
theorem lw_store {env : Env} {x : Str} {c : Addr} {oC : Obj} {v0 : Option Value} {v : Value} {Q : Unit → Shared → Prop} (F : Fr hB L s.heap m) (N : News hB L s.heap news) (S : LS hB news sa na nums at_) (hm : (c, oC) ∈ news) (hd : oC.data = .cell v0)
    (h : ∀ h' tl t n p1 p2 oC', Fr hB L h' m → News hB L h' ((sa, lobj [.ref na, .int at_ t] n) :: (23, tabObj p1) :: (31, tabObj p2) :: tl) → LS hB ((sa, lobj [.ref na, .int at_ t] n) :: (23, tabObj p1) :: (31, tabObj p2) :: tl) sa na nums at_ →
      (∀ p ∈ news, p.1 ≠ sa → p.1 ≠ 23 → p.1 ≠ 31 → p.1 ≠ c → p ∈ tl) → (∀ p ∈ tl, p.1 ≠ sa ∧ p.1 ≠ 23 ∧ p.1 ≠ 31) → (c, oC') ∈ tl → oC'.data = .cell (some v) → Q () { s with heap := h' })
    (hk : env.scope.kind = .function) (hl : env.kindOf x = some .cell) (hc : env.cells.lookup x = some c) {prog : Program} : wpAny (model prog w) A (storeName env x v) Q E s := by
  refine wpAny_storeName_cell hk hl hc ⟨oC, N.get hm, hd⟩ fun h' hv hs => ?_
  obtain ⟨tl, t, n, p1, p2, F', N', S2, sub, off, mem⟩ := lw_one F N S hm (fun xs n e => by rw [hd] at e; cases e) (fun ps e => by rw [e] at hd; cases hd) (fun b o hb e => (hs.2 b hb).trans e)
  obtain ⟨o', e', d'⟩ := hv
  exact h h' tl t n p1 p2 o' F' N' S2 sub off (mem o' e') d'
/-- inside the law's inner loop -/
def Mid2 (prog : Program) (w : World) (hB : Heap) (L sa na : Addr) (nums : List Int) (dr : Drawn) (os : OsState) (at_ : Int) (v1 : Value) (d1 : Doc) (v2 : Value) (d2 : Doc) (keep : List (Addr × Obj)) (m : Str → Option Value) (s' : Shared) : Prop :=
  ∃ h g tk tl t n p1 p2, s' = ⟨h, g, dr, tk, os⟩ ∧ Fr hB L h m ∧ News hB L h ((sa, lobj [.ref na, .int at_ t] n) :: (23, tabObj p1) :: (31, tabObj p2) :: tl) ∧ LS hB ((sa, lobj [.ref na, .int at_ t] n) :: (23, tabObj p1) :: (31, tabObj p2) :: tl) sa na nums at_ ∧
    (∀ p ∈ tl, p.1 ≠ sa ∧ p.1 ≠ 23 ∧ p.1 ≠ 31) ∧ (∀ p ∈ keep, p ∈ tl) ∧ AllBare g ∧ DocIn prog w (fun a o => (a, o) ∈ tl) v1 d1 ∧ DocIn prog w (fun a o => (a, o) ∈ tl) v2 d2
theorem Mid2.step {prog : Program} {dr : Drawn} {os : OsState} {v1 v2 : Value} {d1 d2 : Doc} {J : Addr} {oJ : Obj} {keep : List (Addr × Obj)} {T : String} {xs : Array Value} {s' : Shared} {h' : Heap} {tk' : Nat} (M : Mid2 prog w hB L sa na nums dr os at_ v1 d1 v2 d2 ((J, oJ) :: keep) m s') (hc : oJ.cls = .type T) (hT : T ≠ "list" ∧ T ≠ "dict") (hd : oJ.data = .fields xs)
    (hk : ∀ p ∈ keep, p.2.cls ≠ oJ.cls ∨ ∃ v, p.2.data = .cell v) (k : ∀ b o, b ≠ J → s'.heap.get? b = some o → h'.get? b = some o) :
    (∀ oJ', h'.get? J = some oJ' → Mid2 prog w hB L sa na nums dr os at_ v1 d1 v2 d2 ((J, oJ') :: keep) m { s' with heap := h', toks := tk' }) ∧ Mid2 prog w hB L sa na nums dr os at_ v1 d1 v2 d2 keep m { s' with heap := h', toks := tk' } := by
  obtain ⟨h, g, tk, tl, t, n, p1, p2, rfl, F, N, S, off, hkp, hb, e1, e2⟩ := M
  have hJ := hkp _ List.mem_cons_self
  have hJN := N.get (List.mem_cons_of_mem _ (List.mem_cons_of_mem _ (List.mem_cons_of_mem _ hJ)))
  obtain ⟨tl', t', n', q1, q2, F', N', S', sub', off', mem'⟩ := lw_one F N S (List.mem_cons_of_mem _ (List.mem_cons_of_mem _ (List.mem_cons_of_mem _ hJ))) (fun ys n e => by rw [hd] at e; cases e) (fun ps e => by rw [e] at hc; cases hc) k
  have k2 : ∀ p ∈ tl, p.2 ≠ oJ → p ∈ tl' := fun p hp hne => (let z := off p hp; sub' _ (List.mem_cons_of_mem _ (List.mem_cons_of_mem _ (List.mem_cons_of_mem _ hp))) z.1 z.2.1 z.2.2 fun q => hne (by
    have := (N _ (List.mem_cons_of_mem _ (List.mem_cons_of_mem _ (List.mem_cons_of_mem _ hp)))).1
    rw [q, hJN] at this
    exact (Option.some.inj this).symm))
  have k3 : ∀ a o, (a, o) ∈ tl → (o.cls = .type "list" ∨ o.cls = .type "dict") → (a, o) ∈ tl' := fun a o hp hcl => k2 _ hp fun q => by
    dsimp only at q
    rw [q, hc] at hcl
    rcases hcl with h | h
    · exact hT.1 (by cases h; rfl)
    · exact hT.2 (by cases h; rfl)
  have k4 : ∀ p ∈ keep, p ∈ tl' := fun p hp => k2 p (hkp p (List.mem_cons_of_mem _ hp)) fun q => by
    rcases hk p hp with h | ⟨v, h⟩
    · exact h (by rw [q])
    · rw [q, hd] at h; cases h
  refine ⟨fun oJ' e => ⟨h', g, tk', tl', t', n', q1, q2, rfl, F', N', S', off', fun p hp => ?_, hb, e1.mono fun a o q hcl => k3 a o q hcl, e2.mono fun a o q hcl => k3 a o q hcl⟩, ⟨h', g, tk', tl', t', n', q1, q2, rfl, F', N', S', off', k4, hb, e1.mono fun a o q hcl => k3 a o q hcl, e2.mono fun a o q hcl => k3 a o q hcl⟩⟩
  rcases List.mem_cons.mp hp with rfl | hp
  · exact mem' _ e
  · exact k4 p hp
theorem pairs_uniq {prog : Program} {K : Type} [DecidableEq K] {knd : KeyKind prog w K} : ∀ {l : List DictEntry} {a b : List (K × Value)}, Pairs knd l a → Pairs knd l b → a = b
  | _, _, _, .nil, .nil => rfl
  | _, _, _, .cons h1 v1 r1, .cons h2 v2 r2 => by
    rw [pairs_uniq r1 r2, Prod.ext (knd.inj _ _ _ h1 h2) (v1.symm.trans v2)]
theorem dobj_uniq {prog : Program} {o : Obj} {a b : List (Str × Value)} (x : dobj prog w o a) (y : dobj prog w o b) : a = b := by
  obtain ⟨_, es, ep, e, _, p, _⟩ := x
  obtain ⟨_, es2, ep2, e2, _, p2, _⟩ := y
  rw [e] at e2
  cases e2
  exact pairs_uniq p p2
theorem lobj_uniq {a b : List Value} {n k : Nat} (e : lobj a n = lobj b k) : a = b := by
  have : (Data.seq a.toArray n : Data) = .seq b.toArray k := congrArg Obj.data e
  injection this with h _
  exact List.toArray_inj h
theorem sub_doc2 {prog : Program} {value slice : PySem.Expr} {la : Addr} {kvs : List (Str × Value)} {k : Str} {t : Tok} {v : Value} {Q : Value → Shared → Prop} (D : s.heap.DictOf (PySem.strKind prog w) la kvs) (hv : look kvs k = some v) (h : Q v { s with toks := s.toks + 1 })
    (hs : subscripted slice false (.ref la) (.str k t) = operate [.ref la, .str k t] (getItem (.ref la) (.str k t))) :
    wpAny (model prog w) A (subscriptTail value slice (.ref la) (.str k t)) Q E s :=
  tail_any D.typeIs PySem.slot_dict_getitem.lookup (wpAny_getItem_of (strKind_is prog w k t) D.mapOf hv h) hs
/-- the names that the law's inner loop binds -/
def mapI (T5 T6 : Option Value) (m0 : Str → Option Value) : Str → Option Value := fun y => if y = Str.ofString "item" then T5 else if y = Str.ofString "plain" then T6 else m0 y
theorem fr_mapI {g h : Heap} {L : Addr} {m m0 : Str → Option Value} (F : Fr g L h m) (e : ∀ y, y ≠ Str.ofString "item" → y ≠ Str.ofString "plain" → m y = m0 y) :
    Fr g L h (mapI (m (Str.ofString "item")) (m (Str.ofString "plain")) m0) := fr_ext F fun y => by
  unfold mapI
  by_cases h5 : y = Str.ofString "item"
  · rw [if_pos h5, h5]
  rw [if_neg h5]
  by_cases h6 : y = Str.ofString "plain"
  · rw [if_pos h6, h6]
  rw [if_neg h6]
  exact e y h5 h6
/-- between the turns of the law's inner loop -/
def WInv2 (prog : Program) (w : World) (hB : Heap) (L sa na : Addr) (nums : List Int) (dr : Drawn) (os : OsState) (at_ : Int) (v1 : Value) (d1 : Doc) (v2 : Value) (d2 : Doc) (keep : List (Addr × Obj)) (J : Addr) (itP : Nat → Obj → Prop) (N : Nat) (m0 : Str → Option Value) (j : Nat) (s' : Shared) : Prop :=
  ∃ oJ i T5 T6, i ≤ N ∧ j = N + 1 - i ∧ itP i oJ ∧ Mid2 prog w hB L sa na nums dr os at_ v1 d1 v2 d2 ((J, oJ) :: keep) (mapI T5 T6 m0) s'
theorem top_list {ds : List Doc} {x : Atom} (h : .atom x ∈ ds) : contTop (.list ds) (.atom x) = true := by
  show (ds.any fun y => cont y (.atom x)) = true
  rw [List.any_eq_true]
  exact ⟨_, h, by simp [cont]⟩
theorem top_dict {es : List (Str × Doc)} {x : Atom} : contTop (.dict es) (.atom x) = false := by simp [contTop, cont]
theorem top_atom {x : Atom} {d : Doc} (h : isAtom d = false) : contTop (.atom x) d = false := by
  rw [contTop_cont h]
  cases d with
  | atom _ => cases h
  | list _ => simp [cont]
  | dict _ => simp [cont]
theorem top_self {x : Atom} : contTop (.atom x) (.atom x) = true := by simp [contTop, cont]
end
end Mine
end
open PySem PySem.W PySem.Spec PySem.Calls PyProof.Rows
noncomputable def Mine.K2 (P : Params) : Frag := hd.heap_39 P ++ [(23, tabObj #[]), (31, tabObj #[])]
open PySem PySem.W PySem.Spec PySem.Calls PyProof.Rows
set_option Elab.async false
set_option maxRecDepth 100000
set_option maxHeartbeats 8000000
namespace Mine
theorem code_27 {P : Params} {h : Heap} (X : (hd.heap_39 P).In h) : CodeHd h 27 23 := by
  have e : ∃ o, (hd.heap_39 P).lookup 27 = some o ∧ ∃ vs file tf flags tg inF text tt, o.cls = .type "code" ∧ o.data = .fields vs ∧ vs[11]? = some (.ref 23) ∧ vs.getD 11 .none = .ref 23 ∧ vs.getD 18 .none = .str file tf ∧ vs.getD 7 .none = .int flags tg ∧ vs.getD 9 .none = .bool inF ∧ vs.getD 10 .none = .int text tt :=
    ⟨_, by with_unfolding_all rfl, _, _, _, _, _, _, _, _, rfl, rfl, rfl, rfl, rfl, rfl, rfl, rfl⟩
  obtain ⟨o, e, vs, file, tf, flags, tg, inF, text, tt, r1, r2, r3, r4, r5, r6, r7, r8⟩ := e
  exact ⟨o, vs, file, tf, flags, tg, inF, text, tt, X _ _ e, r1, r2, r3, r4, r5, r6, r7, r8, by decide⟩
theorem code_35 {P : Params} {h : Heap} (X : (hd.heap_39 P).In h) : CodeHd h 35 31 := by
  have e : ∃ o, (hd.heap_39 P).lookup 35 = some o ∧ ∃ vs file tf flags tg inF text tt, o.cls = .type "code" ∧ o.data = .fields vs ∧ vs[11]? = some (.ref 31) ∧ vs.getD 11 .none = .ref 31 ∧ vs.getD 18 .none = .str file tf ∧ vs.getD 7 .none = .int flags tg ∧ vs.getD 9 .none = .bool inF ∧ vs.getD 10 .none = .int text tt :=
    ⟨_, by with_unfolding_all rfl, _, _, _, _, _, _, _, _, rfl, rfl, rfl, rfl, rfl, rfl, rfl, rfl⟩
  obtain ⟨o, e, vs, file, tf, flags, tg, inF, text, tt, r1, r2, r3, r4, r5, r6, r7, r8⟩ := e
  exact ⟨o, vs, file, tf, flags, tg, inF, text, tt, X _ _ e, r1, r2, r3, r4, r5, r6, r7, r8, by decide⟩
end Mine
local macro_rules | `(tactic| k_mem) => `(tactic| first | exact List.mem_cons_self | with_reducible assumption | (refine' List.mem_cons_of_mem _ ?_; k_mem))
local macro_rules | `(tactic| walk_at "call builtin:isinstance") => `(tactic| (k_here; (with_reducible show wpAny _ _ (call _ [Value.ref _, _]) _ _ _); k_dflt (first
  | (refine' kia_one kitx_list ?X ?c ?ee ?nb ?_; (case c => exact kit_keep (by assumption) (Fr.keep (by k_asm))); (case X => k_in); (case ee => kit_is); (case nb => kit_nb); k_whole; intro _)
  | (refine' kia_one kitx_dict ?X ?c ?ee ?nb ?_; (case c => exact kit_keep (by assumption) (Fr.keep (by k_asm))); (case X => k_in); (case ee => kit_is); (case nb => kit_nb); k_whole; intro _))))
-- the walk, but it stands still before what is done by hand
local macro_rules | `(tactic| ktr_unf) => `(tactic| repeat' (
  (fail_if_success (with_reducible show wpAny _ _ (exec (Stmt.For _ _ _ _ _) _) _ _ _));
  (fail_if_success (with_reducible show wpAny _ _ (exec (Stmt.If (Expr.UnaryOp _ _ _) _ _ _) _) _ _ _));
  (fail_if_success (with_reducible show wpAny _ _ (pyIter _) _ _ _));
  (fail_if_success (with_reducible show GoodWG _ _ _ _ _ _ _));
  (fail_if_success (with_reducible show wpAny _ _ (exec (Stmt.Assign _ (Expr.Subscript _ _ _) _) _) _ _ _));
  (fail_if_success (with_reducible show Mine.SrcC _ _ _ _ _ _ _ _ _ _ _ _));
  (fail_if_success (with_reducible show wpAny _ _ (eval (Expr.ListComp _ _ _ _) _) _ _ _));
  (fail_if_success (with_reducible show wpAny _ _ (compareOp CmpOp.NotEq (Value.ref _) (Value.ref _)) _ _ _));
  (fail_if_success (with_reducible show wpAny _ _ (call (Value.builtin "isinstance") _) _ _ _));
  (fail_if_success (with_reducible show wpAny _ _ (subscriptTail _ _ _ _) _ _ _));
  first | (with_reducible refine Eq.mpr (if_neg (by decide)) ?_) | (with_reducible refine Eq.mpr (if_pos (by decide)) ?_) | (k_unfold; (try dsimp only)) | (k_end; wrow_close) | walk1 | (dsimp only; walk1) | (leave1; walk_say "STEP leave1"; try dsimp only) | fail "no step"))
local macro_rules | `(tactic| walk_at "call ref") => `(tactic| (k_here; fail "here"))
theorem PySem.Challenge.cw_ez0233_01_holds : PySem.Challenge.rw_ez0233_01.Holds := by
    w_on
    o_law
    o_head (kHook Mine.K2 [2, 3, 6, 15, 17, 18, 20, 21, 22, 24, 25, 27, 28, 29, 30, 32, 33, 35, 36, 37, 39, 40, 42, 43, 44, 47, 48, 49, 51, 52, 54, 55, 56, 59, 60, 61, 64, 65, 66, 68, 69, 71, 72, 73, 76, 77, 23, 31] (fun _ => by kernel_rfl))
    (case hw => w_witness2)
    intro w s₀ s₁ mg mb G Y fa o pm cd doc dV kV ho hfd hcd hD hmg hg args vals as hpre hlay hrd hwl hlo
    have KX2 := kIn_of Y
    have KX : (hd.heap_39 w.params).In s₁.heap := fun a o e => KX2 a o (by show List.lookup a (hd.heap_39 w.params ++ [(23, tabObj #[]), (31, tabObj #[])]) = some o; rw [List.lookup_append, e]; rfl)
    have h23 : s₁.heap.get? 23 = some (tabObj #[]) := KX2 23 _ (by kernel_rfl)
    have h31 : s₁.heap.get? 31 = some (tabObj #[]) := KX2 31 _ (by kernel_rfl)
    clear KX2
    revert KX
    k_fill
    intro KX
    refine Ground.open G ?_
    intro T TB D TE TW
    try (refine guard_noD D (by decide +kernel) ?_; clear D)
    have TA := at_of_top T
    clear hmg
    wrow_args hpre hlay hrd hwl hlo
    refine enter_call ?_
    w_top on
    have K0 := below_caller (Top.heap T)
    w_call any ho hfd hcd hD T F
    clear hfd TA
    k_drop
    have c27 := Mine.code_27 KX
    have c35 := Mine.code_35 KX
    have hT : TabsAt [(27, 23), (35, 31)] s₁.heap := List.forall_mem_cons.mpr ⟨⟨c27, h23⟩, List.forall_mem_cons.mpr ⟨⟨c35, h31⟩, fun _ h => nomatch h⟩⟩
    have X' := ghost_K hT KX (by kernel_rfl)
    have T' := ghost_top hT T
    have CA := ghost_code hT
    have F' := ghost_fr hT F
    rename News _ _ _ _ => N0
    have N' := ghost_news hT F N0
    rename Heap.IsList _ _ _ => hL
    have hl' := ghost_list hT hL
    rename IntsAre _ _ => hI
    rename_i ns _ _ _ _ _ _ _ ls vs _ _ _ _ _ hlen _ h₁ tk₁ oOne hOne _
    replace hOne : oOne.data = .cell none := hOne
    have B : Mine.Base w (ExcName.means s₀.heap) mg mb (ghostOf s₁.heap [(27, 23), (35, 31)]) := ⟨X', T', hideAll_none _ (by simp), hideAll_none _ (by simp), CA.1, CA.2.1⟩
    have fin : ∀ h' g' tk', (∀ b o, (ghostOf s₁.heap [(27, 23), (35, 31)]).get? b = some o → h'.get? b = some o) → Mine.Tab h' 23 → Mine.Tab h' 31 → AllBare g' →
        GoodWG PySem.Challenge.rw_ez0233_01.row.claim (classAt s₀.heap) (ExcName.means s₀.heap) [ofPy (PyData.list (List.map PyData.int ns))] s₁ (.ok (.ret (.bool true))) ⟨h', g', s₁.drawn, tk', s₁.os⟩ := by
      intro h' g' tk' hk t1 t2 hb
      have grown : ∀ b o, b ∈ [23, 31] → s₁.heap.get? b = some o → isCodeTable s₁.heap b ∧ o = tabObj #[] ∧ ∃ ps, h'.get? b = some (tabObj ps) := fun b o hb e => by
        rcases List.mem_cons.mp hb with rfl | hb
        · rw [h23] at e; exact ⟨(c27.tab h23).isCodeTable, (Option.some.inj e).symm, let ⟨ps, e, _⟩ := t1; ⟨ps, e⟩⟩
        · rw [List.mem_singleton.mp hb] at e ⊢; rw [h31] at e; exact ⟨(c35.tab h31).isCodeTable, (Option.some.inj e).symm, let ⟨ps, e, _⟩ := t2; ⟨ps, e⟩⟩
      refine ⟨.inl ⟨.bool true, .bool true, [], rfl, fun _ => rfl, .bool _, by with_unfolding_all rfl, fun _ => ⟨.nil, fun a ha => nomatch ha⟩⟩, ⟨fun b o e => ?_, fun b o e => ?_⟩, rfl, hb⟩
      · by_cases hb : b ∈ [23, 31]
        · obtain ⟨ht, rfl, ps, hP⟩ := grown b o hb e
          exact .inr (.inl ⟨ht, rfl, #[], ps, rfl, by rw [Array.empty_append]; exact hP⟩)
        · exact .inl (hk b o (ghost_ne e hb))
      · by_cases hb : b ∈ [23, 31]
        · obtain ⟨_, _, ps, hP⟩ := grown b o hb e
          exact ⟨_, hP⟩
        · exact ⟨o, hk b o (ghost_ne e hb)⟩
    have hbare : AllBare s₁.gens := .of_eq hg
    clear F N0 T KX K0 hL hcd hD TB TE TW ho hg c27 c35 hT CA h23 h31 G Y
    generalize ghostOf s₁.heap [(27, 23), (35, 31)] = g at *
    generalize s₁.heap.objs.size = L at *
    have hlen' : ns.length ≤ 63 := by omega
    replace N' : News g L h₁ [(L + 1, oOne), (23, tabObj #[]), (31, tabObj #[])] := N'
    try dsimp only
    try k_fold
    ktr_unf
    refine Mine.lw_state B F' N' (List.mem_cons_of_mem _ List.mem_cons_self) (List.mem_cons_of_mem _ (List.mem_cons_of_mem _ List.mem_cons_self)) (let ⟨o, e, r⟩ := hl'; ⟨o, F'.keep _ _ e, r⟩) hI hlen' (by show callerA.depth + 1 + 4 < recursionLimit; decide +kernel) rfl fun sa na nums h2 tk2 tl t n F2 N2 S2 sub2 off2 => ?_
    have hne1 : (L + 1, oOne).1 ≠ 23 := fun q => by
      have e1 := N'.get List.mem_cons_self
      have e2 := N'.get (List.mem_cons_of_mem _ List.mem_cons_self)
      dsimp only at q; rw [q, e2] at e1; cases e1; cases hOne
    have hne2 : (L + 1, oOne).1 ≠ 31 := fun q => by
      have e1 := N'.get List.mem_cons_self
      have e2 := N'.get (List.mem_cons_of_mem _ (List.mem_cons_of_mem _ List.mem_cons_self))
      dsimp only at q; rw [q, e2] at e1; cases e1; cases hOne
    have hc2 : (L + 1, oOne) ∈ tl := sub2 _ List.mem_cons_self hne1 hne2
    clear F' N' sub2
    ktr_unf
    rename Fr _ _ _ _ => F3
    rename News _ _ _ _ => N3
    have cd0 : callerA.depth + 1 + 300 < recursionLimit := by decide +kernel
    have cu0 : callerA.units + 2000 < cLine := by decide +kernel
    refine wpAny_For ?_
    ktr_unf
    rename IsRange _ _ _ _ _ _ _ _ => hR
    rename Fr _ _ _ _ => F4
    rename News _ _ _ _ => N4
    refine wpAny_pyIter_range hR (by decide) ?_
    rename Heap => h4
    rw [show Builtin.Range.rangeSize 0 2 1 = ((2 : Nat) : Int) by decide]
    dsimp only
    obtain ⟨tl5, t5, n5, q1, q2, F5, N5, S5, sub5, off5, hI5⟩ := Mine.lw_push (o := { cls := .type "range_iterator", data := .fields #[rawInt 0, rawInt ((2 : Nat) : Int), rawInt 1] }) F4 N4 S2 (Heap.get?_push_size _ rfl)
    have z1 := off2 _ hc2
    have hc5 := sub5 _ (List.mem_cons_of_mem _ (List.mem_cons_of_mem _ (List.mem_cons_of_mem _ hc2))) z1.1 z1.2.1 z1.2.2
    have ltI : @LT.lt Nat _ (L + 1) h4.objs.size := Heap.lt_size (N4.get (List.mem_cons_of_mem _ (List.mem_cons_of_mem _ (List.mem_cons_of_mem _ hc2))))
    have hLI : L + 1 ≠ h4.objs.size := Nat.ne_of_lt ltI
    clear N4 S2 sub5
    generalize h4.objs.size = I at *
    refine Mine.forM F5 (fun m0 => Mine.WInv g L I sa na nums s₁.drawn s₁.os m0) ?turn 3 ?init
    case init =>
      exact ⟨_, _, _, tl5, t5, n5, q1, q2, 0, 0, _, _, _, _, _, _, oOne, none, rfl, by omega, rfl, Mine.fr_mapW F5 (fun y _ _ _ _ _ _ => rfl), N5, S5, off5, hc5, hOne, by simpa using hI5, hbare, by omega⟩
    case turn =>
      clear F4 F5 N5 S5 hI5 hc5 off5
      rintro j s' ⟨h', g', tk, tl, t', n', p1, p2, at', i, T1, T2, T3, T4, T5, T6, oC, v0, rfl, hi, rfl, F, N, S, off, hc, hcd, hI, hb, hat⟩
      unfold Mine.mapW at F
      have hit : IsRangeIter h' I (0 + (i : Int) * 1) (((2 : Nat) : Int) - (i : Int)) 1 := N.get (List.mem_cons_of_mem _ (List.mem_cons_of_mem _ (List.mem_cons_of_mem _ hI)))
      by_cases hlt : i < 2
      · refine (Walks.range (prog := PySem.Challenge.rw_ez0233_01.row.prog) (w := w) rfl I 0 1 2).item i _ _ _ hlt hit fun v h₁ tk₁ hPv hst₁ hk₁ => ?_
        obtain ⟨tv, rfl⟩ := hPv
        obtain ⟨tl1, t1, n1, q1, q2, F1, N1, S1, sub1, off1, mem1⟩ := Mine.lw_one F N S (List.mem_cons_of_mem _ (List.mem_cons_of_mem _ (List.mem_cons_of_mem _ hI))) (fun xs n e => by cases e) (fun ps e => by cases e) (fun b o hb e => hk₁ b o (by simpa using hb) e)
        have hI1 := mem1 _ hst₁
        have z1 := off _ hc
        have hc1 := sub1 _ (List.mem_cons_of_mem _ (List.mem_cons_of_mem _ (List.mem_cons_of_mem _ hc))) z1.1 z1.2.1 z1.2.2 hLI
        clear F N S sub1 mem1 hI hc off
        dsimp only
        ktr_unf
        rename Fr _ _ _ _ => F2
        rename News _ _ _ _ => N2
        refine Mine.lw_heap (R := fun hp hq r at2 => ∃ d, Mine.DocIn PySem.Challenge.rw_ez0233_01.row.prog w (fun a o => hp.get? a = none ∧ hq.get? a = some o) r d ∧ Mine.clean d ∧ Mine.dep d ≤ 3 ∧ at' ≤ at2 ∧ at2 ≤ at' + Mine.cost 3) F2 N2 S1 hb (fun Q' hQ' => Mine.doc_spec 3 _ _ sa na nums at' _ _ Q' _ (S1.wld B F2 N2) (S1.hB0 N2) (S1.at F2 N2) (by have : Mine.cost 3 = 119 := rfl; omega) rfl rfl (by show callerA.depth + 1 + 3 * 3 + 10 < recursionLimit; omega) (by show callerA.units + _ + 10 * 3 + 60 < cLine; omega) fun r d h' tk at2 a1 a2 a3 a4 a5 a6 a7 => hQ' _ _ _ _ a4 a5 ⟨d, a1, a2, a3, a6, a7⟩) ?_
        rintro v1 h3 g3 tk3 tl3 t3 n3 p31 p32 at3 F3 N3 S3 sub3 off3 fr3 hb3 ⟨d1, hd1, hcl1, hdp1, lo3, hi3⟩
        have hcell := N2.get (List.mem_cons_of_mem _ (List.mem_cons_of_mem _ (List.mem_cons_of_mem _ hc1)))
        replace hd1 : Mine.DocIn PySem.Challenge.rw_ez0233_01.row.prog w (fun a o => (a, o) ∈ tl3 ∧ a ≠ L + 1) v1 d1 := hd1.mono fun a o ⟨e1, e2⟩ _ => ⟨fr3 a o e1 e2, fun q => by rw [q] at e1; dsimp only at e1; rw [hcell] at e1; cases e1⟩
        have zI := off1 _ hI1
        have z1 := off1 _ hc1
        have hI3 := sub3 _ (List.mem_cons_of_mem _ (List.mem_cons_of_mem _ (List.mem_cons_of_mem _ hI1))) zI.1 zI.2.1 zI.2.2
        have hc3 := sub3 _ (List.mem_cons_of_mem _ (List.mem_cons_of_mem _ (List.mem_cons_of_mem _ hc1))) z1.1 z1.2.1 z1.2.2
        clear F2 N2 S1 sub3 fr3 hI1 hc1 off1
        ktr_unf
        refine Mine.lw_store F3 N3 S3 (List.mem_cons_of_mem _ (List.mem_cons_of_mem _ (List.mem_cons_of_mem _ hc3))) hcd (fun h4 tl4 t4 n4 p41 p42 oD F4 N4 S4 sub4 off4 hc4 hcd4 => ?_) rfl rfl rfl
        have zI := off3 _ hI3
        have hI4 := sub4 _ (List.mem_cons_of_mem _ (List.mem_cons_of_mem _ (List.mem_cons_of_mem _ hI3))) zI.1 zI.2.1 zI.2.2 (Ne.symm hLI)
        have hd4 : Mine.DocIn PySem.Challenge.rw_ez0233_01.row.prog w (fun a o => (a, o) ∈ tl4) v1 d1 := hd1.mono fun a o ⟨e1, e2⟩ _ => (let z := off3 _ e1; sub4 _ (List.mem_cons_of_mem _ (List.mem_cons_of_mem _ (List.mem_cons_of_mem _ e1))) z.1 z.2.1 z.2.2 e2)
        clear F3 N3 S3 sub4 hd1 hI3 hc3 hcd hcell zI z1
        ktr_unf
        refine Mine.mid_step F4 (Mine.MidW PySem.Challenge.rw_ez0233_01.row.prog w g L I sa na nums s₁.drawn s₁.os { cls := .type "range_iterator", data := .fields #[rawInt (0 + ((i + 1 : Nat) : Int) * 1), rawInt (((2 : Nat) : Int) - ((i + 1 : Nat) : Int)), rawInt 1] } (1000 * (i : Int) + 119)) ?main ?cont
        case main =>
          walk1
          ktr_unf
          rename Fr _ _ _ _ => F5
          rename News _ _ _ _ => N5
          refine Mine.isi_doc hd4 (fun a o e => N5.get (List.mem_cons_of_mem _ (List.mem_cons_of_mem _ (List.mem_cons_of_mem _ (List.mem_cons_of_mem _ e))))) (X'.keeps F5.keep) (N5.get List.mem_cons_self) fun tk => ?_
          have c3 : Mine.cost 3 = 119 := rfl
          cases hA : Mine.isAtom d1
          · simp only [Bool.not_false]
            ktr_unf
            exact ⟨_, g3, _, tl4, t4, n4, p41, p42, at3, oD, v1, d1, rfl, F5, fun p hp => N5 p (List.mem_cons_of_mem _ hp), S4, off4, hc4, hcd4, hI4, hb3, hd4, hcl1, hdp1, hA, by omega⟩
          · simp only [Bool.not_true]
            ktr_unf
            rename_i D6 h6 F6 N6 l6
            have l6' := Mine.allLt_mem l6.2.2.2.2
            refine Mine.lw_store F6 N6 (S4.sub fun p hp => List.mem_cons_of_mem _ (List.mem_cons_of_mem _ hp)) (List.mem_cons_of_mem _ (List.mem_cons_of_mem _ (List.mem_cons_of_mem _ (List.mem_cons_of_mem _ (List.mem_cons_of_mem _ hc4))))) hcd4 (fun h7 tl7 t7 n7 p71 p72 oE F7 N7 S7 sub7 off7 hc7 hcd7 => ?_) rfl rfl rfl
            ktr_unf
            have hm6 : (D6, Mine.lobj [v1] 0) ∈ tl7 := sub7 _ List.mem_cons_self (Nat.ne_of_gt l6.2.1) (Nat.ne_of_gt l6.2.2.1) (Nat.ne_of_gt l6.2.2.2.1) (Nat.ne_of_gt (l6' _ hc4))
            have k67 : ∀ p ∈ tl4, p.1 ≠ L + 1 → p ∈ tl7 := fun p hp hne => (let z := off4 p hp; sub7 _ (List.mem_cons_of_mem _ (List.mem_cons_of_mem _ (List.mem_cons_of_mem _ (List.mem_cons_of_mem _ (List.mem_cons_of_mem _ hp))))) z.1 z.2.1 z.2.2 hne)
            obtain ⟨x1, rfl⟩ : ∃ x, d1 = .atom x := by cases d1 with | atom x => exact ⟨x, rfl⟩ | list _ => cases hA | dict _ => cases hA
            exact ⟨_, g3, _, tl7, t7, n7, p71, p72, at3, oE, .ref D6, .list [.atom x1], rfl, F7, N7, S7, off7, hc7, hcd7, k67 _ hI4 (Ne.symm hLI), hb3, .list hm6 (.cons (by cases hd4 <;> constructor) .nil), ⟨by show 1 ≤ 3; decide, hcl1, trivial⟩, by show Mine.depL [_] + 1 ≤ 3; exact Nat.succ_le_succ (Mine.depL_le fun d hd => by rw [List.mem_singleton.mp hd]; exact Nat.zero_le _), rfl, by omega⟩
        case cont =>
          clear F4 N4 S4 off4 hc4 hcd4 hI4 hd4 hcl1 hdp1 hb3
          rintro s' ⟨h5, g5, tk5, tl5, t5, n5, p51, p52, at5, oE, v1, d1, rfl, F5, N5, S5, off5, hc5, hcd5, hI5, hb5, hd1, hcl1, hdp1, hA1, hat5⟩
          dsimp only
          ktr_unf
          rename Fr _ _ _ _ => F6
          rename News _ _ _ _ => N6
          have lc3 : Mine.lcost 3 = 91 := rfl
          refine Mine.lw_heap (R := fun hp hq r at2 => ∃ d, Mine.DocIn PySem.Challenge.rw_ez0233_01.row.prog w (fun a o => hp.get? a = none ∧ hq.get? a = some o) r d ∧ Mine.clean d ∧ Mine.cont d1 d = true ∧ Mine.dep d ≤ 3 ∧ Mine.isAtom d = Mine.isAtom d1 ∧ at5 ≤ at2 ∧ at2 ≤ at5 + Mine.lcost 3) F6 N6 S5 hb5 (fun Q' hQ' => Mine.less_spec 3 _ _ sa na nums at5 v1 d1 Q' _ (S5.wld B F6 N6) (S5.hB0 N6) (S5.at F6 N6) (by omega) (hd1.mono fun a o e _ => ⟨(off5 _ e).1, N6.get (List.mem_cons_of_mem _ (List.mem_cons_of_mem _ (List.mem_cons_of_mem _ e)))⟩) hcl1 hdp1 rfl (by show callerA.depth + 1 + 3 * 3 + 10 < recursionLimit; omega) (by show callerA.units + _ + 10 * 3 + 60 < cLine; omega) fun r d h' tk at2 a1 a2 a3 a4 a5 a6 a7 a8 a9 => hQ' _ _ _ _ a6 a7 ⟨d, a1, a2, a3, a4, a5, a8, a9⟩) ?_
          rintro v2 h7 g7 tk7 tl7 t7 n7 p71 p72 at7 F7 N7 S7 sub7 off7 fr7 hb7 ⟨d2, hd2, hcl2, hct12, hdp2, hA2, lo7, hi7⟩
          replace hd2 : Mine.DocIn PySem.Challenge.rw_ez0233_01.row.prog w (fun a o => (a, o) ∈ tl7) v2 d2 := hd2.mono fun a o ⟨e1, e2⟩ _ => fr7 a o e1 e2
          have k57 : ∀ p ∈ tl5, p ∈ tl7 := fun p hp => (let z := off5 p hp; sub7 _ (List.mem_cons_of_mem _ (List.mem_cons_of_mem _ (List.mem_cons_of_mem _ hp))) z.1 z.2.1 z.2.2)
          replace hd1 : Mine.DocIn PySem.Challenge.rw_ez0233_01.row.prog w (fun a o => (a, o) ∈ tl7) v1 d1 := hd1.mono fun a o e _ => k57 _ e
          have hc7 := k57 _ hc5
          have hI7 := k57 _ hI5
          rw [hA1] at hA2
          clear F6 N6 S5 sub7 fr7 hc5 hI5 off5 k57 hb5
          ktr_unf
          rename Fr _ _ _ _ => F8
          rename News _ _ _ _ => N8
          refine Mine.lw_heap (R := fun hp hq r at2 => ∃ d, Mine.DocIn PySem.Challenge.rw_ez0233_01.row.prog w (fun a o => hp.get? a = none ∧ hq.get? a = some o) r d ∧ Mine.clean d ∧ Mine.cont d2 d = true ∧ Mine.dep d ≤ 3 ∧ Mine.isAtom d = Mine.isAtom d2 ∧ at7 ≤ at2 ∧ at2 ≤ at7 + Mine.lcost 3) F8 N8 S7 hb7 (fun Q' hQ' => Mine.less_spec 3 _ _ sa na nums at7 v2 d2 Q' _ (S7.wld B F8 N8) (S7.hB0 N8) (S7.at F8 N8) (by omega) (hd2.mono fun a o e _ => ⟨(off7 _ e).1, N8.get (List.mem_cons_of_mem _ (List.mem_cons_of_mem _ (List.mem_cons_of_mem _ e)))⟩) hcl2 hdp2 rfl (by show callerA.depth + 1 + 3 * 3 + 10 < recursionLimit; omega) (by show callerA.units + _ + 10 * 3 + 60 < cLine; omega) fun r d h' tk at2 a1 a2 a3 a4 a5 a6 a7 a8 a9 => hQ' _ _ _ _ a6 a7 ⟨d, a1, a2, a3, a4, a5, a8, a9⟩) ?_
          rintro v3 h9 g9 tk9 tl9 t9 n9 p91 p92 at9 F9 N9 S9 sub9 off9 fr9 hb9 ⟨d3, hd3, hcl3, hct23, hdp3, hA3, lo9, hi9⟩
          replace hd3 : Mine.DocIn PySem.Challenge.rw_ez0233_01.row.prog w (fun a o => (a, o) ∈ tl9) v3 d3 := hd3.mono fun a o ⟨e1, e2⟩ _ => fr9 a o e1 e2
          have k79 : ∀ p ∈ tl7, p ∈ tl9 := fun p hp => (let z := off7 p hp; sub9 _ (List.mem_cons_of_mem _ (List.mem_cons_of_mem _ (List.mem_cons_of_mem _ hp))) z.1 z.2.1 z.2.2)
          replace hd1 : Mine.DocIn PySem.Challenge.rw_ez0233_01.row.prog w (fun a o => (a, o) ∈ tl9) v1 d1 := hd1.mono fun a o e _ => k79 _ e
          replace hd2 : Mine.DocIn PySem.Challenge.rw_ez0233_01.row.prog w (fun a o => (a, o) ∈ tl9) v2 d2 := hd2.mono fun a o e _ => k79 _ e
          have hc9 := k79 _ hc7
          have hI9 := k79 _ hI7
          rw [hA2] at hA3
          clear F8 N8 S7 sub9 fr9 hc7 hI7 off7 k79 hb7
          ktr_unf
          rename Fr _ _ _ _ => FA
          rename News _ _ _ _ => NA
          have c11 : Mine.contTop d1 d1 = true := by rw [Mine.contTop_cont hA1]; exact Mine.cont_refl 3 d1 hdp1 hcl1
          have c12 : Mine.contTop d1 d2 = true := by rw [Mine.contTop_cont hA2]; exact hct12
          have c13 : Mine.contTop d1 d3 = true := by rw [Mine.contTop_cont hA3]; exact Mine.cont_trans 3 d3 hdp3 d1 d2 hct12 hct23
          have c23 : Mine.contTop d2 d3 = true := by rw [Mine.contTop_cont hA3]; exact hct23
          have c22 : Mine.contTop d2 d2 = true := by rw [Mine.contTop_cont hA2]; exact Mine.cont_refl 3 d2 hdp2 hcl2
          refine Mine.comp_calls (P := fun _ y => y = .bool true) rfl (by rfl) (by decide) (by rfl) (by decide) (by rfl) ?_
          ktr_unf
          rename_i lS hS FB NB ltS
          refine ⟨lS, #[v1, v2, v3], rfl, ⟨_, NB.get List.mem_cons_self, rfl, _, rfl⟩, by show 3 ≤ 100; decide, Nat.ne_of_gt ltS.2.1, Nat.ne_of_gt ltS.2.2.1, S9.tab1 fun p hp => NB p (List.mem_cons_of_mem _ hp), S9.tab2 fun p hp => NB p (List.mem_cons_of_mem _ hp), ?step, ?fin⟩
          case step =>
            intro i2 v C m₂ s₂ E' hv K hC hns hm
            obtain ⟨tlC, tC, nC, pC1, pC2, FC, NC, SC, subC, offC, frC⟩ := K.post FB NB (S9.sub fun p hp => List.mem_cons_of_mem _ hp)
            obtain ⟨oC2, eC, hNC⟩ := LCg.ns_obj hns
            have hmC := frC C oC2 (Heap.get?_none_of_le hC) eC
            have k9C : ∀ p ∈ tl9, p ∈ tlC := fun p hp => (let z := off9 p hp; subC _ (List.mem_cons_of_mem _ (List.mem_cons_of_mem _ (List.mem_cons_of_mem _ (List.mem_cons_of_mem _ hp)))) z.1 z.2.1 z.2.2)
            have hcC := k9C _ hc9
            obtain ⟨dv, hdv, hct, hdpv⟩ : ∃ dv, Mine.DocIn PySem.Challenge.rw_ez0233_01.row.prog w (fun a o => (a, o) ∈ tl9) v dv ∧ Mine.contTop d1 dv = true ∧ Mine.dep dv ≤ 3 := by
              match i2, hv with
              | 0, hv => cases hv; exact ⟨d1, hd1, c11, hdp1⟩
              | 1, hv => cases hv; exact ⟨d2, hd2, c12, hdp2⟩
              | 2, hv => cases hv; exact ⟨d3, hd3, c13, hdp3⟩
            clear FB NB
            ktr_unf
            refine Mine.top_spec (SC.wld B FC NC) (hd1.mono fun a o e _ => NC.get (List.mem_cons_of_mem _ (List.mem_cons_of_mem _ (List.mem_cons_of_mem _ (k9C _ e))))) (hdv.mono fun a o e _ => NC.get (List.mem_cons_of_mem _ (List.mem_cons_of_mem _ (List.mem_cons_of_mem _ (k9C _ e))))) rfl (by show callerA.depth + 1 + 6 * Mine.dep dv + 20 < recursionLimit; omega) (by show callerA.units + _ + 60 * Mine.dep dv + 120 < cLine; omega) fun s' g' W' => ?_
            exact ⟨by rw [hct], ⟨fun b o h1 h2 e => g'.heap b o (by simp [Mine.T2, h1, h2]) e, W'.t1, W'.t2, g'.bare, g'.drawn, g'.os⟩⟩
          case fin =>
            intro D ys nD s₂ K hD eD hlen hP
            obtain ⟨tlD, tD, nD2, pD1, pD2, FD, ND, SD, subD, offD, frD⟩ := K.post FB NB (S9.sub fun p hp => List.mem_cons_of_mem _ hp)
            have hmD := frD D _ (Heap.get?_none_of_le hD) eD
            have kD : ∀ p ∈ tl9, p ∈ tlD := fun p hp => (let z := off9 p hp; subD _ (List.mem_cons_of_mem _ (List.mem_cons_of_mem _ (List.mem_cons_of_mem _ (List.mem_cons_of_mem _ hp)))) z.1 z.2.1 z.2.2)
            obtain ⟨hE, gE, dE, tkE, osE⟩ := s₂
            have hdr := K.drawn
            have hos := K.os
            have hbE := K.bare hb9
            dsimp only at hdr hos hbE FD ND
            subst hdr hos
            obtain rfl : ys = [.bool true, .bool true, .bool true] := by
              match ys, hlen with
              | [a, b, c], _ => rw [hP 0 a rfl, hP 1 b rfl, hP 2 c rfl]
            have hcD := kD _ hc9
            have hID := kD _ hI9
            replace hd1 : Mine.DocIn PySem.Challenge.rw_ez0233_01.row.prog w (fun a o => (a, o) ∈ tlD) v1 d1 := hd1.mono fun a o e _ => kD _ e
            replace hd2 : Mine.DocIn PySem.Challenge.rw_ez0233_01.row.prog w (fun a o => (a, o) ∈ tlD) v2 d2 := hd2.mono fun a o e _ => kD _ e
            replace hd3 : Mine.DocIn PySem.Challenge.rw_ez0233_01.row.prog w (fun a o => (a, o) ∈ tlD) v3 d3 := hd3.mono fun a o e _ => kD _ e
            clear FB NB K subD frD eD hlen hP kD hc9 hI9 off9 hb9 S9
            ktr_unf
            rename Fr _ _ _ _ => FE
            rename News _ _ _ _ => NE
            refine Mine.ne_trues (vs := [.bool true, .bool true, .bool true]) (Mine.lobj_list (NE.get (List.mem_cons_of_mem _ (List.mem_cons_of_mem _ (List.mem_cons_of_mem _ (List.mem_cons_of_mem _ hmD)))))) ⟨_, NE.get List.mem_cons_self, rfl, _, rfl⟩ (by show callerA.units + _ < cLine; omega) ?_
            ktr_unf
            rename Fr _ _ _ _ => FF
            rename News _ _ _ _ => NF
            have kG0 := fun p (hp : p ∈ tlD) => (let z := offD p hp; z)
            refine Mine.lw_cont B FF NF (SD.sub fun p hp => List.mem_cons_of_mem _ hp) hbE (hd2.mono fun a o e _ => List.mem_cons_of_mem _ (List.mem_cons_of_mem _ (List.mem_cons_of_mem _ (List.mem_cons_of_mem _ e)))) (hd3.mono fun a o e _ => List.mem_cons_of_mem _ (List.mem_cons_of_mem _ (List.mem_cons_of_mem _ (List.mem_cons_of_mem _ e)))) rfl (by show callerA.depth + 1 + 6 * Mine.dep d3 + 20 < recursionLimit; omega) (by show callerA.units + _ + 60 * Mine.dep d3 + 120 < cLine; omega) fun hG gG tkG tlG tG nG pG1 pG2 FG NG SG subG offG hbG => ?_
            have kG : ∀ p ∈ tlD, p ∈ tlG := fun p hp => (let z := offD p hp; subG _ (List.mem_cons_of_mem _ (List.mem_cons_of_mem _ (List.mem_cons_of_mem _ (List.mem_cons_of_mem _ hp)))) z.1 z.2.1 z.2.2)
            have hcG := kG _ hcD
            have hIG := kG _ hID
            replace hd1 : Mine.DocIn PySem.Challenge.rw_ez0233_01.row.prog w (fun a o => (a, o) ∈ tlG) v1 d1 := hd1.mono fun a o e _ => kG _ e
            replace hd2 : Mine.DocIn PySem.Challenge.rw_ez0233_01.row.prog w (fun a o => (a, o) ∈ tlG) v2 d2 := hd2.mono fun a o e _ => kG _ e
            clear FF NF SD subG kG kG0 hcD hID hd3 hmD offD hbE
            rw [c23]
            ktr_unf
            rename Fr _ _ _ _ => FH
            rename News _ _ _ _ => NH
            refine Mine.lw_cont B FH NH SG hbG (hd2.mono fun a o e _ => List.mem_cons_of_mem _ (List.mem_cons_of_mem _ (List.mem_cons_of_mem _ e))) (hd2.mono fun a o e _ => List.mem_cons_of_mem _ (List.mem_cons_of_mem _ (List.mem_cons_of_mem _ e))) rfl (by show callerA.depth + 1 + 6 * Mine.dep d2 + 20 < recursionLimit; omega) (by show callerA.units + _ + 60 * Mine.dep d2 + 120 < cLine; omega) fun hJ gJ tkJ tlJ tJ nJ pJ1 pJ2 FJ NJ SJ subJ offJ hbJ => ?_
            have kJ : ∀ p ∈ tlG, p ∈ tlJ := fun p hp => (let z := offG p hp; subJ _ (List.mem_cons_of_mem _ (List.mem_cons_of_mem _ (List.mem_cons_of_mem _ hp))) z.1 z.2.1 z.2.2)
            have hcJ := kJ _ hcG
            have hIJ := kJ _ hIG
            replace hd1 : Mine.DocIn PySem.Challenge.rw_ez0233_01.row.prog w (fun a o => (a, o) ∈ tlJ) v1 d1 := hd1.mono fun a o e _ => kJ _ e
            replace hd2 : Mine.DocIn PySem.Challenge.rw_ez0233_01.row.prog w (fun a o => (a, o) ∈ tlJ) v2 d2 := hd2.mono fun a o e _ => kJ _ e
            clear FH NH SG subJ kJ hcG hIG offG hbG
            rw [c22]
            ktr_unf
            walk1
            ktr_unf
            rename_i _ oP loP hdP _ _ ltP lT _ ltT lF hF FK NK ltF
            have hdP2 : Mine.dobj PySem.Challenge.rw_ez0233_01.row.prog w oP [(Str.ofString "p", .int 7 _)] := (let ⟨es, ep, r1, r2, r3, r4, r5⟩ := hdP; ⟨r1, es, ep, r2, r3, r4, r5⟩)
            refine Mine.lw_heap (R := fun _ _ r at2 => ∃ k t, r = .int k t ∧ 0 ≤ k ∧ k < 5 ∧ at2 = at9 + 1) FK NK (SJ.sub fun p hp => List.mem_cons_of_mem _ (List.mem_cons_of_mem _ (List.mem_cons_of_mem _ hp))) hbJ (fun Q' hQ' => Mine.next_spec (SJ.wld B FK fun p hp => NK p (List.mem_cons_of_mem _ (List.mem_cons_of_mem _ (List.mem_cons_of_mem _ hp)))) (SJ.hB0 fun p hp => NK p (List.mem_cons_of_mem _ (List.mem_cons_of_mem _ (List.mem_cons_of_mem _ hp)))) (SJ.at FK fun p hp => NK p (List.mem_cons_of_mem _ (List.mem_cons_of_mem _ (List.mem_cons_of_mem _ hp)))) (by decide) (by decide) rfl (by show callerA.depth + 1 + 2 < recursionLimit; omega) fun k t h' tk a1 a2 a3 a4 => hQ' _ _ _ _ a3 (a4 (by omega)) ⟨k, t, rfl, a1, a2, rfl⟩) ?_
            rintro r hM gM tkM tlM tM nM pM1 pM2 atM FM NM SM subM offM frM hbM ⟨kM, tkx, rfl, x0, x1, rfl⟩
            have hPM := subM _ (List.mem_cons_of_mem _ (List.mem_cons_of_mem _ List.mem_cons_self)) (Nat.ne_of_gt ltP.1) (Nat.ne_of_gt ltP.2.1) (Nat.ne_of_gt ltP.2.2.1)
            have hTM := subM _ (List.mem_cons_of_mem _ List.mem_cons_self) (Nat.ne_of_gt ltT.2.1) (Nat.ne_of_gt ltT.2.2.1) (Nat.ne_of_gt ltT.2.2.2.1)
            have hFM := subM _ List.mem_cons_self (Nat.ne_of_gt ltF.2.2.1) (Nat.ne_of_gt ltF.2.2.2.1) (Nat.ne_of_gt ltF.2.2.2.2.1)
            have kM2 : ∀ p ∈ tlJ, p ∈ tlM := fun p hp => (let z := offJ p hp; subM _ (List.mem_cons_of_mem _ (List.mem_cons_of_mem _ (List.mem_cons_of_mem _ (List.mem_cons_of_mem _ (List.mem_cons_of_mem _ (List.mem_cons_of_mem _ hp)))))) z.1 z.2.1 z.2.2)
            have hcM := kM2 _ hcJ
            have hIM := kM2 _ hIJ
            replace hd1 : Mine.DocIn PySem.Challenge.rw_ez0233_01.row.prog w (fun a o => (a, o) ∈ tlM) v1 d1 := hd1.mono fun a o e _ => kM2 _ e
            replace hd2 : Mine.DocIn PySem.Challenge.rw_ez0233_01.row.prog w (fun a o => (a, o) ∈ tlM) v2 d2 := hd2.mono fun a o e _ => kM2 _ e
            clear FK NK SJ subM frM kM2 hcJ hIJ offJ hbJ
            ktr_unf
            rename Fr _ _ _ _ => FN
            rename News _ _ _ _ => NN
            obtain ⟨jM, rfl⟩ : ∃ j : Nat, kM = (j : Int) := ⟨kM.toNat, by omega⟩
            have NT : News g L _ tlM := fun p hp => NN p (List.mem_cons_of_mem _ (List.mem_cons_of_mem _ (List.mem_cons_of_mem _ hp)))
            have hfs := Mine.foreign_docs (t1 := tkJ) (t2 := tkJ + 1) NT hPM loP hdP2 hTM
            clear NT
            obtain ⟨f, hf⟩ : ∃ f, Mine.foreigns[jM]? = some f := ⟨_, List.getElem?_eq_getElem (by show jM < 5; omega)⟩
            have hff := List.mem_of_getElem? hf
            obtain ⟨fv, hfv, hfd⟩ := hfs.at hf
            refine Mine.item_doc (k := (jM : Int)) ⟨_, NN.get (List.mem_cons_of_mem _ (List.mem_cons_of_mem _ (List.mem_cons_of_mem _ hFM))), rfl, _, rfl⟩ (by omega) (by omega) (by simpa using hfv) ?_ (by with_unfolding_all rfl)
            ktr_unf
            rename Fr _ _ _ _ => FO
            rename News _ _ _ _ => NO
            refine Mine.lw_heap (R := fun hp hq r at2 => ∃ d, Mine.DocIn PySem.Challenge.rw_ez0233_01.row.prog w (fun a o => (a, o) ∈ tlM ∨ (hp.get? a = none ∧ hq.get? a = some o)) r d ∧ Mine.bad d ∧ Mine.dep d ≤ 4 ∧ Mine.isAtom d = false ∧ at2 ≤ at9 + 1 + 6) FO NO SM hbM (fun Q' hQ' => Mine.with_spec 3 _ _ sa na nums (at9 + 1) v2 fv d2 f (fun a o => (a, o) ∈ tlM) Q' _ (SM.wld B FO NO) (SM.hB0 NO) (SM.at FO NO) (by omega) (fun a o e => ⟨(offM _ e).1, NO.get (List.mem_cons_of_mem _ (List.mem_cons_of_mem _ (List.mem_cons_of_mem _ e)))⟩) hd2 hcl2 hdp2 hfd hff rfl (by show callerA.depth + 1 + 3 * 3 + 10 < recursionLimit; omega) (by show callerA.units + _ + 10 * 3 + 60 < cLine; omega) fun r d h' tk at2 a1 a2 a3 a4 a5 a6 a7 a8 => hQ' _ _ _ _ a5 a6 ⟨d, a1, a2, a3, a4 hA2, by omega⟩) ?_
            rintro vw hP gP tkP tlP tP nP pP1 pP2 atP FP NP SP subP offP frP hbP ⟨dw, hdw, hbad, hdpw, hAw, hiP⟩
            have kP : ∀ p ∈ tlM, p ∈ tlP := fun p hp => (let z := offM p hp; subP _ (List.mem_cons_of_mem _ (List.mem_cons_of_mem _ (List.mem_cons_of_mem _ hp))) z.1 z.2.1 z.2.2)
            have hcP := kP _ hcM
            have hIP := kP _ hIM
            replace hd1 : Mine.DocIn PySem.Challenge.rw_ez0233_01.row.prog w (fun a o => (a, o) ∈ tlP) v1 d1 := hd1.mono fun a o e _ => kP _ e
            replace hd2 : Mine.DocIn PySem.Challenge.rw_ez0233_01.row.prog w (fun a o => (a, o) ∈ tlP) v2 d2 := hd2.mono fun a o e _ => kP _ e
            replace hdw : Mine.DocIn PySem.Challenge.rw_ez0233_01.row.prog w (fun a o => (a, o) ∈ tlP) vw dw := hdw.mono fun a o e _ => e.elim (fun e => kP _ e) fun ⟨e1, e2⟩ => frP a o e1 e2
            clear FO NO SM subP frP kP hcM hIM offM hbM hPM hTM hFM hfs hfd
            ktr_unf
            rename Fr _ _ _ _ => FR
            rename News _ _ _ _ => NR
            refine Mine.lw_cont B FR NR SP hbP (hd1.mono fun a o e _ => List.mem_cons_of_mem _ (List.mem_cons_of_mem _ (List.mem_cons_of_mem _ e))) (hdw.mono fun a o e _ => List.mem_cons_of_mem _ (List.mem_cons_of_mem _ (List.mem_cons_of_mem _ e))) rfl (by show callerA.depth + 1 + 6 * Mine.dep dw + 20 < recursionLimit; omega) (by show callerA.units + _ + 60 * Mine.dep dw + 120 < cLine; omega) fun hT gT tkT tlT tT nT pT1 pT2 FT NT ST subT offT hbT => ?_
            have kT : ∀ p ∈ tlP, p ∈ tlT := fun p hp => (let z := offP p hp; subT _ (List.mem_cons_of_mem _ (List.mem_cons_of_mem _ (List.mem_cons_of_mem _ hp))) z.1 z.2.1 z.2.2)
            have hcT := kT _ hcP
            have hIT := kT _ hIP
            replace hd1 : Mine.DocIn PySem.Challenge.rw_ez0233_01.row.prog w (fun a o => (a, o) ∈ tlT) v1 d1 := hd1.mono fun a o e _ => kT _ e
            replace hd2 : Mine.DocIn PySem.Challenge.rw_ez0233_01.row.prog w (fun a o => (a, o) ∈ tlT) v2 d2 := hd2.mono fun a o e _ => kT _ e
            rw [show Mine.contTop d1 dw = false by rw [Mine.contTop_cont hAw]; exact hbad d1 hcl1]
            clear FR NR SP subT kT hcP hIP offP hbP hdw
            ktr_unf
            cases d1 with
            | atom x => cases hA1
            | list ds =>
              cases id hd1 with
              | @list a1 nl vsl _ hP1 hvl =>
              refine wpAny_For ?_
              ktr_unf
              rename Fr _ _ _ _ => F20
              rename News _ _ _ _ => N20
              refine wpAny_pyIter_list (Mine.lobj_list (N20.get (List.mem_cons_of_mem _ (List.mem_cons_of_mem _ (List.mem_cons_of_mem _ hP1))))) ?_
              rename Heap => h20
              dsimp only

              obtain ⟨tl21, t21, n21, q1, q2, F21, N21, S21, sub21, off21, hJ21⟩ := Mine.lw_push (o := { cls := .type "list_iterator", data := .fields #[.ref a1, .int 0 0] }) F20 N20 ST (Heap.get?_push_size _ rfl)
              have k21 : ∀ p ∈ tlT, p ∈ tl21 := fun p hp => (let z := offT p hp; sub21 _ (List.mem_cons_of_mem _ (List.mem_cons_of_mem _ (List.mem_cons_of_mem _ hp))) z.1 z.2.1 z.2.2)
              have hJa : a1 ≠ h20.objs.size := Nat.ne_of_lt (Heap.lt_size (N20.get (List.mem_cons_of_mem _ (List.mem_cons_of_mem _ (List.mem_cons_of_mem _ hP1)))))
              clear F20 N20
              generalize h20.objs.size = J at *
              refine Mine.forM F21 (fun m0 => Mine.WInv2 PySem.Challenge.rw_ez0233_01.row.prog w g L sa na nums s₁.drawn s₁.os atP (.ref a1) (.list ds) v2 d2 [(L + 1, oE), (I, { cls := .type "range_iterator", data := .fields #[rawInt (0 + ((i + 1 : Nat) : Int) * 1), rawInt (((2 : Nat) : Int) - ((i + 1 : Nat) : Int)), rawInt 1] }), (a1, Mine.lobj vsl nl)] J (fun i o => o.cls = .type "list_iterator" ∧ o.data = .fields #[.ref a1, .int i 0]) vsl.length m0) ?turn2 (vsl.length + 1) ?init2
              case init2 =>
                exact ⟨_, 0, _, _, Nat.zero_le _, rfl, ⟨rfl, rfl⟩, _, gT, _, tl21, t21, n21, q1, q2, rfl, Mine.fr_mapI F21 (fun y _ _ => rfl), N21, S21, off21, (fun p hp => by
                  simp only [List.mem_cons, List.not_mem_nil, or_false] at hp
                  rcases hp with rfl | rfl | rfl | rfl
                  · exact hJ21
                  · exact k21 _ hcT
                  · exact k21 _ hIT
                  · exact k21 _ hP1), hbT, hd1.mono fun a o e _ => k21 _ e, hd2.mono fun a o e _ => k21 _ e⟩
              case turn2 =>
                clear F21 N21 S21 sub21 off21 hJ21 k21 ST offT hbT hd1 hd2 hcT hIT hP1
                rintro j2 s' ⟨oJ, i2, T5', T6', hi2, rfl, hit2, M⟩
                unfold Mine.mapI at M
                obtain ⟨h22, g22, tk22, tl22, t22, n22, r1, r2, rfl, F22, N22, S22, off22, hk22, hb22, e22, f22⟩ := id M
                have hJ22 := N22.get (List.mem_cons_of_mem _ (List.mem_cons_of_mem _ (List.mem_cons_of_mem _ (hk22 _ List.mem_cons_self))))
                have hkeep : ∀ p ∈ ([(L + 1, oE), (I, { cls := .type "range_iterator", data := .fields #[rawInt (0 + ((i + 1 : Nat) : Int) * 1), rawInt (((2 : Nat) : Int) - ((i + 1 : Nat) : Int)), rawInt 1] }), (a1, Mine.lobj vsl nl)] : List (Addr × Obj)), p.2.cls ≠ oJ.cls ∨ ∃ v, p.2.data = .cell v := fun p hp => by
                  simp only [List.mem_cons, List.not_mem_nil, or_false] at hp
                  rcases hp with rfl | rfl | rfl
                  · exact .inr ⟨_, hcd5⟩
                  · exact .inl (by rw [hit2.1]; exact fun q => absurd (Value.type.inj q) (by decide))
                  · exact .inl (by rw [hit2.1]; exact fun q => absurd (Value.type.inj q) (by decide))
                by_cases hlt2 : i2 < vsl.length
                · refine (Walks.list (prog := PySem.Challenge.rw_ez0233_01.row.prog) (w := w) rfl J a1 hJa vsl.toArray).item i2 _ _ _ (by simpa using hlt2) ⟨⟨oJ, hJ22, hit2.1, hit2.2⟩, Mine.lobj_list (N22.get (List.mem_cons_of_mem _ (List.mem_cons_of_mem _ (List.mem_cons_of_mem _ (hk22 _ (List.mem_cons_of_mem _ (List.mem_cons_of_mem _ (List.mem_cons_of_mem _ List.mem_cons_self))))))))⟩ fun v h₁ tk₁ hPv hst₁ hk₁ => ?_
                  obtain ⟨oJ1, hJ1, hJc, hJd⟩ := id hst₁.1
                  have M1 := (Mine.Mid2.step (T := "list_iterator") (tk' := tk₁) M hit2.1 ⟨by decide, by decide⟩ hit2.2 hkeep (fun b o hb e => hk₁ b o (by simpa using hb) e)).1 oJ1 hJ1
                  obtain ⟨h23, g23, tk23, tl23, t23, n23, r1, r2, hs, F23, N23, S23, off23, hk23, hb23, e23, f23⟩ := M1
                  cases hs
                  clear M F22 N22 S22 e22 f22 off22 hk22 hst₁ hk₁ hJ22 hJ1
                  have hPv : vsl[i2]? = some v := by simpa using hPv
                  obtain ⟨pd, hpd0⟩ : ∃ pd, ds[i2]? = some pd := ⟨_, List.getElem?_eq_getElem (by rw [← hvl.length]; exact hlt2)⟩
                  have hpm := List.mem_of_getElem? hpd0
                  have hpd : Mine.DocIn PySem.Challenge.rw_ez0233_01.row.prog w (fun a o => (a, o) ∈ tl23) v pd := by
                    cases id e23 with
                    | @list _ n' vs' _ hP' hv' =>
                      have q1 := N23.get (List.mem_cons_of_mem _ (List.mem_cons_of_mem _ (List.mem_cons_of_mem _ hP')))
                      rw [N23.get (List.mem_cons_of_mem _ (List.mem_cons_of_mem _ (List.mem_cons_of_mem _ (hk23 (a1, Mine.lobj vsl nl) (List.mem_cons_of_mem _ (List.mem_cons_of_mem _ (List.mem_cons_of_mem _ List.mem_cons_self)))))))] at q1
                      have q2 := Mine.lobj_uniq (Option.some.inj q1)
                      subst q2
                      exact hv'.get hPv hpd0
                  have hc23 := hk23 (L + 1, oE) (List.mem_cons_of_mem _ List.mem_cons_self)
                  dsimp only
                  ktr_unf
                  rename Fr _ _ _ _ => F24
                  rename News _ _ _ _ => N24
                  refine Mine.isi_list e23 (fun a o e => N24.get (List.mem_cons_of_mem _ (List.mem_cons_of_mem _ (List.mem_cons_of_mem _ e)))) (X'.keeps F24.keep) fun tk => ?_
                  rw [show Mine.isList (.list ds) = true from rfl]
                  ktr_unf

                  rename Fr _ _ _ _ => F25
                  rename News _ _ _ _ => N25
                  refine Mine.mid_step F25 (Mine.Mid2 PySem.Challenge.rw_ez0233_01.row.prog w g L sa na nums s₁.drawn s₁.os atP (.ref a1) (.list ds) v2 d2 ((J, oJ1) :: [(L + 1, oE), (I, { cls := .type "range_iterator", data := .fields #[rawInt (0 + ((i + 1 : Nat) : Int) * 1), rawInt (((2 : Nat) : Int) - ((i + 1 : Nat) : Int)), rawInt 1] }), (a1, Mine.lobj vsl nl)])) ?main2 ?cont2
                  case main2 =>
                    walk1
                    ktr_unf
                    rename Fr _ _ _ _ => F26
                    rename News _ _ _ _ => N26
                    refine Mine.isi_doc hpd (fun a o e => N26.get (List.mem_cons_of_mem _ (List.mem_cons_of_mem _ (List.mem_cons_of_mem _ (List.mem_cons_of_mem _ e))))) (X'.keeps F26.keep) (N26.get List.mem_cons_self) fun tk => ?_
                    cases hAp : Mine.isAtom pd
                    · simp only [Bool.not_false]
                      ktr_unf
                      exact ⟨_, _, _, tl23, t23, n23, r1, r2, rfl, F26, fun p hp => N26 p (List.mem_cons_of_mem _ hp), S23, off23, hk23, hb23, e23, f23⟩
                    · obtain ⟨x, rfl⟩ : ∃ x, pd = .atom x := by cases pd with | atom x => exact ⟨x, rfl⟩ | list _ => cases hAp | dict _ => cases hAp
                      simp only [Bool.not_true]
                      ktr_unf
                      rename Fr _ _ _ _ => F27
                      rename News _ _ _ _ => N27
                      have hdx : Mine.dep (.atom x) = 0 := rfl
                      refine Mine.lw_cont B F27 N27 (S23.sub fun p hp => (List.mem_cons_of_mem _ hp)) hb23 (e23.mono fun a o e _ => (List.mem_cons_of_mem _ (List.mem_cons_of_mem _ (List.mem_cons_of_mem _ (List.mem_cons_of_mem _ e))))) (hpd.mono fun a o e _ => (List.mem_cons_of_mem _ (List.mem_cons_of_mem _ (List.mem_cons_of_mem _ (List.mem_cons_of_mem _ e))))) rfl (by show callerA.depth + 1 + 6 * Mine.dep (.atom x) + 20 < recursionLimit; omega) (by show callerA.units + _ + 60 * Mine.dep (.atom x) + 120 < cLine; omega) fun h31 g31 tk31 tl31 t31 n31 pa31 pb31 F31 N31 S31 sub31 off31 hb31 => ?_

                      have k31 : ∀ p ∈ tl23, p ∈ tl31 := fun p hp => (let z := off23 p hp; sub31 _ (List.mem_cons_of_mem _ (List.mem_cons_of_mem _ (List.mem_cons_of_mem _ (List.mem_cons_of_mem _ hp)))) z.1 z.2.1 z.2.2)
                      have hc31 := k31 _ hc23
                      have e31 := e23.mono fun a o e _ => k31 _ e
                      have f31 := f23.mono fun a o e _ => k31 _ e
                      have d31 := hpd.mono fun a o e _ => k31 _ e
                      rw [Mine.top_list hpm]
                      clear F27 N27 sub31
                      ktr_unf
                      rename Fr _ _ _ _ => F32
                      rename News _ _ _ _ => N32
                      refine Mine.isi_list e31 (fun a o e => N32.get (List.mem_cons_of_mem _ (List.mem_cons_of_mem _ (List.mem_cons_of_mem _ e)))) (X'.keeps F32.keep) fun tk => ?_
                      rw [show Mine.isList (.list ds) = true from rfl]
                      ktr_unf
                      rename Fr _ _ _ _ => F33
                      rename News _ _ _ _ => N33
                      refine Mine.lw_cont B F33 N33 S31 hb31 (d31.mono fun a o e _ => (List.mem_cons_of_mem _ (List.mem_cons_of_mem _ (List.mem_cons_of_mem _ e)))) (f31.mono fun a o e _ => (List.mem_cons_of_mem _ (List.mem_cons_of_mem _ (List.mem_cons_of_mem _ e)))) rfl (by show callerA.depth + 1 + 6 * Mine.dep d2 + 20 < recursionLimit; omega) (by show callerA.units + _ + 60 * Mine.dep d2 + 120 < cLine; omega) fun h34 g34 tk34 tl34 t34 n34 pa34 pb34 F34 N34 S34 sub34 off34 hb34 => ?_

                      have k34 : ∀ p ∈ tl31, p ∈ tl34 := fun p hp => (let z := off31 p hp; sub34 _ (List.mem_cons_of_mem _ (List.mem_cons_of_mem _ (List.mem_cons_of_mem _ hp))) z.1 z.2.1 z.2.2)
                      have e34 := e31.mono fun a o e _ => k34 _ e
                      have f34 := f31.mono fun a o e _ => k34 _ e
                      have d34 := d31.mono fun a o e _ => k34 _ e
                      rw [Mine.top_atom hA2]
                      clear F33 N33 sub34
                      ktr_unf
                      rename Fr _ _ _ _ => F35
                      rename News _ _ _ _ => N35
                      refine Mine.lw_cont B F35 N35 S34 hb34 (d34.mono fun a o e _ => (List.mem_cons_of_mem _ (List.mem_cons_of_mem _ (List.mem_cons_of_mem _ e)))) (d34.mono fun a o e _ => (List.mem_cons_of_mem _ (List.mem_cons_of_mem _ (List.mem_cons_of_mem _ e)))) rfl (by show callerA.depth + 1 + 6 * Mine.dep (.atom x) + 20 < recursionLimit; omega) (by show callerA.units + _ + 60 * Mine.dep (.atom x) + 120 < cLine; omega) fun h36 g36 tk36 tl36 t36 n36 pa36 pb36 F36 N36 S36 sub36 off36 hb36 => ?_

                      have k36 : ∀ p ∈ tl34, p ∈ tl36 := fun p hp => (let z := off34 p hp; sub36 _ (List.mem_cons_of_mem _ (List.mem_cons_of_mem _ (List.mem_cons_of_mem _ hp))) z.1 z.2.1 z.2.2)
                      rw [Mine.top_self]
                      clear F35 N35 sub36
                      ktr_unf
                      rename Fr _ _ _ _ => F37
                      rename News _ _ _ _ => N37
                      exact ⟨_, g36, _, tl36, t36, n36, pa36, pb36, rfl, F37, N37, S36, off36, fun p hp => k36 _ (k34 _ (k31 _ (hk23 p hp))), hb36, e34.mono fun a o e _ => k36 _ e, f34.mono fun a o e _ => k36 _ e⟩
                  case cont2 =>
                    clear F25 N25 S23 off23 hk23 hb23 e23 f23 hpd hc23
                    rintro s' ⟨h40, g40, tk40, tl40, t40, n40, ra, rb, rfl, F40, N40, S40, off40, hk40, hb40, e40, f40⟩
                    dsimp only
                    ktr_unf
                    rotate_left 2
                    exact (vsl.length + 1 - (i2 + 1))
                    · omega
                    · exact ⟨oJ1, i2 + 1, _, _, hlt2, rfl, ⟨hJc, hJd⟩, h40, g40, _, tl40, t40, n40, ra, rb, rfl, Mine.fr_mapI F40 (fun y h5 h6 => by simp only [h5, h6, if_false]), N40, S40, off40, hk40, hb40, e40, f40⟩

                · obtain rfl : i2 = vsl.length := by omega
                  refine (Walks.list (prog := PySem.Challenge.rw_ez0233_01.row.prog) (w := w) rfl J a1 hJa vsl.toArray).done _ _ _ (by simpa using (show _ ∧ _ from ⟨⟨oJ, hJ22, hit2.1, hit2.2⟩, Mine.lobj_list (N22.get (List.mem_cons_of_mem _ (List.mem_cons_of_mem _ (List.mem_cons_of_mem _ (hk22 _ (List.mem_cons_of_mem _ (List.mem_cons_of_mem _ (List.mem_cons_of_mem _ List.mem_cons_self))))))))⟩)) fun h9 tk9 k9 => ?_
                  have M1 := (Mine.Mid2.step (T := "list_iterator") (tk' := tk9) M hit2.1 ⟨by decide, by decide⟩ hit2.2 hkeep (fun b o hb e => k9 b o (by simpa using hb) e)).2
                  obtain ⟨h23, g23, tk23, tl23, t23, n23, r1, r2, hs, F23, N23, S23, off23, hk23, hb23, e23, f23⟩ := M1
                  cases hs
                  clear M F22 N22 S22 e22 f22 off22 hk22
                  dsimp only
                  ktr_unf
                  rotate_left 2
                  exact (3 - (i + 1))
                  · omega
                  · exact ⟨_, _, _, tl23, t23, n23, r1, r2, atP, i + 1, _, _, _, _, _, _, oE, _, rfl, by omega, rfl, Mine.fr_mapW F23 (fun y h1 h2 h3 h4 h5 h6 => by simp only [h1, h2, h3, h4, h5, h6, if_false]), N23, S23, off23, hk23 _ List.mem_cons_self, hcd5, hk23 _ (List.mem_cons_of_mem _ List.mem_cons_self), hb23, by omega⟩
            | dict es =>
              cases id hd1 with
              | @dict a1 o1 kvl _ hP1 hls hod hvl =>
              refine wpAny_For ?_
              ktr_unf
              rename Fr _ _ _ _ => F20
              rename News _ _ _ _ => N20
              obtain ⟨ep, hDA⟩ := Mine.dobj_at (N20.get (List.mem_cons_of_mem _ (List.mem_cons_of_mem _ (List.mem_cons_of_mem _ hP1)))) hod
              refine wpAny_pyIter_dict hls hDA ?_
              rename Heap => h20
              dsimp only
              have ho20 := N20.get (List.mem_cons_of_mem _ (List.mem_cons_of_mem _ (List.mem_cons_of_mem _ hP1)))

              obtain ⟨tl21, t21, n21, q1, q2, F21, N21, S21, sub21, off21, hJ21⟩ := Mine.lw_push (o := { cls := .type "dict_keyiterator", data := .fields #[.ref a1, .int 0 0, .int kvl.length 0, .int ep 0] }) F20 N20 ST (Heap.get?_push_size _ rfl)
              have k21 : ∀ p ∈ tlT, p ∈ tl21 := fun p hp => (let z := offT p hp; sub21 _ (List.mem_cons_of_mem _ (List.mem_cons_of_mem _ (List.mem_cons_of_mem _ hp))) z.1 z.2.1 z.2.2)
              have hJa : a1 ≠ h20.objs.size := Nat.ne_of_lt (Heap.lt_size (N20.get (List.mem_cons_of_mem _ (List.mem_cons_of_mem _ (List.mem_cons_of_mem _ hP1)))))
              clear F20 N20
              generalize h20.objs.size = J at *
              refine Mine.forM F21 (fun m0 => Mine.WInv2 PySem.Challenge.rw_ez0233_01.row.prog w g L sa na nums s₁.drawn s₁.os atP (.ref a1) (.dict es) v2 d2 [(L + 1, oE), (I, { cls := .type "range_iterator", data := .fields #[rawInt (0 + ((i + 1 : Nat) : Int) * 1), rawInt (((2 : Nat) : Int) - ((i + 1 : Nat) : Int)), rawInt 1] }), (a1, o1)] J (fun i o => o.cls = .type "dict_keyiterator" ∧ o.data = .fields #[.ref a1, .int i 0, .int kvl.length 0, .int ep 0]) kvl.length m0) ?turn2 (kvl.length + 1) ?init2
              case init2 =>
                exact ⟨_, 0, _, _, Nat.zero_le _, rfl, ⟨rfl, rfl⟩, _, gT, _, tl21, t21, n21, q1, q2, rfl, Mine.fr_mapI F21 (fun y _ _ => rfl), N21, S21, off21, (fun p hp => by
                  simp only [List.mem_cons, List.not_mem_nil, or_false] at hp
                  rcases hp with rfl | rfl | rfl | rfl
                  · exact hJ21
                  · exact k21 _ hcT
                  · exact k21 _ hIT
                  · exact k21 _ hP1), hbT, hd1.mono fun a o e _ => k21 _ e, hd2.mono fun a o e _ => k21 _ e⟩
              case turn2 =>
                clear F21 N21 S21 sub21 off21 hJ21 k21 ST offT hbT hd1 hd2 hcT hIT hP1
                rintro j2 s' ⟨oJ, i2, T5', T6', hi2, rfl, hit2, M⟩
                unfold Mine.mapI at M
                obtain ⟨h22, g22, tk22, tl22, t22, n22, r1, r2, rfl, F22, N22, S22, off22, hk22, hb22, e22, f22⟩ := id M
                have hJ22 := N22.get (List.mem_cons_of_mem _ (List.mem_cons_of_mem _ (List.mem_cons_of_mem _ (hk22 _ List.mem_cons_self))))
                have hkeep : ∀ p ∈ ([(L + 1, oE), (I, { cls := .type "range_iterator", data := .fields #[rawInt (0 + ((i + 1 : Nat) : Int) * 1), rawInt (((2 : Nat) : Int) - ((i + 1 : Nat) : Int)), rawInt 1] }), (a1, o1)] : List (Addr × Obj)), p.2.cls ≠ oJ.cls ∨ ∃ v, p.2.data = .cell v := fun p hp => by
                  simp only [List.mem_cons, List.not_mem_nil, or_false] at hp
                  rcases hp with rfl | rfl | rfl
                  · exact .inr ⟨_, hcd5⟩
                  · exact .inl (by rw [hit2.1]; exact fun q => absurd (Value.type.inj q) (by decide))
                  · exact .inl (by rw [hit2.1]; exact fun q => by rw [hod.1.1] at q; exact absurd (Value.type.inj q) (by decide))
                by_cases hlt2 : i2 < kvl.length
                · refine (Walks.dictKeys (prog := PySem.Challenge.rw_ez0233_01.row.prog) (w := w) rfl J a1 hJa kvl ep).item i2 _ _ _ hlt2 ⟨⟨oJ, hJ22, hit2.1, hit2.2⟩, hDA.at' fun o e => by rw [ho20] at e; cases e; exact N22.get (List.mem_cons_of_mem _ (List.mem_cons_of_mem _ (List.mem_cons_of_mem _ (hk22 _ (List.mem_cons_of_mem _ (List.mem_cons_of_mem _ (List.mem_cons_of_mem _ List.mem_cons_self)))))))⟩ fun v h₁ tk₁ hPv hst₁ hk₁ => ?_
                  obtain ⟨oJ1, hJ1, hJc, hJd⟩ := id hst₁.1
                  have M1 := (Mine.Mid2.step (T := "dict_keyiterator") (tk' := tk₁) M hit2.1 ⟨by decide, by decide⟩ hit2.2 hkeep (fun b o hb e => hk₁ b o (by simpa using hb) e)).1 oJ1 hJ1
                  obtain ⟨h23, g23, tk23, tl23, t23, n23, r1, r2, hs, F23, N23, S23, off23, hk23, hb23, e23, f23⟩ := M1
                  cases hs
                  clear M F22 N22 S22 e22 f22 off22 hk22 hst₁ hk₁ hJ22 hJ1
                  obtain ⟨k, vx, hkx, hkv0⟩ := hPv
                  obtain ⟨tv2, rfl⟩ : ∃ t, v = .str k t := Value.isStrOf_shape hkv0
                  have hlk : Mine.look kvl k = some vx := Mine.look_of_mem (let ⟨_, _, _, _, _, _, z⟩ := hod; z) (List.mem_of_getElem? hkx)
                  obtain ⟨pd, hpd⟩ : ∃ pd, Mine.DocIn PySem.Challenge.rw_ez0233_01.row.prog w (fun a o => (a, o) ∈ tl23) vx pd := by
                    cases id e23 with
                    | @dict _ o' kvs' _ hP' _ hod' hv' =>
                      have q1 := N23.get (List.mem_cons_of_mem _ (List.mem_cons_of_mem _ (List.mem_cons_of_mem _ hP')))
                      rw [N23.get (List.mem_cons_of_mem _ (List.mem_cons_of_mem _ (List.mem_cons_of_mem _ (hk23 (a1, o1) (List.mem_cons_of_mem _ (List.mem_cons_of_mem _ (List.mem_cons_of_mem _ List.mem_cons_self)))))))] at q1
                      cases Option.some.inj q1
                      have q2 := Mine.dobj_uniq hod hod'
                      subst q2
                      obtain ⟨pd, _, h⟩ := hv'.get hkx
                      exact ⟨pd, h⟩
                  have hc23 := hk23 (L + 1, oE) (List.mem_cons_of_mem _ List.mem_cons_self)
                  dsimp only
                  ktr_unf
                  rename Fr _ _ _ _ => F24
                  rename News _ _ _ _ => N24
                  refine Mine.isi_list e23 (fun a o e => N24.get (List.mem_cons_of_mem _ (List.mem_cons_of_mem _ (List.mem_cons_of_mem _ e)))) (X'.keeps F24.keep) fun tk => ?_
                  rw [show Mine.isList (.dict es) = false from rfl]
                  ktr_unf

                  rename Fr _ _ _ _ => F24b
                  rename News _ _ _ _ => N24b
                  refine Mine.sub_doc2 (kvs := kvl) (Mine.dobj_of (N24b.get (List.mem_cons_of_mem _ (List.mem_cons_of_mem _ (List.mem_cons_of_mem _ (hk23 _ (List.mem_cons_of_mem _ (List.mem_cons_of_mem _ (List.mem_cons_of_mem _ List.mem_cons_self)))))))) hod) hlk ?_ (by with_unfolding_all rfl)
                  ktr_unf

                  rename Fr _ _ _ _ => F25
                  rename News _ _ _ _ => N25
                  refine Mine.mid_step F25 (Mine.Mid2 PySem.Challenge.rw_ez0233_01.row.prog w g L sa na nums s₁.drawn s₁.os atP (.ref a1) (.dict es) v2 d2 ((J, oJ1) :: [(L + 1, oE), (I, { cls := .type "range_iterator", data := .fields #[rawInt (0 + ((i + 1 : Nat) : Int) * 1), rawInt (((2 : Nat) : Int) - ((i + 1 : Nat) : Int)), rawInt 1] }), (a1, o1)])) ?main2 ?cont2
                  case main2 =>
                    walk1
                    ktr_unf
                    rename Fr _ _ _ _ => F26
                    rename News _ _ _ _ => N26
                    refine Mine.isi_doc hpd (fun a o e => N26.get (List.mem_cons_of_mem _ (List.mem_cons_of_mem _ (List.mem_cons_of_mem _ (List.mem_cons_of_mem _ e))))) (X'.keeps F26.keep) (N26.get List.mem_cons_self) fun tk => ?_
                    cases hAp : Mine.isAtom pd
                    · simp only [Bool.not_false]
                      ktr_unf
                      exact ⟨_, _, _, tl23, t23, n23, r1, r2, rfl, F26, fun p hp => N26 p (List.mem_cons_of_mem _ hp), S23, off23, hk23, hb23, e23, f23⟩
                    · obtain ⟨x, rfl⟩ : ∃ x, pd = .atom x := by cases pd with | atom x => exact ⟨x, rfl⟩ | list _ => cases hAp | dict _ => cases hAp
                      simp only [Bool.not_true]
                      ktr_unf
                      rename Fr _ _ _ _ => F27
                      rename News _ _ _ _ => N27
                      have hdx : Mine.dep (.atom x) = 0 := rfl
                      refine Mine.lw_cont B F27 N27 (S23.sub fun p hp => (List.mem_cons_of_mem _ hp)) hb23 (e23.mono fun a o e _ => (List.mem_cons_of_mem _ (List.mem_cons_of_mem _ (List.mem_cons_of_mem _ (List.mem_cons_of_mem _ e))))) (hpd.mono fun a o e _ => (List.mem_cons_of_mem _ (List.mem_cons_of_mem _ (List.mem_cons_of_mem _ (List.mem_cons_of_mem _ e))))) rfl (by show callerA.depth + 1 + 6 * Mine.dep (.atom x) + 20 < recursionLimit; omega) (by show callerA.units + _ + 60 * Mine.dep (.atom x) + 120 < cLine; omega) fun h31 g31 tk31 tl31 t31 n31 pa31 pb31 F31 N31 S31 sub31 off31 hb31 => ?_

                      have k31 : ∀ p ∈ tl23, p ∈ tl31 := fun p hp => (let z := off23 p hp; sub31 _ (List.mem_cons_of_mem _ (List.mem_cons_of_mem _ (List.mem_cons_of_mem _ (List.mem_cons_of_mem _ hp)))) z.1 z.2.1 z.2.2)
                      have hc31 := k31 _ hc23
                      have e31 := e23.mono fun a o e _ => k31 _ e
                      have f31 := f23.mono fun a o e _ => k31 _ e
                      have d31 := hpd.mono fun a o e _ => k31 _ e
                      rw [Mine.top_dict]
                      clear F27 N27 sub31
                      ktr_unf
                      rename Fr _ _ _ _ => F32
                      rename News _ _ _ _ => N32
                      refine Mine.isi_list e31 (fun a o e => N32.get (List.mem_cons_of_mem _ (List.mem_cons_of_mem _ (List.mem_cons_of_mem _ e)))) (X'.keeps F32.keep) fun tk => ?_
                      rw [show Mine.isList (.dict es) = false from rfl]
                      ktr_unf
                      rename Fr _ _ _ _ => F33
                      rename News _ _ _ _ => N33
                      refine Mine.lw_cont B F33 N33 S31 hb31 (d31.mono fun a o e _ => (List.mem_cons_of_mem _ (List.mem_cons_of_mem _ (List.mem_cons_of_mem _ e)))) (f31.mono fun a o e _ => (List.mem_cons_of_mem _ (List.mem_cons_of_mem _ (List.mem_cons_of_mem _ e)))) rfl (by show callerA.depth + 1 + 6 * Mine.dep d2 + 20 < recursionLimit; omega) (by show callerA.units + _ + 60 * Mine.dep d2 + 120 < cLine; omega) fun h34 g34 tk34 tl34 t34 n34 pa34 pb34 F34 N34 S34 sub34 off34 hb34 => ?_

                      have k34 : ∀ p ∈ tl31, p ∈ tl34 := fun p hp => (let z := off31 p hp; sub34 _ (List.mem_cons_of_mem _ (List.mem_cons_of_mem _ (List.mem_cons_of_mem _ hp))) z.1 z.2.1 z.2.2)
                      have e34 := e31.mono fun a o e _ => k34 _ e
                      have f34 := f31.mono fun a o e _ => k34 _ e
                      have d34 := d31.mono fun a o e _ => k34 _ e
                      rw [Mine.top_atom hA2]
                      clear F33 N33 sub34
                      ktr_unf
                      rename Fr _ _ _ _ => F35
                      rename News _ _ _ _ => N35
                      refine Mine.lw_cont B F35 N35 S34 hb34 (d34.mono fun a o e _ => (List.mem_cons_of_mem _ (List.mem_cons_of_mem _ (List.mem_cons_of_mem _ e)))) (d34.mono fun a o e _ => (List.mem_cons_of_mem _ (List.mem_cons_of_mem _ (List.mem_cons_of_mem _ e)))) rfl (by show callerA.depth + 1 + 6 * Mine.dep (.atom x) + 20 < recursionLimit; omega) (by show callerA.units + _ + 60 * Mine.dep (.atom x) + 120 < cLine; omega) fun h36 g36 tk36 tl36 t36 n36 pa36 pb36 F36 N36 S36 sub36 off36 hb36 => ?_

                      have k36 : ∀ p ∈ tl34, p ∈ tl36 := fun p hp => (let z := off34 p hp; sub36 _ (List.mem_cons_of_mem _ (List.mem_cons_of_mem _ (List.mem_cons_of_mem _ hp))) z.1 z.2.1 z.2.2)
                      rw [Mine.top_self]
                      clear F35 N35 sub36
                      ktr_unf
                      rename Fr _ _ _ _ => F37
                      rename News _ _ _ _ => N37
                      exact ⟨_, g36, _, tl36, t36, n36, pa36, pb36, rfl, F37, N37, S36, off36, fun p hp => k36 _ (k34 _ (k31 _ (hk23 p hp))), hb36, e34.mono fun a o e _ => k36 _ e, f34.mono fun a o e _ => k36 _ e⟩
                  case cont2 =>
                    clear F25 N25 S23 off23 hk23 hb23 e23 f23 hpd hc23
                    rintro s' ⟨h40, g40, tk40, tl40, t40, n40, ra, rb, rfl, F40, N40, S40, off40, hk40, hb40, e40, f40⟩
                    dsimp only
                    ktr_unf
                    rotate_left 2
                    exact (kvl.length + 1 - (i2 + 1))
                    · omega
                    · exact ⟨oJ1, i2 + 1, _, _, hlt2, rfl, ⟨hJc, hJd⟩, h40, g40, _, tl40, t40, n40, ra, rb, rfl, Mine.fr_mapI F40 (fun y h5 h6 => by simp only [h5, h6, if_false]), N40, S40, off40, hk40, hb40, e40, f40⟩

                · obtain rfl : i2 = kvl.length := by omega
                  refine (Walks.dictKeys (prog := PySem.Challenge.rw_ez0233_01.row.prog) (w := w) rfl J a1 hJa kvl ep).done _ _ _ ⟨⟨oJ, hJ22, hit2.1, hit2.2⟩, hDA.at' fun o e => by rw [ho20] at e; cases e; exact N22.get (List.mem_cons_of_mem _ (List.mem_cons_of_mem _ (List.mem_cons_of_mem _ (hk22 _ (List.mem_cons_of_mem _ (List.mem_cons_of_mem _ (List.mem_cons_of_mem _ List.mem_cons_self)))))))⟩ fun h9 tk9 k9 => ?_
                  have M1 := (Mine.Mid2.step (T := "dict_keyiterator") (tk' := tk9) M hit2.1 ⟨by decide, by decide⟩ hit2.2 hkeep (fun b o hb e => k9 b o (by simpa using hb) e)).2
                  obtain ⟨h23, g23, tk23, tl23, t23, n23, r1, r2, hs, F23, N23, S23, off23, hk23, hb23, e23, f23⟩ := M1
                  cases hs
                  clear M F22 N22 S22 e22 f22 off22 hk22
                  dsimp only
                  ktr_unf
                  rotate_left 2
                  exact (3 - (i + 1))
                  · omega
                  · exact ⟨_, _, _, tl23, t23, n23, r1, r2, atP, i + 1, _, _, _, _, _, _, oE, _, rfl, by omega, rfl, Mine.fr_mapW F23 (fun y h1 h2 h3 h4 h5 h6 => by simp only [h1, h2, h3, h4, h5, h6, if_false]), N23, S23, off23, hk23 _ List.mem_cons_self, hcd5, hk23 _ (List.mem_cons_of_mem _ List.mem_cons_self), hb23, by omega⟩
      · obtain rfl : i = 2 := by omega
        refine (Walks.range (prog := PySem.Challenge.rw_ez0233_01.row.prog) (w := w) rfl I 0 1 2).done _ _ _ hit fun h₁ tk₁ hk₁ => ?_
        obtain ⟨tl1, t1, n1, q1, q2, F1, N1, S1, sub1, off1, mem1⟩ := Mine.lw_one F N S (List.mem_cons_of_mem _ (List.mem_cons_of_mem _ (List.mem_cons_of_mem _ hI))) (fun xs n e => by cases e) (fun ps e => by cases e) (fun b o hb e => hk₁ b o (by simpa using hb) e)
        clear F N S sub1 mem1 hI hc off hit
        dsimp only
        ktr_unf
        rename_i la _ _ lb _ _ lc _ _ ld _ FP NP _
        refine Mine.lw_cont (a := .list [.atom (.int 1), .list [.atom (.bool true)]]) (b := .list [.list [.atom (.bool true)]]) B FP NP (S1.sub fun p hp => List.mem_cons_of_mem _ (List.mem_cons_of_mem _ (List.mem_cons_of_mem _ (List.mem_cons_of_mem _ hp)))) hb ?da ?db rfl (by show callerA.depth + 1 + 6 * 2 + 20 < recursionLimit; omega) (by show callerA.units + _ + 60 * 2 + 120 < cLine; omega) fun hQ gQ tkQ tlQ tQ nQ pQ1 pQ2 FQ NQ SQ subQ offQ hbQ => ?_
        case da => exact .list (n := 0) (List.mem_cons_of_mem _ (List.mem_cons_of_mem _ List.mem_cons_self)) (.cons (.int _ _) (.cons (.list (n := 0) (List.mem_cons_of_mem _ (List.mem_cons_of_mem _ (List.mem_cons_of_mem _ List.mem_cons_self))) (.cons (.bool _) .nil)) .nil))
        case db => exact .list (n := 0) List.mem_cons_self (.cons (.list (n := 0) (List.mem_cons_of_mem _ List.mem_cons_self) (.cons (.bool _) .nil)) .nil)
        rw [show Mine.contTop (.list [.atom (.int 1), .list [.atom (.bool true)]]) (.list [.list [.atom (.bool true)]]) = true by decide +kernel]
        clear FP NP S1 subQ
        ktr_unf
        rename Fr _ _ _ _ => FR
        rename News _ _ _ _ => NR
        refine Mine.lw_cont (a := .list [.atom (.int 1)]) (b := .atom (.bool true)) B FR NR (SQ.sub fun p hp => List.mem_cons_of_mem _ hp) hbQ (.list (n := 0) List.mem_cons_self (.cons (.int _ _) .nil)) (.bool _) rfl (by show callerA.depth + 1 + 6 * 0 + 20 < recursionLimit; omega) (by show callerA.units + _ + 60 * 0 + 120 < cLine; omega) fun hU gU tkU tlU tU nU pU1 pU2 FU NU SU subU offU hbU => ?_
        rw [show Mine.contTop (.list [.atom (.int 1)]) (.atom (.bool true)) = false by decide +kernel]
        clear FR NR SQ subU
        ktr_unf
        exact fin hU gU tkU FU.keep (SU.tab1 NU) (SU.tab2 NU) hbU
