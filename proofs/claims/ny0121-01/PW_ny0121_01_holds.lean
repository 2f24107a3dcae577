import PyProof.Rows.All
import Wide.All
import OpenK.AllK
import Wide.FinOn
import KE.BitLaws
import PySem.Challenge.RW_ny0121_01

set_option Elab.async false
set_option compiler.extract_closed false
set_option maxRecDepth 100000
namespace Mine
section
open PySem PySem.W PyProof.Rows
set_option Elab.async false
set_option maxRecDepth 100000
set_option maxHeartbeats 8000000 in
open_top hd for PySem.Challenge.rw_ny0121_01
end

section
open PySem PySem.W PyProof.Rows PySem.Calls
set_option Elab.async false
set_option maxRecDepth 100000

/-- every object of the first heap stands in the second one as it was -/
def Ext (h h' : Heap) : Prop := ∀ b o, h.get? b = some o → h'.get? b = some o
theorem Ext.rfl' {h : Heap} : Ext h h := fun _ _ e => e
theorem Ext.trans {h h' h'' : Heap} (x : Ext h h') (y : Ext h' h'') : Ext h h'' := fun b o e => y b o (x b o e)

def Done (P : Heap → Value → Prop) (s : Shared) (v : Value) (s' : Shared) : Prop :=
  ∃ h' tk, s' = { s with heap := h', toks := tk } ∧ Ext s.heap h' ∧ P h' v
theorem Done.mk {P : Heap → Value → Prop} {s : Shared} {v : Value} {L : Addr} {h' : Heap} {tk : Nat} {m : Str → Option Value} (F : Fr s.heap L h' m) (p : P h' v) :
    Done P s v { s with heap := h', toks := tk } := ⟨h', tk, rfl, F.keep, p⟩

/-- a call that leaves all that stands as it is: contract of k levels of depth -/
def Pure (k : Nat) (w : World) (p : PySem.Program) (loose : List Str) (mean : ExcName → Option Value) (mg mb : Str → Option Value) (f : Addr) (vs : List Value) (s : Shared) (P : Heap → Value → Prop) : Prop :=
  ∀ (dp un : Nat) (gd : Option (List Code)) (cn : Str) (cs : Scope) (a : Addr) (ccd : Value) (cl : List (Str × Addr)) (outer : List Env) (A₀ : Around) (base h₀ : Heap) (L : Addr) (m : Str → Option Value)
    (Q E : Value → Shared → Prop),
    Below A₀ base outer h₀ → Fr h₀ L s.heap m → (hd.heap_39 w.params).In h₀ → Top p loose mean mg mb h₀ → cs.kind = .function → dp + k + 20 < recursionLimit → un + 8 * k + 200 < cLine →
    (∀ r h' tk', Ext s.heap h' → P h' r → Q r { s with heap := h', toks := tk' }) →
    wpAny (model PySem.Challenge.rw_ny0121_01.row.prog w) (ktrTop dp un gd cn cs L a ccd cl outer) (call (.ref f) vs) Q E s

section
variable {prog : PySem.Program} {w : World} {A₀ A : Around} {s : Shared} {base h₀ : Heap} {outer : List Env} {L : Addr} {m : Str → Option Value} {env : Env} {K : Frag}
  {p : PySem.Program} {loose : List Str} {mean : ExcName → Option Value} {mg mb : Str → Option Value}
  {name qual : Str} {params : Arguments} {body : List Stmt} {scope : Scope} {dV kV doc pm cdv ct oc : Value} {an od : Option Addr} {osl : Array (Option Value)} {f : Addr} {args : List Value} {binds : List (Str × Value)}
  {P : Heap → Value → Prop} {Q E : Value → Shared → Prop}

theorem enter_pure (B : Below A₀ base outer h₀) (F : Fr h₀ L s.heap m) (X₀ : K.In h₀) (T : Top p loose mean mg mb h₀) (hA : A.frames = some (env :: outer)) (hf : env.frame = some L) (hke : env.scope.kind = .function)
    (ho : K.lookup f = some ⟨oc, od, .func (fnOf name qual params body scope dV kV doc pm an cdv ct), osl⟩) (hcd : codeIn K cdv qual = true) (hroom : A.depth < recursionLimit)
    (hbind : BindsTo s (fnOf name qual params body scope dV kV doc pm an cdv ct) ⟨args, []⟩ binds) (hloc : ∀ y ∈ binds, scope.names.lookup y.1 = some .local)
    (ret : ∀ r h' tk', Ext s.heap h' → P h' r → Q r { s with heap := h', toks := tk' })
    (h : ∀ L' h₁, Fr s.heap L' h₁ (fun y => binds.reverse.lookup y) → News s.heap L' h₁ [] → Below A base (env :: outer) s.heap → K.In s.heap → Top p loose mean mg mb s.heap →
      wpAny (model prog w) (A.deeper (envOf qual scope L' f cdv)) (execs body (envOf qual scope L' f cdv))
        (fun fl s' => Done P s (match fl with | .ret v => v | _ => .none) s') (fun _ _ => False)
        { s with heap := h₁, toks := s.toks + binds.length })
    (hco : scope.isCoroutine = false) (hgen : scope.isGenerator = false) (hk : scope.kind = .function)
    (hcell : ∀ x ∈ scope.names, x.2 ≠ .cell) : wpAny (model prog w) A (call (.ref f) args) Q E s := by
  obtain ⟨FG, BG, st, _⟩ := groundX (R := fun _ _ => True) B F News.nil hA hf hke
  refine wpAny_call ?_
  refine codeAny_call_def (fd := fnX name qual params body scope [] dV kV doc pm an cdv ct) (body := body) (binds := binds) hroom ((X₀.keeps F.keep) _ _ ho) rfl (T.nolimit.keeps F.keep) (codeRec_of (X₀.keeps F.keep) hcd) rfl hbind hcell hloc (fun h₁ hns hk₁ => ?_) hco hgen hk
  refine wpAny_mono (h s.heap.objs.size h₁ ⟨hns, hk₁, Nat.le_refl _⟩ News.nil BG (X₀.keeps F.keep) (T.keeps F.keep)) (fun fl s' hl => ?_) (fun _ _ x => x.elim)
  obtain ⟨h', tk, rfl, e, q⟩ := hl
  exact ret _ h' tk e q

theorem enter_pureC (B : Below A₀ base outer h₀) (F : Fr h₀ L s.heap m) (X₀ : K.In h₀) (T : Top p loose mean mg mb h₀) (hA : A.frames = some (env :: outer)) (hf : env.frame = some L) (hke : env.scope.kind = .function)
    (ho : K.lookup f = some ⟨oc, od, .func (fnOf name qual params body scope dV kV doc pm an cdv ct), osl⟩) (hcd : codeIn K cdv qual = true) (hroom : A.depth < recursionLimit)
    (hbind : BindsTo s (fnOf name qual params body scope dV kV doc pm an cdv ct) ⟨args, []⟩ binds) (hkind : (binds.all fun y => scope.names.lookup y.1 == some .local || scope.names.lookup y.1 == some .cell) = true)
    (hnd : ((cellsFrom 0 scope.names []).map (·.1)).Nodup)
    (ret : ∀ r h' tk', Ext s.heap h' → P h' r → Q r { s with heap := h', toks := tk' })
    (h : ∀ L' h₁ tk cells, Fr s.heap L' h₁ (bindL (envOfC qual scope L' f cdv).kindOf binds fun _ => none) → News s.heap L' h₁ cells →
      CellsAre (bindC (envOfC qual scope L' f cdv).kindOf binds fun _ => none) (cellsFrom (L' + 1) scope.names []) cells → Below A base (env :: outer) s.heap → K.In s.heap → Top p loose mean mg mb s.heap →
      wpAny (model prog w) (A.deeper (envOfC qual scope L' f cdv)) (execs body (envOfC qual scope L' f cdv))
        (fun fl s' => Done P s (match fl with | .ret v => v | _ => .none) s') (fun _ _ => False)
        { s with heap := h₁, toks := tk })
    (hco : scope.isCoroutine = false) (hgen : scope.isGenerator = false) (hk : scope.kind = .function) : wpAny (model prog w) A (call (.ref f) args) Q E s := by
  obtain ⟨FG, BG, st, _⟩ := groundX (R := fun _ _ => True) B F News.nil hA hf hke
  refine wpAny_call ?_
  refine codeAny_call_function hroom ((X₀.keeps F.keep) _ _ ho) rfl hco hgen rfl (codeRec_of (X₀.keeps F.keep) hcd) (hbind _ _ _ _ ?_)
  refine wpAny_newFunctionEnv_cells hk (kindsX hkind _) fun env' he s' x => ?_
  subst he
  refine ⟨((T.nolimit).keeps F.keep).keeps x.toInCall.keep, codeAny_func ?_⟩
  obtain ⟨h₁, tk, rfl, _⟩ := x.done
  have hk₁ := x.toInCall.keep
  obtain ⟨cells, NC, Y⟩ := Cl.news (h₀ := s.heap) (Nat.le_refl _) fun n c hm => ⟨x.cell n c (lookup_of_mem_nodup (cellsFrom_names scope.names 0 (s.heap.objs.size + 1) [] [] rfl ▸ hnd) hm), x.above n c hm⟩
  refine wpAny_mono (h s.heap.objs.size h₁ tk cells ⟨x.toInCall.ns, hk₁, Nat.le_refl _⟩ NC Y BG (X₀.keeps F.keep) (T.keeps F.keep)) (fun fl s' hl => ?_) (fun _ _ x => x.elim)
  obtain ⟨h', tk, rfl, e, q⟩ := hl
  exact ret _ h' tk e q
end

def Small (ws : List Int) : Prop := ∀ i : Nat, 0 ≤ ws.getD i 0 ∧ ws.getD i 0 < 4096
theorem mul_small_left {ws : List Int} {i : Nat} {b : Int} (h : Small ws) : IntMulOk (ws.getD i 0) b :=
  IntMulOk.of_left (intBits_le_64 (by have := h i; omega) (by have := h i; omega))
theorem fmod_lo {n k : Int} (h : 0 < k) : 0 ≤ n.fmod k := by rw [Int.fmod_eq_emod_of_nonneg _ (Int.le_of_lt h)]; exact Int.emod_nonneg n (by omega)
theorem fmod_hi {n k : Int} (h : 0 < k) : n.fmod k < k := by rw [Int.fmod_eq_emod_of_nonneg _ (Int.le_of_lt h)]; exact Int.emod_lt_of_pos n h

/-- a place where the walk rests -/
def Hold (p : Prop) : Prop := p
theorem hold_mk {p : Prop} (h : Hold p) : p := h
/-- a mark in the context: from here on the walk rests -/
structure Mark : Prop where
theorem hold_lcAdd {M : Model} {A : Around} {E : Value → Shared → Prop} {s : Shared} {a b : Expr} {p q : Pos} {gs : List Comprehension} {sc : Scope} {env : Env} {Q : Value → Shared → Prop} (h : Hold (wpAny M A (eval (.ListComp (.BinOp a .Add b p) gs sc q) env) Q E s)) : wpAny M A (eval (.ListComp (.BinOp a .Add b p) gs sc q) env) Q E s := h
theorem hold_item {M : Model} {A : Around} {E : Value → Shared → Prop} {s : Shared} {v sl : Expr} {l : Addr} {k : Int} {t : Tok} {Q : Value → Shared → Prop} (h : Hold (wpAny M A (subscriptTail v sl (.ref l) (.int k t)) Q E s)) : wpAny M A (subscriptTail v sl (.ref l) (.int k t)) Q E s := h
theorem hold_call {M : Model} {A : Around} {E : Value → Shared → Prop} {s : Shared} {f : Addr} {vs : List Value} {Q : Value → Shared → Prop} {l : List Nat} (_ : l.contains f = true) (h : Hold (wpAny M A (call (.ref f) vs) Q E s)) : wpAny M A (call (.ref f) vs) Q E s := h

section
open LCg
variable {prog : PySem.Program} {w : World} {A : Around} {h₀ : Heap} {L : Addr} {m : Str → Option Value} {env : Env} {elt : Expr} {x : Str} {scope : Scope} {cl : List (Str × Addr)} {s : Shared} {S : List (Addr × Obj) → Prop} {P : Nat → Value → Prop} {Fin : List Value → List (Addr × Obj) → Prop} {news : List (Addr × Obj)}
/-- a comprehension by what holds of what is made so far -/
theorem comp_inv {n : Nat} (Inv : Nat → List Value → List (Addr × Obj) → Prop) (h0 : Inv 0 [] news)
    (turn : ∀ i ys news₁ v I oI C oC D m₂ h tk (E' : Value → Shared → Prop), i < n → Inv i ys news₁ → P i v → NsObj oC m₂ → m₂ x = some v → Fr h₀ L h m → News h₀ L h ((I, oI) :: (C, oC) :: (D, lst ys) :: news₁) → Off3 I C D news₁ → ((@Ne Nat I C) ∧ (@Ne Nat I D) ∧ (@Ne Nat C D)) →
      wpAny (model prog w) A (eval elt (compEnvC scope cl C env)) (CompEnd h₀ L m { s with heap := h, toks := tk } I oI C oC D (lst ys) S (fun y news' => Inv (i + 1) (ys ++ [y]) news')) E' { s with heap := h, toks := tk })
    (fin : ∀ ys news', Inv n ys news' → Fin ys news') : CompRest prog w A h₀ L m env elt x scope cl s S P Fin n 0 [] news := by
  have key : ∀ (j i : Nat) (ys : List Value) (nw : List (Addr × Obj)), i + j = n → Inv i ys nw → CompRest prog w A h₀ L m env elt x scope cl s S P Fin j i ys nw := by
    intro j
    induction j with
    | zero =>
      intro i ys nw hi hy
      have e : i = n := by omega
      subst e
      exact CompRest.zero (fin ys nw hy)
    | succ j ih =>
      intro i ys nw hi hy
      refine CompRest.succ ?_
      intro v I oI C oC D m₂ h tk E' hv hC hx F N off ne
      refine wpAny_mono (turn i ys nw v I oI C oC D m₂ h tk E' (by omega) hy hv hC hx F N off ne) (fun y s₂ hq => ?_) fun _ _ e => e
      obtain ⟨h', tk', nw', e, F', N', off', hS, hn⟩ := hq
      exact ⟨h', tk', nw', e, F', N', off', hS, ih (i + 1) _ nw' (by omega) hn⟩
  exact key n 0 [] news (by omega) h0
theorem comp_fix {n : Nat} (f : Nat → Value → Prop)
    (turn : ∀ i ys v I oI C oC D m₂ h tk (E' : Value → Shared → Prop), i < n → P i v → NsObj oC m₂ → m₂ x = some v → Fr h₀ L h m → News h₀ L h ((I, oI) :: (C, oC) :: (D, lst ys) :: news) → Off3 I C D news → ((@Ne Nat I C) ∧ (@Ne Nat I D) ∧ (@Ne Nat C D)) →
      wpAny (model prog w) A (eval elt (compEnvC scope cl C env)) (CompEnd h₀ L m { s with heap := h, toks := tk } I oI C oC D (lst ys) S (fun y news' => news' = news ∧ f i y)) E' { s with heap := h, toks := tk })
    (fin : ∀ ys, ys.length = n → (∀ i (h : i < ys.length), f i ys[i]) → Fin ys news) : CompRest prog w A h₀ L m env elt x scope cl s S P Fin n 0 [] news := by
  refine comp_inv (fun i ys nw => nw = news ∧ ys.length = i ∧ ∀ j (h : j < ys.length), f j ys[j]) ⟨rfl, rfl, fun j h => absurd h (Nat.not_lt_zero _)⟩ ?_ (fun ys nw h => h.1 ▸ fin ys h.2.1 h.2.2)
  rintro i ys nw v I oI C oC D m₂ h tk E' hi ⟨rfl, hl, hy⟩ hv hC hx F N off ne
  refine wpAny_mono (turn i ys v I oI C oC D m₂ h tk E' hi hv hC hx F N off ne) (fun y s₂ hq => ?_) fun _ _ e => e
  obtain ⟨h', tk', nw', e, F', N', off', hS, hn, hf⟩ := hq
  refine ⟨h', tk', nw', e, F', N', off', hS, hn, by simp [hl], fun j hj => ?_⟩
  by_cases hjl : j < ys.length
  · rw [List.getElem_append_left hjl]; exact hy j hjl
  · have : j = i := by simp at hj; omega
    subst this
    rw [List.getElem_append_right (by omega)]
    simpa [hl] using hf
end

section
variable {prog : PySem.Program} {w : World} {A : Around} {E : Value → Shared → Prop} {s : Shared}
theorem ints_last : ∀ {vs : List Value} {rs : List Int}, IntsAre vs rs → rs ≠ [] → ∃ t, vs[vs.length - 1]? = some (.int (rs.getLastD 0) t)
  | _, _, .nil, h => absurd rfl h
  | _, _, .cons n t .nil, _ => ⟨t, rfl⟩
  | _, _, .cons n t (.cons n' t' r), _ => by
    obtain ⟨u, hu⟩ := ints_last (.cons n' t' r) (by simp)
    refine ⟨u, ?_⟩
    rw [List.getLastD_cons, List.getLastD_cons]
    rw [List.getLastD_cons] at hu
    simpa using hu
/-- the last item of a list of ints -/
theorem last_item {value slice : PySem.Expr} {l : Addr} {vs : List Value} {rs : List Int} {u : Tok} {Q : Value → Shared → Prop} (hl : s.heap.IsList l vs.toArray) (hi : IntsAre vs rs) (hne : rs ≠ [])
    (h : ∀ t, Q (.int (rs.getLastD 0) t) s)
    (hs : subscripted slice false (.ref l) (.int (-1) u) = operate [.ref l, .int (-1) u] (getItem (.ref l) (.int (-1) u)) := by with_unfolding_all rfl) :
    wpAny (model prog w) A (subscriptTail value slice (.ref l) (.int (-1) u)) Q E s := by
  obtain ⟨t, ht⟩ := ints_last hi hne
  have hlen : vs.length ≠ 0 := fun e => by rw [hi.length] at e; exact hne (List.length_eq_zero_iff.mp e)
  refine tail_any hl.typeIs slot_list_getitem.lookup (wpAny_getItem_list_neg hl (by decide) (by simp; omega) (by decide) (x := .int (rs.getLastD 0) t) ?_ (h t)) hs
  have e : ((-1 : Int) + (vs.toArray.size : Nat)).toNat = vs.length - 1 := by simp; omega
  rw [e]; simpa using ht
end

/-- what is asked of an element, told apart from other ends -/
def FixEl (news : List (Addr × Obj)) (f : Value → Prop) (y : Value) (news' : List (Addr × Obj)) : Prop := news' = news ∧ f y
section
open LCg
variable {prog : PySem.Program} {w : World} {A : Around} {h₀ : Heap} {L : Addr} {m : Str → Option Value} {env : Env} {elt : Expr} {x : Str} {scope : Scope} {cl : List (Str × Addr)} {s : Shared} {S : List (Addr × Obj) → Prop} {P : Nat → Value → Prop} {Fin : List Value → List (Addr × Obj) → Prop} {news : List (Addr × Obj)}
theorem comp_fixD {n : Nat} (f : Nat → Value → Prop)
    (turn : ∀ i ys v I oI C oC D m₂ h tk (E' : Value → Shared → Prop), i < n → P i v → NsObj oC m₂ → m₂ x = some v → Fr h₀ L h m → News h₀ L h ((I, oI) :: (C, oC) :: (D, lst ys) :: news) → Off3 I C D news → ((@Ne Nat I C) ∧ (@Ne Nat I D) ∧ (@Ne Nat C D)) →
      wpAny (model prog w) A (eval elt (compEnvC scope cl C env)) (CompEnd h₀ L m { s with heap := h, toks := tk } I oI C oC D (lst ys) S (fun y news' => FixEl news (f i) y news')) E' { s with heap := h, toks := tk })
    (fin : ∀ ys, ys.length = n → (∀ i (h : i < ys.length), f i ys[i]) → Fin ys news) : CompRest prog w A h₀ L m env elt x scope cl s S P Fin n 0 [] news :=
  comp_fix f turn fin
end
theorem ints_of_all : ∀ (ys : List Value), (∀ i (h : i < ys.length), ∃ n t, ys[i] = Value.int n t) → ∃ ns, IntsAre ys ns
  | [], _ => ⟨[], .nil⟩
  | y :: r, h => by
    obtain ⟨n, t, e⟩ := h 0 (by simp)
    obtain ⟨ns, hn⟩ := ints_of_all r fun i hi => h (i + 1) (by simpa using hi)
    have e' : y = Value.int n t := e
    exact ⟨n :: ns, e' ▸ .cons n t hn⟩
theorem ints_range : ∀ (n : Nat) (f : Nat → Int) (ys : List Value), ys.length = n → (∀ i (h : i < ys.length), ∃ t, ys[i] = Value.int (f i) t) → IntsAre ys ((List.range n).map f) := by
  intro n
  induction n with
  | zero => intro f ys hl _; rw [List.length_eq_zero_iff.mp hl]; exact .nil
  | succ n ih =>
    intro f ys hl h
    cases ys with
    | nil => simp at hl
    | cons z r =>
      obtain ⟨t, e⟩ := h 0 (by simp)
      have e' : z = Value.int (f 0) t := e
      have := ih (fun i => f (i + 1)) r (by simpa using hl) fun i hi => h (i + 1) (by simpa using hi)
      rw [List.range_succ_eq_map, List.map_cons, List.map_map, e']
      exact .cons _ t this
end

section
open PySem PyProof.Rows
set_option maxRecDepth 100000
/-! the listing of a mode, sign by sign -/
noncomputable def kindCh (k : Int) : Nat := [63, 112, 99, 63, 100, 63, 98, 63, 45, 63, 108, 63, 115, 63, 63, 63].getD k.toNat 63
noncomputable def rw1 (b : Int) (c : Nat) : Nat := if b = 1 then c else 45
noncomputable def x3 (x a : Int) (cS cs : Nat) : Nat := if a = 1 then (if x = 1 then cs else cS) else (if x = 1 then 120 else 45)
noncomputable def rowS (y : Int) : Str := ⟨#[kindCh (y / 4096), rw1 (y / 256 % 2) 114, rw1 (y / 128 % 2) 119, x3 (y / 64 % 2) (y / 2048 % 2) 83 115, rw1 (y / 32 % 2) 114, rw1 (y / 16 % 2) 119, x3 (y / 8 % 2) (y / 1024 % 2) 83 115,
  rw1 (y / 4 % 2) 114, rw1 (y / 2 % 2) 119, x3 (y % 2) (y / 512 % 2) 84 116]⟩

theorem lt8 : ∀ n, n < 8 → n = 0 ∨ n = 1 ∨ n = 2 ∨ n = 3 ∨ n = 4 ∨ n = 5 ∨ n = 6 ∨ n = 7 := by decide
theorem lt9 : ∀ n, n < 9 → n = 0 ∨ n = 1 ∨ n = 2 ∨ n = 3 ∨ n = 4 ∨ n = 5 ∨ n = 6 ∨ n = 7 ∨ n = 8 := by decide
theorem lt12 : ∀ n, n < 12 → n = 0 ∨ n = 1 ∨ n = 2 ∨ n = 3 ∨ n = 4 ∨ n = 5 ∨ n = 6 ∨ n = 7 ∨ n = 8 ∨ n = 9 ∨ n = 10 ∨ n = 11 := by decide
theorem lt16 : ∀ n, n < 16 → n = 0 ∨ n = 1 ∨ n = 2 ∨ n = 3 ∨ n = 4 ∨ n = 5 ∨ n = 6 ∨ n = 7 ∨ n = 8 ∨ n = 9 ∨ n = 10 ∨ n = 11 ∨ n = 12 ∨ n = 13 ∨ n = 14 ∨ n = 15 := by decide
theorem d4 (m : Int) : m % 8 / 4 = m / 4 % 2 := by omega
theorem d2 (m : Int) : m % 8 / 2 % 2 = m / 2 % 2 := by omega
theorem d1 (m : Int) : m % 8 % 2 = m % 2 := by omega
theorem dd64 (n : Int) : n / 64 / 4 = n / 256 ∧ n / 64 / 2 = n / 128 := ⟨Int.ediv_ediv_of_nonneg (by decide), Int.ediv_ediv_of_nonneg (by decide)⟩
theorem dd8 (n : Int) : n / 8 / 4 = n / 32 ∧ n / 8 / 2 = n / 16 := ⟨Int.ediv_ediv_of_nonneg (by decide), Int.ediv_ediv_of_nonneg (by decide)⟩
theorem fdivE (x : Int) {k : Int} (h : 0 ≤ k) : x.fdiv k = x / k := Int.fdiv_eq_ediv_of_nonneg _ h
theorem fmodE (x : Int) {k : Int} (h : 0 ≤ k) : x.fmod k = x % k := Int.fmod_eq_emod_of_nonneg _ h

theorem item_kind {k : Int} (h0 : 0 ≤ k) (h : k < 16) : Txt.item (Str.ofString "?pc?d?b?-?l?s???") k = ⟨#[kindCh k]⟩ := by
  obtain ⟨n, rfl⟩ := Int.eq_ofNat_of_zero_le h0
  have key : ∀ n : Nat, n < 16 → Txt.item (Str.ofString "?pc?d?b?-?l?s???") (n : Int) = ⟨#[kindCh (n : Int)]⟩ := by decide +kernel
  exact key n (Int.ofNat_lt.mp h)
theorem item_r {b : Int} (h : b = 0 ∨ b = 1) : Txt.item (Str.ofString "-r") b = ⟨#[rw1 b 114]⟩ := by rcases h with rfl | rfl <;> decide +kernel
theorem item_w {b : Int} (h : b = 0 ∨ b = 1) : Txt.item (Str.ofString "-w") b = ⟨#[rw1 b 119]⟩ := by rcases h with rfl | rfl <;> decide +kernel
theorem item_s {x a : Int} (hx : x = 0 ∨ x = 1) (ha : a = 0 ∨ a = 1) : Txt.item (Str.ofString "-xSs") (x + 2 * a) = ⟨#[x3 x a 83 115]⟩ := by rcases hx with rfl | rfl <;> rcases ha with rfl | rfl <;> decide +kernel
theorem item_t {x a : Int} (hx : x = 0 ∨ x = 1) (ha : a = 0 ∨ a = 1) : Txt.item (Str.ofString "-xTt") (x + 2 * a) = ⟨#[x3 x a 84 116]⟩ := by rcases hx with rfl | rfl <;> rcases ha with rfl | rfl <;> decide +kernel
theorem mod2 (x : Int) : x % 2 = 0 ∨ x % 2 = 1 := by omega

theorem row_eq {n : Int} (hn : 0 ≤ n ∧ n < 65536) :
    Txt.item (Str.ofString "?pc?d?b?-?l?s???") (n.fdiv 4096) ++
      (Txt.item (Str.ofString "-r") (((n.fdiv 64).fmod 8).fdiv 4) ++ Txt.item (Str.ofString "-w") ((((n.fdiv 64).fmod 8).fdiv 2).fmod 2)) ++
      Txt.item (Str.ofString "-xSs") (((n.fdiv 64).fmod 8).fmod 2 + 2 * (n.fdiv 2048).fmod 2) ++
      (Txt.item (Str.ofString "-r") (((n.fdiv 8).fmod 8).fdiv 4) ++ Txt.item (Str.ofString "-w") ((((n.fdiv 8).fmod 8).fdiv 2).fmod 2)) ++
      Txt.item (Str.ofString "-xSs") (((n.fdiv 8).fmod 8).fmod 2 + 2 * (n.fdiv 1024).fmod 2) ++
      (Txt.item (Str.ofString "-r") (((n.fdiv 1).fmod 8).fdiv 4) ++ Txt.item (Str.ofString "-w") ((((n.fdiv 1).fmod 8).fdiv 2).fmod 2)) ++
      Txt.item (Str.ofString "-xTt") (((n.fdiv 1).fmod 8).fmod 2 + 2 * (n.fdiv 512).fmod 2) = rowS n := by
  simp only [fdivE _ (show (0 : Int) ≤ 4096 by decide), fdivE _ (show (0 : Int) ≤ 64 by decide), fdivE _ (show (0 : Int) ≤ 2048 by decide), fdivE _ (show (0 : Int) ≤ 1024 by decide), fdivE _ (show (0 : Int) ≤ 512 by decide),
    fdivE _ (show (0 : Int) ≤ 8 by decide), fdivE _ (show (0 : Int) ≤ 4 by decide), fdivE _ (show (0 : Int) ≤ 2 by decide), fdivE _ (show (0 : Int) ≤ 1 by decide), fmodE _ (show (0 : Int) ≤ 8 by decide), fmodE _ (show (0 : Int) ≤ 2 by decide)]
  have e1 : n / 64 % 8 / 4 = n / 256 % 2 := by rw [d4, (dd64 n).1]
  have e2 : n / 64 % 8 / 2 % 2 = n / 128 % 2 := by rw [d2, (dd64 n).2]
  have e3 : n / 64 % 8 % 2 = n / 64 % 2 := d1 _
  have e4 : n / 8 % 8 / 4 = n / 32 % 2 := by rw [d4, (dd8 n).1]
  have e5 : n / 8 % 8 / 2 % 2 = n / 16 % 2 := by rw [d2, (dd8 n).2]
  have e6 : n / 8 % 8 % 2 = n / 8 % 2 := d1 _
  have e7 : n / 1 % 8 / 4 = n / 4 % 2 := by rw [Int.ediv_one, d4]
  have e8 : n / 1 % 8 / 2 % 2 = n / 2 % 2 := by rw [Int.ediv_one, d2]
  have e9 : n / 1 % 8 % 2 = n % 2 := by rw [Int.ediv_one, d1]
  rw [e1, e2, e3, e4, e5, e6, e7, e8, e9, item_kind (by omega) (by omega), item_r (mod2 _), item_w (mod2 _), item_s (mod2 _) (mod2 _), item_r (mod2 _), item_w (mod2 _), item_s (mod2 _) (mod2 _), item_r (mod2 _), item_w (mod2 _), item_t (mod2 _) (mod2 _)]
  rfl

/-! the rights of a listing -/
noncomputable def bitB (y : Int) (i : Nat) : Bool := decide (y / 2 ^ i % 2 = 1)
noncomputable def inTxt (x y : Str) : Bool := !(Builtin.Str.occurrences x y 0 x.length 1).isEmpty
theorem in_rw {b : Int} (h : b = 0 ∨ b = 1) : inTxt (Str.ofString "rwxst") ⟨#[rw1 b 114]⟩ = decide (b = 1) ∧ inTxt (Str.ofString "rwxst") ⟨#[rw1 b 119]⟩ = decide (b = 1) := by
  rcases h with rfl | rfl <;> decide +kernel
theorem in_x3 {x a : Int} (hx : x = 0 ∨ x = 1) (ha : a = 0 ∨ a = 1) : inTxt (Str.ofString "rwxst") ⟨#[x3 x a 83 115]⟩ = decide (x = 1) ∧ inTxt (Str.ofString "rwxst") ⟨#[x3 x a 84 116]⟩ = decide (x = 1) ∧
    inTxt (Str.ofString "sS") ⟨#[x3 x a 83 115]⟩ = decide (a = 1) ∧ inTxt (Str.ofString "tT") ⟨#[x3 x a 84 116]⟩ = decide (a = 1) := by
  rcases hx with rfl | rfl <;> rcases ha with rfl | rfl <;> decide +kernel
theorem rowS_len (y : Int) : (rowS y).length = 10 := rfl
theorem rights_plain (y : Int) {i : Nat} (h : i < 9) : inTxt (Str.ofString "rwxst") (Txt.item (rowS y) (9 - (0 + (i : Int)))) = bitB y i := by
  rcases lt9 i h with rfl | rfl | rfl | rfl | rfl | rfl | rfl | rfl | rfl
  · refine (in_x3 (mod2 y) (mod2 (y / 512))).2.1.trans ?_; simp [bitB]
  · exact (in_rw (mod2 (y / 2))).2
  · exact (in_rw (mod2 (y / 4))).1
  · exact (in_x3 (mod2 (y / 8)) (mod2 (y / 1024))).1
  · exact (in_rw (mod2 (y / 16))).2
  · exact (in_rw (mod2 (y / 32))).1
  · exact (in_x3 (mod2 (y / 64)) (mod2 (y / 2048))).1
  · exact (in_rw (mod2 (y / 128))).2
  · exact (in_rw (mod2 (y / 256))).1
theorem rights_9 (y : Int) : inTxt (Str.ofString "tT") (Txt.item (rowS y) 9) = bitB y 9 := (in_x3 (mod2 y) (mod2 (y / 512))).2.2.2
theorem rights_10 (y : Int) : inTxt (Str.ofString "sS") (Txt.item (rowS y) 6) = bitB y 10 := (in_x3 (mod2 (y / 8)) (mod2 (y / 1024))).2.2.1
theorem rights_11 (y : Int) : inTxt (Str.ofString "sS") (Txt.item (rowS y) 3) = bitB y 11 := (in_x3 (mod2 (y / 64)) (mod2 (y / 2048))).2.2.1
noncomputable def bitsV (y : Int) : List Value := (List.range 12).map fun i => Value.bool (bitB y i)
/-! the ring -/
noncomputable def nxtR (b r : List Int) : Int := b.getD (r.getLastD 0).toNat 0
noncomputable def ringGo (b : List Int) : Nat → List Int → List Int
  | 0, r => r
  | k + 1, r => if nxtR b r ∈ r then r else ringGo b k (r ++ [nxtR b r])
noncomputable def miss (r : List Int) : Nat := (List.range 8).countP fun (j : Nat) => !decide (((j : Nat) : Int) ∈ r)
noncomputable def ringLen (b : List Int) : Nat := (ringGo b 8 [0]).length
theorem ringGo_in {b r : List Int} (h : nxtR b r ∈ r) : ∀ k, ringGo b k r = r
  | 0 => rfl
  | k + 1 => by simp [ringGo, h]
theorem countP_lt {p q : Nat → Bool} : ∀ {l : List Nat}, (∀ x ∈ l, q x = true → p x = true) → ∀ x, x ∈ l → p x = true → q x = false → l.countP q < l.countP p
  | [], _, _, h, _, _ => (nomatch h)
  | a :: r, hpq, x, hx, hp, hq => by
    simp only [List.countP_cons]
    have hle : r.countP q ≤ r.countP p := List.countP_mono_left fun y hy => hpq y (List.mem_cons_of_mem _ hy)
    rcases List.mem_cons.mp hx with rfl | hx
    · simp [hp, hq]; omega
    · have := countP_lt (fun y hy => hpq y (List.mem_cons_of_mem _ hy)) x hx hp hq
      by_cases ha : q a = true
      · have hpa := hpq a List.mem_cons_self ha
        simp [ha, hpa]; omega
      · simp only [Bool.not_eq_true] at ha
        simp only [ha, Bool.false_eq_true, if_false]; omega
theorem miss_lt {r : List Int} {v : Int} (h0 : 0 ≤ v) (h8 : v < 8) (hv : v ∉ r) : miss (r ++ [v]) < miss r := by
  refine countP_lt (fun x _ hx => ?_) v.toNat (by simp; omega) ?_ ?_
  · simp only [List.mem_append, List.mem_singleton, Bool.not_eq_true', decide_eq_false_iff_not] at hx ⊢
    exact fun h => hx (.inl h)
  · have : ((v.toNat : Nat) : Int) = v := by omega
    simp [this, hv]
  · have : ((v.toNat : Nat) : Int) = v := by omega
    simp [this]
def RingIs (b r : List Int) : Prop := r ≠ [] ∧ (∀ v ∈ r, 0 ≤ v ∧ v < 8) ∧ ∃ k, miss r ≤ k ∧ r.length + k ≤ 9 ∧ ringGo b k r = ringGo b 8 [0]
theorem ring_start (b : List Int) : RingIs b [0] := ⟨by simp, by simp, 8, by decide, by decide, rfl⟩
theorem ring_len {b r : List Int} (h : RingIs b r) : r.length ≤ 9 := by obtain ⟨_, _, k, _, h, _⟩ := h; omega
theorem ring_end {b r : List Int} (h : RingIs b r) (hv : nxtR b r ∈ r) : r.length = ringLen b := by
  obtain ⟨_, _, k, _, _, hk⟩ := h
  rw [ringGo_in hv] at hk
  rw [ringLen, ← hk]
theorem ring_step {b r : List Int} (h : RingIs b r) (hb : 0 ≤ nxtR b r ∧ nxtR b r < 8) (hv : nxtR b r ∉ r) : RingIs b (r ++ [nxtR b r]) ∧ miss (r ++ [nxtR b r]) < miss r := by
  obtain ⟨h1, h2, k, hm, hz, hk⟩ := h
  have hl := miss_lt hb.1 hb.2 hv
  refine ⟨⟨by simp, fun v hv' => ?_, k - 1, by omega, by simp; omega, ?_⟩, hl⟩
  · rcases List.mem_append.mp hv' with h | h
    · exact h2 v h
    · rw [List.mem_singleton.mp h]; exact hb
  · obtain ⟨j, rfl⟩ : ∃ j, k = j + 1 := ⟨k - 1, by omega⟩
    rw [← hk]; simp [ringGo, hv]
theorem bitsV_of {y : Int} {ys : List Value} (hl : ys.length = 9) (h : ∀ i (h : i < ys.length), ys[i] = Value.bool (bitB y i)) : ys ++ [.bool (bitB y 9), .bool (bitB y 10), .bool (bitB y 11)] = bitsV y := by
  have e : ys = (List.range 9).map fun i => Value.bool (bitB y i) := by
    refine List.ext_getElem (by simp [hl]) fun i h1 h2 => ?_
    rw [h i h1]; simp
  rw [e]; rfl
end

section
open PySem PySem.W PyProof.Rows PySem.Calls
set_option Elab.async false
set_option maxRecDepth 100000
noncomputable abbrev lamQ : Str := (Str.ofString "_law_image" ++ ".<locals>.") ++ "<lambda>"
def TabIs (h : Heap) (ps : Array Value) : Prop := ps = #[] ∨ ∃ c' : Addr, ps = #[rawInt 68, rawInt 19, .ref c'] ∧ c' ≠ 107 ∧ h.CodeRec (.ref c') lamQ
def TabOk (h : Heap) : Prop := ∃ ps, h.get? 107 = some (tabObj ps) ∧ TabIs h ps
/-- the table stands as it stood, or holds a code made anew -/
def TabStep (h h' : Heap) : Prop := h'.get? 107 = h.get? 107 ∨ ∃ c' : Addr, h.get? c' = none ∧ h'.get? 107 = some (tabObj #[rawInt 68, rawInt 19, .ref c']) ∧ h'.CodeRec (.ref c') lamQ
def ExtB (h h' : Heap) : Prop := ∀ b o, b ≠ 107 → h.get? b = some o → h'.get? b = some o

/-- a call that changes at most the table of the lambda's code -/
def Near (k : Nat) (w : World) (p : PySem.Program) (loose : List Str) (mean : ExcName → Option Value) (mg mb : Str → Option Value) (f : Addr) (vs : List Value) (s : Shared) (P : Heap → Value → Prop) : Prop :=
  ∀ (dp un : Nat) (gd : Option (List Code)) (cn : Str) (cs : Scope) (a : Addr) (ccd : Value) (cl : List (Str × Addr)) (outer : List Env) (A₀ : Around) (base h₀ : Heap) (L : Addr) (m : Str → Option Value)
    (Q E : Value → Shared → Prop),
    Below A₀ base outer h₀ → Fr h₀ L s.heap m → (hd.heap_39 w.params).In h₀ → Top p loose mean mg mb h₀ → cs.kind = .function → dp + k + 20 < recursionLimit → un + 8 * k + 200 < cLine →
    h₀.get? 107 = none → CodeHd h₀ 111 107 → L ≠ 107 → TabOk s.heap →
    (∀ r h' tk', ExtB s.heap h' → TabOk h' → P h' r → Q r { s with heap := h', toks := tk' }) →
    wpAny (model PySem.Challenge.rw_ny0121_01.row.prog w) (ktrTop dp un gd cn cs L a ccd cl outer) (call (.ref f) vs) Q E s

def DoneB (g : Heap) (P : Heap → Value → Prop) (s : Shared) (v : Value) (s' : Shared) : Prop :=
  ∃ h' tk, s' = { s with heap := h', toks := tk } ∧ Ext g h' ∧ TabOk h' ∧ P h' v
theorem DoneB.mk {g : Heap} {P : Heap → Value → Prop} {s : Shared} {v : Value} {L : Addr} {h' : Heap} {tk : Nat} {m : Str → Option Value} (F : Fr g L h' m) (t : TabOk h') (p : P h' v) :
    DoneB g P s v { s with heap := h', toks := tk } := ⟨h', tk, rfl, F.keep, t, p⟩

section
variable {prog : PySem.Program} {w : World} {A₀ A : Around} {s : Shared} {base h₀ : Heap} {outer : List Env} {L : Addr} {m : Str → Option Value} {env : Env} {K : Frag}
  {p : PySem.Program} {loose : List Str} {mean : ExcName → Option Value} {mg mb : Str → Option Value}
  {name qual : Str} {params : Arguments} {body : List Stmt} {scope : Scope} {dV kV doc pm cdv ct oc : Value} {an od : Option Addr} {osl : Array (Option Value)} {f : Addr} {args : List Value} {binds : List (Str × Value)}
  {P : Heap → Value → Prop} {Q E : Value → Shared → Prop} {ps : Array Value}

theorem enter_hideC (B : Below A₀ base outer h₀) (F : Fr h₀ L s.heap m) (X₀ : K.In h₀) (T : Top p loose mean mg mb h₀) (hA : A.frames = some (env :: outer)) (hf : env.frame = some L) (hke : env.scope.kind = .function)
    (ho : K.lookup f = some ⟨oc, od, .func (fnOf name qual params body scope dV kV doc pm an cdv ct), osl⟩) (hcd : codeIn K cdv qual = true) (hroom : A.depth < recursionLimit)
    (hbind : BindsTo s (fnOf name qual params body scope dV kV doc pm an cdv ct) ⟨args, []⟩ binds) (hkind : (binds.all fun y => scope.names.lookup y.1 == some .local || scope.names.lookup y.1 == some .cell) = true)
    (hnd : ((cellsFrom 0 scope.names []).map (·.1)).Nodup)
    (h107 : h₀.get? 107 = none) (hC : CodeHd h₀ 111 107) (hL : L ≠ 107) (hP : s.heap.get? 107 = some (tabObj ps))
    (ret : ∀ r h' tk', ExtB s.heap h' → TabOk h' → P h' r → Q r { s with heap := h', toks := tk' })
    (h : ∀ g L' h₁ tk cells, ExtB s.heap g → g.get? 107 = none → CodeHd g 111 107 → Fr g L' h₁ (bindL (envOfC qual scope L' f cdv).kindOf binds fun _ => none) → News g L' h₁ (cells ++ [(107, tabObj ps)]) →
      CellsAre (bindC (envOfC qual scope L' f cdv).kindOf binds fun _ => none) (cellsFrom (L' + 1) scope.names []) cells → Below A base (env :: outer) g → K.In g → Top p loose mean mg mb g → 107 < L' → s.heap.objs.size ≤ L' →
      wpAny (model prog w) (A.deeper (envOfC qual scope L' f cdv)) (execs body (envOfC qual scope L' f cdv))
        (fun fl s' => DoneB g P s (match fl with | .ret v => v | _ => .none) s') (fun _ _ => False)
        { s with heap := h₁, toks := tk })
    (hco : scope.isCoroutine = false) (hgen : scope.isGenerator = false) (hk : scope.kind = .function) : wpAny (model prog w) A (call (.ref f) args) Q E s := by
  have N : News h₀ L s.heap [(107, tabObj ps)] := fun q hq => by
    rw [List.mem_singleton.mp hq]; exact ⟨hP, fun e => hL e.symm, h107⟩
  obtain ⟨FG, BG, st, _⟩ := groundX (R := fun _ _ => True) B F N hA hf hke
  refine wpAny_call ?_
  refine codeAny_call_function hroom ((X₀.keeps F.keep) _ _ ho) rfl hco hgen rfl (codeRec_of (X₀.keeps F.keep) hcd) (hbind _ _ _ _ ?_)
  refine wpAny_newFunctionEnv_cells hk (kindsX hkind _) fun env' he s' x => ?_
  subst he
  refine ⟨((T.nolimit).keeps F.keep).keeps x.toInCall.keep, codeAny_func ?_⟩
  obtain ⟨h₁, tk, rfl, _⟩ := x.done
  have hk₁ := x.toInCall.keep
  obtain ⟨cells, NC, Y⟩ := Cl.news (h₀ := s.heap) (Nat.le_refl _) fun n c hm => ⟨x.cell n c (lookup_of_mem_nodup (cellsFrom_names scope.names 0 (s.heap.objs.size + 1) [] [] rfl ▸ hnd) hm), x.above n c hm⟩
  have hg : ExtB s.heap (hideAll s.heap [107]) := fun b o hb e => hideAll_get _ e (by simpa using hb)
  have hgn : (hideAll s.heap [107]).get? 107 = none := hideAll_none _ (List.mem_singleton.mpr rfl)
  refine wpAny_mono (h (hideAll s.heap [107]) s.heap.objs.size h₁ tk cells hg hgn (hC.keeps st) ⟨x.toInCall.ns, fun b o e => hk₁ b o (of_hideAll _ e), Nat.le_of_eq (hideAll_size _ _)⟩ (fun q hq => ?_) Y BG (X₀.keeps st) (T.keeps st) (Heap.lt_size hP) (Nat.le_refl _)) (fun fl s' hl => ?_) (fun _ _ x => x.elim)
  · rcases List.mem_append.mp hq with hq | hq
    · refine ⟨(NC q hq).1, (NC q hq).2.1, ?_⟩
      cases z : (hideAll s.heap [107]).get? q.1 with
      | none => rfl
      | some o => have := of_hideAll _ z; rw [(NC q hq).2.2] at this; cases this
    · rw [List.mem_singleton.mp hq]
      exact ⟨hk₁ _ _ hP, Nat.ne_of_lt (Heap.lt_size hP), hgn⟩
  · obtain ⟨h', tk, rfl, e, t, q⟩ := hl
    exact ret _ h' tk (fun b o hb z => e b o (hg b o hb z)) t q
end
end

section
open PySem PySem.W PyProof.Rows PySem.Calls
set_option Elab.async false
set_option maxRecDepth 100000
section
variable {prog : PySem.Program} {w : World} {A : Around} {E : Value → Shared → Prop} {s : Shared}
/-- iter of a list -/
theorem iter_list {d : Addr} {items : Array Value} {Q : Value → Shared → Prop} (hl : s.heap.IsList d items)
    (h : Q (.ref s.heap.objs.size) { s with heap := s.heap.push { cls := .type "list_iterator", data := .fields #[.ref d, .int 0 0] } }) :
    wpAny (model prog w) A (call (.builtin "iter") [.ref d]) Q E s := by
  refine call_function_entry (by decide +kernel) (by decide +kernel) kdk_entry_iter (kdk_args_iter _) ?_
  unfold Builtin.«iter»
  refine wpAny_bind (m := someArgs "iter" 1 2 _) (wpAny_of_eq (a := [Value.ref d]) (by first | rfl | kernel_rfl!) ?_)
  show wpAny _ _ (pyIter (.ref d) >>= _) _ _ _
  refine wpAny_bind (wpAny_pyIter_list hl ?_)
  exact wpAny_pure ⟨_, rfl, h⟩
/-- one step of a list's iterator -/
theorem special_list {it l : Addr} {i : Nat} {items : Array Value} {x : Value} {Q : Option Value → Shared → Prop} (hit : s.heap.IsListIter it l i) (hl : s.heap.IsList l items) (hx : items[i]? = some x)
    (hQ : ∀ h', h'.IsListIter it l (i + 1) → Heap.SameBut it s.heap h' → Q (some x) { s with heap := h' }) :
    wpAny (model prog w) A (callSpecial? (.ref it) (Str.ofString "__next__")) Q E s := by
  obtain ⟨o, ho, hc, hd⟩ := id hit
  obtain ⟨ol, hol, _, nl, hdl⟩ := hl
  refine wpAny_callSpecial?_slot (name := Str.ofString "__next__") hit.typeIs slot_listiter_next
    (wpAny_call_entry slot_listiter_next hit.typeIs entry_listiter_next ?_ (args_listiter_next _))
  show wpAny _ _ (field (.ref it) 0 >>= _) _ _ s
  refine wpAny_bind (wpAny_field ho hd (x := .ref l) rfl ?_)
  show wpAny _ _ (if (Value.ref l == Value.none) = true then _ else _) _ _ s
  rw [if_neg (show ¬ ((Value.ref l == Value.none) = true) from Bool.false_ne_true)]
  show wpAny _ _ (field (.ref it) 1 >>= _) _ _ s
  refine wpAny_bind (wpAny_field ho hd (x := .int i 0) rfl ?_)
  show wpAny _ _ (seqItems? (.ref l) >>= _) _ _ s
  refine wpAny_bind (wpAny_seqItems hol hdl ?_)
  simp only [Int.toNat_natCast, hx]
  refine wpAny_bind (wpAny_setField ho hd (by simp) (wpAny_pure ⟨x, rfl, hQ _ ?_ (Heap.SameBut.update ..)⟩))
  exact ⟨_, Heap.get?_update_self _ ho (Obj.isFreed_of_fields (Obj.data_mapFields hd _)), (Obj.cls_mapFields ..).trans hc, by
    rw [Obj.data_mapFields hd]; simp [rawInt]⟩
theorem next_list {it l : Addr} {i : Nat} {items : Array Value} {x : Value} {Q : Value → Shared → Prop} (hit : s.heap.IsListIter it l i) (hl : s.heap.IsList l items) (hx : items[i]? = some x)
    (hQ : ∀ h', h'.IsListIter it l (i + 1) → Heap.SameBut it s.heap h' → Q x { s with heap := h' }) :
    wpAny (model prog w) A (call (.builtin "next") [.ref it]) Q E s := by
  refine call_function_entry (by decide +kernel) (by decide +kernel) kdk_entry_next (kdk_args_next _) ?_
  unfold Builtin.«next»
  refine wpAny_bind (m := someArgs "next" 1 2 _) (wpAny_of_eq (a := [Value.ref it]) (by first | rfl | kernel_rfl!) ?_)
  dsimp only
  refine wpAny_bind (wpAny_specialOf (name := Str.ofString "__next__") hit.typeIs slot_listiter_next.lookup ?_)
  refine wpAny_ite_split (fun hab => absurd hab (by decide)) (fun _ => ?_)
  refine wpAny_bind (special_list hit hl hx fun h' hit' hs => ?_)
  exact wpAny_pure ⟨_, rfl, hQ h' hit' hs⟩
end

section
variable {prog : PySem.Program} {w : World} {A₀ A : Around} {s : Shared} {base h₀ : Heap} {outer : List Env} {L : Addr} {m : Str → Option Value} {env : Env} {K : Frag}
  {p : PySem.Program} {loose : List Str} {mean : ExcName → Option Value} {mg mb : Str → Option Value}
  {name qual : Str} {params : Arguments} {body : Expr} {scope : Scope} {cl : List (Str × Addr)} {pm ctv : Value} {c' f : Addr} {args : List Value} {binds : List (Str × Value)}
  {P : Heap → Value → Prop} {Q E : Value → Shared → Prop}
/-- a lambda that stands in the heap, called -/
theorem enter_lam (B : Below A₀ base outer h₀) (F : Fr h₀ L s.heap m) (X₀ : K.In h₀) (T : Top p loose mean mg mb h₀) (hA : A.frames = some (env :: outer)) (hf : env.frame = some L) (hke : env.scope.kind = .function)
    (ho : s.heap.get? f = some (kla_obj name qual params body scope cl pm c' ctv)) (hcd : s.heap.CodeRec (.ref c') qual) (hroom : A.depth < recursionLimit)
    (hbind : bindArgs (kla_fn name qual params body scope cl pm (.ref c') ctv) ⟨args, []⟩ = pure binds) (hloc : ∀ y ∈ binds, scope.names.lookup y.1 = some .local)
    (ret : ∀ r h' tk', Ext s.heap h' → P h' r → Q r { s with heap := h', toks := tk' })
    (h : ∀ L' h₁, Fr s.heap L' h₁ (fun y => binds.reverse.lookup y) → News s.heap L' h₁ [] → Below A base (env :: outer) s.heap → K.In s.heap → Top p loose mean mg mb s.heap →
      wpAny (model prog w) (A.deeper (envX qual scope L' f (.ref c') cl)) (eval body (envX qual scope L' f (.ref c') cl)) (Done P s) (fun _ _ => False)
        { s with heap := h₁, toks := s.toks + binds.length })
    (hco : scope.isCoroutine = false) (hgen : scope.isGenerator = false) (hk : scope.kind = .function)
    (hcell : ∀ x ∈ scope.names, x.2 ≠ .cell) : wpAny (model prog w) A (call (.ref f) args) Q E s := by
  obtain ⟨FG, BG, st, _⟩ := groundX (R := fun _ _ => True) B F News.nil hA hf hke
  refine wpAny_call ?_
  refine kla_callFunE hroom ho rfl hco hgen rfl hcd ?_
  rw [hbind]
  refine wpAny_pure (wpAny_newFunctionEnv hcell hloc (fun h₁ hns hsb => ⟨((T.nolimit).keeps F.keep).fresh _ hsb, ?_⟩) hk)
  show codeAny _ _ (.expr body (envX qual scope s.heap.objs.size f (.ref c') cl)) _ _
  have hk₁ : ∀ b o, s.heap.get? b = some o → h₁.get? b = some o := fun b o e => hsb.extBut b o (Nat.ne_of_lt (Heap.lt_size e)) (Heap.get?_push_of_some _ e)
  refine kla_codeExpr (wpAny_mono (h s.heap.objs.size h₁ ⟨hns, hk₁, Nat.le_refl _⟩ News.nil BG (X₀.keeps F.keep) (T.keeps F.keep)) (fun v s' hl => ?_) fun _ _ x => x.elim)
  obtain ⟨h', tk, rfl, e, q⟩ := hl
  exact ret _ h' tk e q
/-- a free name whose cell stands in the ground -/
theorem free_ground {M : Model} {cn : Str} {cs : Scope} {a c : Addr} {ccd : Value} {x : Str} {pos : Pos} {v : Value} {o : Obj} (F : Fr h₀ L s.heap m) (ho : h₀.get? c = some o) (hd : o.data = .cell (some v)) (hc : cl.lookup x = some c) (h : Q v s)
    (hk : cs.kind = .function := by rfl) (hx : (envX cn cs L a ccd cl).kindOf x = some .free := by rfl) (hb : (x == ("__debug__" : Str)) = false := by decide) (hn : (x == ("__classdict__" : Str)) = false := by decide) :
    wpAny M A (eval (.Name x pos) (envX cn cs L a ccd cl)) Q E s := wpAny_Name (wpAny_loadName_free hk hx hc ⟨o, F.keep _ _ ho, hd⟩ h hn) hb
end

section
variable {prog : PySem.Program} {w : World} {A : Around} {s : Shared} {env : Env}
/-- the next turn is due -/
def Again (n : Nat) (I : Nat → Shared → Prop) (s : Shared) : Prop := ∃ m, m < n ∧ I m s
/-- a for that raises nothing, by what holds between its turns -/
theorem for_any {target iter : Expr} {body orelse : List Stmt} {pos : Pos} {Q : Flow → Shared → Prop}
    (h : wpAny (model prog w) A (eval iter env) (fun x s₁ => wpAny (model prog w) A (pyIter x) (fun it s₂ => ∃ (I : Nat → Shared → Prop) (n : Nat), I n s₂ ∧ ∀ n s, I n s →
      wpAny (model prog w) A (pyNext it) (fun r s₁ => match r with
      | none => wpAny (model prog w) A (execs orelse env) Q (fun _ _ => False) s₁
      | some v => wpAny (model prog w) A (letOwnedTupleGo target it v) (fun _ s₁' => wpAny (model prog w) A (assign target env v) (fun _ s₂ => wpAny (model prog w) A (execs body env) (fun f s₃ => match f with
            | .next | .cont => Again n I s₃
            | .brk => Q .next s₃
            | .ret v => Q (.ret v) s₃) (fun _ _ => False) s₂) (fun _ _ => False) s₁') (fun _ _ => False) s₁) (fun _ _ => False) s) (fun _ _ => False) s₁) (fun _ _ => False) s)
    (hs : ∀ x, foldedSetIterable iter env x = pure x := by intro _; rfl) :
    wpAny (model prog w) A (exec (.For target iter body orelse pos) env) Q (fun _ _ => False) s := by
  refine wpAny_For (wpAny_mono h (fun x s₁ h₁ => wpAny_mono h₁ (fun it s₂ h₂ => ?_) fun _ _ e => e.elim) fun _ _ e => e.elim) hs
  obtain ⟨I, n, h0, turn⟩ := h₂
  refine codeAny_forLoop_any I (fun n s hI => wpAny_mono (turn n s hI) (fun r s₁ h₁ => ?_) fun _ _ e => e.elim) n h0
  cases r with
  | none => exact wpAny_mono h₁ (fun _ _ q => q) fun _ _ e => e.elim
  | some v => exact wpAny_mono h₁ (fun _ s₁' h₁' => wpAny_mono h₁' (fun _ s₂ h₂ => wpAny_mono h₂ (fun f s₃ h₃ => by cases f <;> exact h₃) fun _ _ e => e.elim) fun _ _ e => e.elim) fun _ _ e => e.elim
end
end

local macro_rules | `(tactic| k_units) => `(tactic| first | exact Nat.le_of_ble_eq_true rfl | ktr_units)
local macro_rules | `(tactic| ke_room) => `(tactic| first | exact Nat.le_of_ble_eq_true rfl | ktr_units)
local macro_rules | `(tactic| units_room) => `(tactic| first | exact Nat.le_of_ble_eq_true rfl | ktr_units)
local macro_rules | `(tactic| k_room) => `(tactic| first | ((try simp only [depth_under_make, depth_under_kw, depth_in1, depth_deeper, depth_caller]); decide) | ktr_room)

section
open PySem PySem.W PyProof.Rows
set_option Elab.async false
set_option maxRecDepth 100000

local macro_rules | `(tactic| walk_at "binaryOp Mult int int") => `(tactic| (k_here; (with_reducible show wpAny _ _ (binaryOp Operator.Mult (Value.int (List.getD _ _ _) _) (Value.int _ _)) _ _ _); (refine PyProof.Rows.mul_int ?_ (mul_small_left (by assumption)))))
local macro_rules | `(tactic| walk_at "eval ListComp") => `(tactic| refine hold_mk ?_)
local macro_rules | `(tactic| walk_at "CompSrc") => `(tactic| refine hold_mk ?_)
local macro_rules | `(tactic| walk_at "CompEnd") => `(tactic| refine hold_mk ?_)
set_option maxHeartbeats 4000000 in
theorem plain_con (w : World) (p : PySem.Program) (loose : List Str) (mean : ExcName → Option Value) (mg mb : Str → Option Value) (n : Int) (t : Tok) (l : Addr) (vs : List Value) (a0 a1 a2 a3 a4 a5 : Int) (s : Shared) (hl : s.heap.IsList l vs.toArray) (hi : IntsAre vs [a0, a1, a2, a3, a4, a5]) (hb : Small [a0, a1, a2, a3, a4, a5]) (hn : 0 ≤ n ∧ n < 65536) :
    Pure 1 w p loose mean mg mb 117 [Value.int n t, Value.ref l] s (fun h v => ∃ t, v = Value.int (n - n.fmod 4096 + ((rangeKs 0 6).map fun k => [a0, a1, a2, a3, a4, a5].getD k.toNat 0 * n.fmod 4096 ^ k.toNat).sum.fmod 4096) t) := by
  w_top off
  unfold Pure
  k_fill
  intro dp un gd cn cs a ccd cl outer A₀ base h₀ L m Q E kCallerB kCallerF kCallerX kCallerT hk hd hu kRet
  obtain ⟨g, gens, drawn, toks, os⟩ := s
  dsimp only at kCallerF kRet hl ⊢
  refine' enter_pureC (binds := [(Str.ofString "mode", Value.int n t), (Str.ofString "weights", Value.ref l)]) ?k1 ?k2 ?k3 ?k5 ?kA ?kF ?kK ?k6 ?k7 ?k8 ?k9 ?kB ?kD ?kR ?_ ?c2 ?c3 ?c4
  ( (case kA => exact rfl); (case kF => exact rfl); (case kK => assumption); (case k1 => k_asm); (case k2 => k_asm); (case k3 => k_asm); (case k5 => k_asm); (case k6 => k_is); (case k7 => k_is); (case k8 => ktr_room); (case k9 => exact BindsTo.of_eq rfl); (case kB => exact rfl); (case kD => decide +kernel); (case c2 => exact rfl); (case c3 => exact rfl); (case c4 => exact rfl); (case kR => assumption))
  intro L' h' tk' cells' F' N' Y' B' X' T'
  k_cells Y'
  dsimp only at F' N' B' X' T' ⊢
  clear kCallerB kCallerF kCallerX kCallerT kRet
  k_unmd
  k_fold
  have hq1 : 0 ≤ n.fmod 4096 := fmod_lo (by decide)
  have hq2 : n.fmod 4096 < 4096 := fmod_hi (by decide)
  k_steps
  unfold Hold
  (rename Fr _ _ _ _ => F1)
  refine LCg.ListComp_U (F₀ := F1) (by rfl) (by decide) (by rfl) (by decide) (by rfl) ?_
  k_steps
  unfold Hold
  refine LCg.CompSrc.range (n := 6) (by rfl) (by k_asm) (by k_asm) (by assumption) (by decide) (by rfl) (by decide) ?_
  intro g'
  refine comp_fixD (fun i v => ∃ t, v = Value.int ([a0, a1, a2, a3, a4, a5].getD i 0 * n.fmod 4096 ^ i) t) ?_ ?_
  · intro i ys v I oI C oC D m₂ h tk E' hi6 hv hC hx9 F9 N9 off ne
    obtain ⟨t9, rfl⟩ := hv
    clear ne
    k_steps
    unfold Hold
    refine LCg.CompEnd.intro (by assumption) (by assumption) _ (fun q hq => hq) off trivial ⟨rfl, _, congrArg (fun x => Value.int x _) ?_⟩
    rw [show (0 + (i : Int)).toNat = i by omega]
  · intro ys hyl hyf
    have hI9 : IntsAre ys ((rangeKs 0 6).map fun k => [a0, a1, a2, a3, a4, a5].getD k.toNat 0 * n.fmod 4096 ^ k.toNat) := ints_range 6 (fun i => [a0, a1, a2, a3, a4, a5].getD i 0 * n.fmod 4096 ^ i) ys hyl hyf
    k_steps
    all_goals (try dsimp only)
    exact Done.mk (by assumption) ⟨_, rfl⟩
end

section
open PySem PySem.W PyProof.Rows
set_option Elab.async false
set_option maxRecDepth 100000

noncomputable def mixB (a1 a2 a3 a4 a5 : Int) : Bool := decide (a1 % 2 = 1) && (decide ((a2 + a4) % 2 = 0) && decide ((a3 + a5) % 2 = 0))
noncomputable def circB (a0 a1 a2 a3 a4 a5 : Int) : Bool := decide (a0 % 2 = 1) && (decide (a1 % 2 = 1) && (decide ((a3 + a5 - 2 * a2) % 4 = 0) && decide ((a4 - a1 - a2 + 1) % 4 = 0)))
theorem fm2 (x : Int) : x.fmod 2 = x % 2 := Int.fmod_eq_emod_of_nonneg _ (by decide)
theorem fm4 (x : Int) : x.fmod 4 = x % 4 := Int.fmod_eq_emod_of_nonneg _ (by decide)
theorem mix_end (a1 a2 a3 a4 a5 : Int) : decide ([a1.fmod 2, (a2 + a4).fmod 2, (a3 + a5).fmod 2] = [1, 0, 0]) = mixB a1 a2 a3 a4 a5 := by
  simp [mixB, fm2, Bool.decide_and]
theorem circ_1 {a0 a1 a2 a3 a4 a5 : Int} (h : a0.fmod 2 = 0) : false = circB a0 a1 a2 a3 a4 a5 := by
  rw [fm2] at h; simp [circB, h]
theorem circ_2 {a0 a1 a2 a3 a4 a5 : Int} (h : a1.fmod 2 = 0) : false = circB a0 a1 a2 a3 a4 a5 := by
  rw [fm2] at h; simp [circB, h]
theorem circ_3 {a0 a1 a2 a3 a4 a5 : Int} (h0 : a0.fmod 2 ≠ 0) (h1 : a1.fmod 2 ≠ 0) (h : (a3 + a5 - 2 * a2).fmod 4 = 0) : ((a4 - a1 - a2 + 1).fmod 4 == 0) = circB a0 a1 a2 a3 a4 a5 := by
  rw [fm2] at h0 h1; rw [fm4] at h ⊢
  have e0 : a0 % 2 = 1 := by omega
  have e1 : a1 % 2 = 1 := by omega
  simp only [circB, e0, e1, h, decide_true, Bool.true_and]; rfl
theorem circ_4 {a0 a1 a2 a3 a4 a5 : Int} (h : (a3 + a5 - 2 * a2).fmod 4 ≠ 0) : ((a3 + a5 - 2 * a2).fmod 4 == 0) = circB a0 a1 a2 a3 a4 a5 := by
  rw [fm4] at h ⊢
  simp [circB, h]
set_option maxHeartbeats 4000000 in
theorem mixes_con (w : World) (p : PySem.Program) (loose : List Str) (mean : ExcName → Option Value) (mg mb : Str → Option Value) (l : Addr) (vs : List Value) (a0 a1 a2 a3 a4 a5 : Int) (s : Shared) (hl : s.heap.IsList l vs.toArray) (hi : IntsAre vs [a0, a1, a2, a3, a4, a5]) :
    Pure 1 w p loose mean mg mb 150 [Value.ref l] s (fun h v => v = Value.bool (mixB a1 a2 a3 a4 a5)) := by
  w_top off
  unfold Pure
  k_fill
  intro dp un gd cn cs a ccd cl outer A₀ base h₀ L m Q E kCallerB kCallerF kCallerX kCallerT hk hd hu kRet
  obtain ⟨g, gens, drawn, toks, os⟩ := s
  dsimp only at kCallerF kRet hl ⊢
  refine' enter_pure (binds := [(Str.ofString "weights", Value.ref l)]) ?k1 ?k2 ?k3 ?k5 ?kA ?kF ?kK ?k6 ?k7 ?k8 ?k9 ?kB ?kR ?_ ?c2 ?c3 ?c4 ?c5
  ( (case kA => exact rfl); (case kF => exact rfl); (case kK => assumption); (case k1 => k_asm); (case k2 => k_asm); (case k3 => k_asm); (case k5 => k_asm); (case k6 => k_is); (case k7 => k_is); (case k8 => ktr_room); (case k9 => exact BindsTo.of_eq rfl); (case c5 => decide); (case kB => exact locs rfl); (case c2 => exact rfl); (case c3 => exact rfl); (case c4 => exact rfl); (case kR => assumption))
  intro L' h' F' N' B' X' T'
  dsimp only at F' N' B' X' T' ⊢
  clear kCallerB kCallerF kCallerX kCallerT kRet
  k_unmd
  k_fold
  k_steps
  exact Done.mk (by assumption) (congrArg Value.bool (mix_end a1 a2 a3 a4 a5))
set_option maxHeartbeats 4000000 in
theorem circles_con (w : World) (p : PySem.Program) (loose : List Str) (mean : ExcName → Option Value) (mg mb : Str → Option Value) (l : Addr) (vs : List Value) (a0 a1 a2 a3 a4 a5 : Int) (s : Shared) (hl : s.heap.IsList l vs.toArray) (hi : IntsAre vs [a0, a1, a2, a3, a4, a5]) :
    Pure 1 w p loose mean mg mb 157 [Value.ref l] s (fun h v => v = Value.bool (circB a0 a1 a2 a3 a4 a5)) := by
  w_top off
  unfold Pure
  k_fill
  intro dp un gd cn cs a ccd cl outer A₀ base h₀ L m Q E kCallerB kCallerF kCallerX kCallerT hk hd hu kRet
  obtain ⟨g, gens, drawn, toks, os⟩ := s
  dsimp only at kCallerF kRet hl ⊢
  refine' enter_pure (binds := [(Str.ofString "weights", Value.ref l)]) ?k1 ?k2 ?k3 ?k5 ?kA ?kF ?kK ?k6 ?k7 ?k8 ?k9 ?kB ?kR ?_ ?c2 ?c3 ?c4 ?c5
  ( (case kA => exact rfl); (case kF => exact rfl); (case kK => assumption); (case k1 => k_asm); (case k2 => k_asm); (case k3 => k_asm); (case k5 => k_asm); (case k6 => k_is); (case k7 => k_is); (case k8 => ktr_room); (case k9 => exact BindsTo.of_eq rfl); (case c5 => decide); (case kB => exact locs rfl); (case c2 => exact rfl); (case c3 => exact rfl); (case c4 => exact rfl); (case kR => assumption))
  intro L' h' F' N' B' X' T'
  dsimp only at F' N' B' X' T' ⊢
  clear kCallerB kCallerF kCallerX kCallerT kRet
  k_unmd
  k_fold
  k_steps
  all_goals (try dsimp only)
  all_goals (try k_unfold)
  all_goals (try dsimp only)
  all_goals (refine Done.mk (by assumption) (congrArg Value.bool ?_))
  · exact circ_1 (by assumption)
  · exact circ_2 (by assumption)
  · exact circ_3 (by assumption) (by assumption) (by assumption)
  · exact circ_4 (by assumption)
end

section
open PySem PySem.W PyProof.Rows
set_option Elab.async false
set_option maxRecDepth 100000

local macro_rules | `(tactic| walk_at "storeName") => `(tactic| (dsimp only; walk_at "storeName"))
local macro_rules | `(tactic| walk_at "inplaceOp Add str str") => `(tactic| (dsimp only; walk_at "inplaceOp Add str str"))
set_option maxHeartbeats 16000000 in
theorem row_con (w : World) (p : PySem.Program) (loose : List Str) (mean : ExcName → Option Value) (mg mb : Str → Option Value) (n : Int) (t : Tok) (s : Shared) (hn : 0 ≤ n ∧ n < 65536) :
    Pure 1 w p loose mean mg mb 124 [Value.int n t] s (fun h v => ∃ t, v = Value.str (rowS n) t) := by
  w_top off
  unfold Pure
  k_fill
  intro dp un gd cn cs a ccd cl outer A₀ base h₀ L m Q E kCallerB kCallerF kCallerX kCallerT hk hd hu kRet
  obtain ⟨g, gens, drawn, toks, os⟩ := s
  dsimp only at kCallerF kRet  ⊢
  refine' enter_pure (binds := [(Str.ofString "mode", Value.int n t)]) ?k1 ?k2 ?k3 ?k5 ?kA ?kF ?kK ?k6 ?k7 ?k8 ?k9 ?kB ?kR ?_ ?c2 ?c3 ?c4 ?c5
  ( (case kA => exact rfl); (case kF => exact rfl); (case kK => assumption); (case k1 => k_asm); (case k2 => k_asm); (case k3 => k_asm); (case k5 => k_asm); (case k6 => k_is); (case k7 => k_is); (case k8 => ktr_room); (case k9 => exact BindsTo.of_eq rfl); (case c5 => decide); (case kB => exact locs rfl); (case c2 => exact rfl); (case c3 => exact rfl); (case c4 => exact rfl); (case kR => assumption))
  intro L' h' F' N' B' X' T'
  dsimp only at F' N' B' X' T' ⊢
  clear kCallerB kCallerF kCallerX kCallerT kRet
  k_unmd
  k_fold
  k_steps
  all_goals (try dsimp only)
  all_goals (try k_unfold)
  all_goals (try dsimp only)
  exact Done.mk (by assumption) ⟨_, congrArg (fun x => Value.str x _) (row_eq hn)⟩
end

section
open PySem PySem.W PyProof.Rows
set_option Elab.async false
set_option maxRecDepth 100000

local macro_rules | `(tactic| walk_at "exec Assign cons ListComp") => `(tactic| refine hold_mk ?_)
local macro_rules | `(tactic| walk_at "CompSrc") => `(tactic| refine hold_mk ?_)
local macro_rules | `(tactic| walk_at "binaryOp Add ref ref") => `(tactic| (refine hold_mk ?_))
set_option maxHeartbeats 4000000 in
theorem rights_con (w : World) (p : PySem.Program) (loose : List Str) (mean : ExcName → Option Value) (mg mb : Str → Option Value) (y : Int) (t : Tok) (s : Shared)  :
    Pure 1 w p loose mean mg mb 129 [Value.str (rowS y) t] s (fun h v => ∃ lv, v = Value.ref lv ∧ s.heap.get? lv = none ∧ h.IsList lv (bitsV y).toArray) := by
  w_top off
  unfold Pure
  k_fill
  intro dp un gd cn cs a ccd cl outer A₀ base h₀ L m Q E kCallerB kCallerF kCallerX kCallerT hk hd hu kRet
  obtain ⟨g, gens, drawn, toks, os⟩ := s
  dsimp only at kCallerF kRet  ⊢
  refine' enter_pureC (binds := [(Str.ofString "row", Value.str (rowS y) t)]) ?k1 ?k2 ?k3 ?k5 ?kA ?kF ?kK ?k6 ?k7 ?k8 ?k9 ?kB ?kD ?kR ?_ ?c2 ?c3 ?c4
  ( (case kA => exact rfl); (case kF => exact rfl); (case kK => assumption); (case k1 => k_asm); (case k2 => k_asm); (case k3 => k_asm); (case k5 => k_asm); (case k6 => k_is); (case k7 => k_is); (case k8 => ktr_room); (case k9 => exact BindsTo.of_eq rfl); (case kB => exact rfl); (case kD => decide +kernel); (case c2 => exact rfl); (case c3 => exact rfl); (case c4 => exact rfl); (case kR => assumption))
  intro L' h' tk' cells' F' N' Y' B' X' T'
  k_cells Y'
  dsimp only at F' N' B' X' T' ⊢
  clear kCallerB kCallerF kCallerX kCallerT kRet
  k_unmd
  k_fold
  have hx : (rowS y).length = 10 := rfl
  k_steps
  unfold Hold
  refine LCg.Assign_ListComp_U (F₀ := by k_asm) (by rfl) (by with_unfolding_all rfl) (by rfl) (by decide) (by rfl) (by decide) (by rfl) (by rfl) (by rfl) ?_
  k_steps
  unfold Hold
  refine LCg.CompSrc.range (n := 9) (by rfl) (by k_asm) (by k_asm) (by assumption) (by decide) (by rfl) (by decide) ?_
  intro g'
  refine comp_fix (fun i v => v = Value.bool (bitB y i)) ?_ ?_
  · intro i ys v I oI C oC D m₂ h tk E' hi hv hC hx9 F9 N9 off ne
    obtain ⟨t9, rfl⟩ := hv
    simp only [LCg.Off3, and_true] at off
    k_steps
    exact congrArg Value.bool (rights_plain y hi)
  · intro ys hl9 hf9
    k_steps
    unfold Hold
    refine PyProof.Rows.add_lists (vs := ys) (ws := [.bool _, .bool _, .bool _]) (by k_asm) (by k_asm) (by exact ⟨_, News.get (by assumption) (by k_mem), rfl, _, rfl⟩) (by exact ⟨_, News.get (by assumption) (by k_mem), rfl, _, rfl⟩) ?_ (by rw [hl9]; exact Nat.le_of_ble_eq_true rfl)
    intro h9 F9 N9
    dsimp only
    k_unfold
    refine Done.mk F9 ⟨_, rfl, News.fresh N9 (.head _), ?_⟩
    rw [← bitsV_of hl9 hf9, ← rights_9, ← rights_10, ← rights_11]
    exact ⟨_, News.get N9 (.head _), rfl, _, rfl⟩
end

section
open PySem PySem.W PyProof.Rows
set_option Elab.async false
set_option maxRecDepth 100000

local macro_rules | `(tactic| walk_at "exec While Compare cons nil") => `(tactic| refine hold_mk ?_)
local macro_rules | `(tactic| walk_at "subscriptTail") => `(tactic| (k_here; (with_reducible show wpAny _ _ (subscriptTail _ _ (Value.ref _) (Value.int (-1) _)) _ _ _); (refine last_item (by is_list) (by assumption) (by assumption) ?_); intro tz))
noncomputable abbrev ringM (l rl : Addr) : Str → Option Value := fun y => if y = Str.ofString "ring" then some (Value.ref rl) else List.lookup y [(Str.ofString "others", Value.ref l)].reverse
set_option maxHeartbeats 4000000 in
theorem ring_con (w : World) (p : PySem.Program) (loose : List Str) (mean : ExcName → Option Value) (mg mb : Str → Option Value) (l : Addr) (vs : List Value) (b : List Int) (s : Shared) (hl : s.heap.IsList l vs.toArray) (hi : IntsAre vs b) (hb : b.length = 8) (hb8 : ∀ v ∈ b, 0 ≤ v ∧ v < 8) :
    Pure 1 w p loose mean mg mb 143 [Value.ref l] s (fun h v => ∃ t, v = Value.int (ringLen b) t) := by
  w_top off
  unfold Pure
  k_fill
  intro dp un gd cn cs a ccd cl outer A₀ base h₀ L m Q E kCallerB kCallerF kCallerX kCallerT hk hd hu kRet
  obtain ⟨g, gens, drawn, toks, os⟩ := s
  dsimp only at kCallerF kRet hl ⊢
  refine' enter_pure (binds := [(Str.ofString "others", Value.ref l)]) ?k1 ?k2 ?k3 ?k5 ?kA ?kF ?kK ?k6 ?k7 ?k8 ?k9 ?kB ?kR ?_ ?c2 ?c3 ?c4 ?c5
  ( (case kA => exact rfl); (case kF => exact rfl); (case kK => assumption); (case k1 => k_asm); (case k2 => k_asm); (case k3 => k_asm); (case k5 => k_asm); (case k6 => k_is); (case k7 => k_is); (case k8 => ktr_room); (case k9 => exact BindsTo.of_eq rfl); (case c5 => decide); (case kB => exact locs rfl); (case c2 => exact rfl); (case c3 => exact rfl); (case c4 => exact rfl); (case kR => assumption))
  intro L' h' F' N' B' X' T'
  dsimp only at F' N' B' X' T' ⊢
  clear kCallerB kCallerF kCallerX kCallerT kRet
  k_unmd
  k_fold
  k_steps
  unfold Hold
  rename_i rl h0 tr h1 F1 N1
  refine While_inv (fun n m₁ news₁ => ∃ (vs : List Value) (k : Nat) (rs : List Int), m₁ = ringM l rl ∧ news₁ = [(rl, ({ cls := .type "list", data := .seq vs.toArray k } : Obj))] ∧ IntsAre vs rs ∧ RingIs b rs ∧ n = miss rs) F1 N1 ⟨_, _, [0], rfl, rfl, .cons _ _ .nil, ring_start b, rfl⟩ ?_ PassesOwn.never
  rintro n m₁ news₁ h₁ tk₁ F₁ N₁ ⟨vs, k, rs, rfl, rfl, hrs, hR, rfl⟩
  have hne := hR.1
  have hlast : 0 ≤ rs.getLastD 0 ∧ rs.getLastD 0 < 8 := by
    cases rs with
    | nil => exact absurd rfl hne
    | cons a r => rw [List.getLastD_cons]; exact hR.2.1 _ (by rw [← List.getLast_eq_getLastD (List.cons_ne_nil _ _)]; exact List.getLast_mem _)
  obtain ⟨hla, hlb⟩ := hlast
  have hlr : rs.length ≤ 9 := ring_len hR
  have hlv : vs.length ≤ 9 := by rw [hrs.length]; exact hlr
  have hnx : 0 ≤ nxtR b rs ∧ nxtR b rs < 8 := by
    have hlt : (rs.getLastD 0).toNat < b.length := by omega
    show 0 ≤ b.getD (rs.getLastD 0).toNat 0 ∧ b.getD (rs.getLastD 0).toNat 0 < 8
    rw [List.getD_eq_getElem?_getD, List.getElem?_eq_getElem hlt]
    exact hb8 _ (List.getElem_mem _)
  dsimp only
  k_steps
  · rename_i hany
    have hin : nxtR b rs ∈ rs := by
      obtain ⟨x, hx, e⟩ := List.any_eq_true.mp hany
      have : x = nxtR b rs := eq_of_beq e
      exact this ▸ hx
    refine Done.mk (by assumption) ⟨_, congrArg (fun x => Value.int x _) ?_⟩
    rw [← ring_end hR hin]
  · rename_i hany tk8 tz8 t8 h8 F8 N8
    have hnin : nxtR b rs ∉ rs := fun hm => by
      have : rs.any (fun x => x == nxtR b rs) = true := List.any_eq_true.mpr ⟨_, hm, by simp⟩
      exact absurd (this.symm.trans hany) (by decide)
    obtain ⟨hR', hm'⟩ := ring_step hR hnx hnin
    refine ⟨rfl, _, _, _, _, _, rfl, F8, N8, hm', vs ++ [Value.int (nxtR b rs) t8], k + 1, rs ++ [nxtR b rs], rfl, ?_, IntsAre.append hrs (.cons _ _ .nil), hR', rfl⟩
    rw [← List.push_toArray]
    rfl
end

section
open PySem PySem.W PyProof.Rows
set_option Elab.async false
set_option maxRecDepth 100000

local macro_rules | `(tactic| walk_at "eval ListComp") => `(tactic| refine hold_lcAdd ?_)
local macro_rules | `(tactic| walk_at "CompSrc") => `(tactic| ((rename Mark => hMk); refine hold_mk ?_))
local macro_rules | `(tactic| walk_at "subscriptTail Name Slice ref ref") => `(tactic| ((rename Mark => hMk); refine hold_mk ?_))
local macro_rules | `(tactic| walk_at "CompEnd") => `(tactic| ((rename Mark => hMk); refine hold_mk ?_))
local macro_rules | `(tactic| walk_at "storeName") => `(tactic| (dsimp only; walk_at "storeName"))
set_option maxHeartbeats 4000000 in
theorem seven_con (w : World) (p : PySem.Program) (loose : List Str) (mean : ExcName → Option Value) (mg mb : Str → Option Value) (l : Addr) (vs : List Value) (ns : List Int) (s : Shared) (hl : s.heap.IsList l vs.toArray) (hi : IntsAre vs ns) (hlen : ns.length ≤ 63) :
    Pure 1 w p loose mean mg mb 167 [Value.ref l] s (fun h v => ∃ l' ws ms, v = Value.ref l' ∧ s.heap.get? l' = none ∧ h.IsList l' ws.toArray ∧ IntsAre ws ms ∧ ms.length = 7) := by
  w_top off
  unfold Pure
  k_fill
  intro dp un gd cn cs a ccd cl outer A₀ base h₀ L m Q E kCallerB kCallerF kCallerX kCallerT hk hd hu kRet
  obtain ⟨g, gens, drawn, toks, os⟩ := s
  dsimp only at kCallerF kRet hl ⊢
  refine' enter_pureC (binds := [(Str.ofString "script", Value.ref l)]) ?k1 ?k2 ?k3 ?k5 ?kA ?kF ?kK ?k6 ?k7 ?k8 ?k9 ?kB ?kD ?kR ?_ ?c2 ?c3 ?c4
  ( (case kA => exact rfl); (case kF => exact rfl); (case kK => assumption); (case k1 => k_asm); (case k2 => k_asm); (case k3 => k_asm); (case k5 => k_asm); (case k6 => k_is); (case k7 => k_is); (case k8 => ktr_room); (case k9 => exact BindsTo.of_eq rfl); (case kB => exact rfl); (case kD => decide +kernel); (case c2 => exact rfl); (case c3 => exact rfl); (case c4 => exact rfl); (case kR => assumption))
  intro L' h' tk' cells' F' N' Y' B' X' T'
  k_cells Y'
  dsimp only at F' N' B' X' T' ⊢
  clear kCallerB kCallerF kCallerX kCallerT kRet
  k_unmd
  k_fold
  k_steps
  unfold Hold
  have hMark : Mark := Mark.mk
  (rename IntsAre _ (List.map _ _) => hys0)
  have hys1 := hys0.length
  simp only [List.length_map, List.length_take] at hys1
  refine LCg.ListComp_U (F₀ := by k_asm) (by rfl) (by decide) (by rfl) (by decide) (by rfl) ?_
  k_steps
  unfold Hold
  refine LCg.CompSrc.range (n := 7) (by rfl) (by k_asm) (by k_asm) (by assumption) (by decide) (by rfl) (by decide) ?_
  intro g'
  refine comp_fixD (fun i v => ∃ n t, v = Value.int n t) ?_ ?_
  · intro i zs v I oI C oC D m₂ h tk E' hi hv hC hx9 F9 N9 off ne
    obtain ⟨t9, rfl⟩ := hv
    have off0 := off
    simp only [LCg.Off3, and_true] at off
    k_steps
    unfold Hold
    dsimp only
    have hp := IntsAre.pick hys0 (some (0 + (i : Int))) none (some 7)
    refine slice_list3 (s := { heap := h, gens := gens, drawn := drawn, toks := _, os := os }) (lo := some (0 + (i : Int))) (hi := none) (st := some 7) F9 N9 (by exact ⟨_, News.get N9 (by k_mem), rfl, _, rfl⟩) (.int _ _) .none (.int _ _) (by decide) ?_ (hsz := by rw [List.size_toArray, hys1, sizeLine]; omega)
    intro h2 F2 N2
    dsimp only at N2 ⊢
    rw [show ∀ x : Array Value, Data.seq x = Data.seq x.toList.toArray from fun x => by rw [Array.toArray_toList]] at N2
    k_steps
    unfold Hold
    refine LCg.CompEnd.intro (by assumption) (by assumption) _ ?_ off0 trivial ⟨rfl, _, _, rfl⟩
    intro q hq
    exact List.mem_cons_of_mem _ hq
  · intro ys hl9 hf9
    k_steps
    rename_i h9 _ F9 N9 _
    obtain ⟨ms, hms⟩ := ints_of_all ys hf9
    exact Done.mk F9 ⟨_, ys, ms, rfl, News.fresh N9 (.head _), ⟨_, News.get N9 (.head _), rfl, _, rfl⟩, hms, hms.length ▸ hl9⟩
end

section
open PySem PySem.W PyProof.Rows
set_option Elab.async false
set_option maxRecDepth 100000

theorem fnat_keep {g h : Heap} {L f : Addr} {m : Str → Option Value} (F : Fr g L h m) (x : FnAt f g) : FnAt f h := by
  obtain ⟨oc, od, fd, sl, e⟩ := x
  exact ⟨oc, od, fd, sl, F.keep _ _ e⟩
theorem listiter_obj {h : Heap} {I l : Addr} {i : Nat} (x : h.IsListIter I l i) : ∃ o, h.get? I = some o ∧ o.cls = .type "list_iterator" ∧ o.data = .fields #[.ref l, .int i 0] := x
noncomputable abbrev redM (f l : Addr) (I : Addr) (val : Value) (el : Option Value) : Str → Option Value := fun y => if y = Str.ofString "value" then some val else if y = Str.ofString "element" then el else if y = Str.ofString "it" then some (Value.ref I) else
  List.lookup y [(Str.ofString "function", Value.ref f), (Str.ofString "sequence", Value.ref l), (Str.ofString "initial", Value.ref 15)].reverse
theorem redM_start (f l I : Addr) (val : Value) : (fun y => if y = Str.ofString "value" then some val else if y = Str.ofString "it" then some (Value.ref I) else
    List.lookup y [(Str.ofString "function", Value.ref f), (Str.ofString "sequence", Value.ref l), (Str.ofString "initial", Value.ref 15)].reverse) = redM f l I val none := by
  funext y
  by_cases h1 : y = Str.ofString "value"
  · simp only [redM, if_pos h1]
  · by_cases h2 : y = Str.ofString "element"
    · subst h2
      simp only [redM, if_neg h1, if_true]
      rw [if_neg (by decide)]
      rfl
    · simp only [redM, if_neg h1, if_neg h2]
theorem redM_next (f l I : Addr) (v1 v2 e : Value) (el : Option Value) : (fun y => if y = Str.ofString "value" then some v2 else (fun y => if y = Str.ofString "element" then some e else redM f l I v1 el y) y) = redM f l I v2 (some e) := by
  funext y
  by_cases h1 : y = Str.ofString "value"
  · simp only [redM, if_pos h1]
  · by_cases h2 : y = Str.ofString "element"
    · subst h2
      simp only [redM, if_neg h1, if_true]
    · simp only [redM, if_neg h1, if_neg h2]
local macro_rules | `(tactic| walk_at "storeName") => `(tactic| (dsimp only; walk_at "storeName"))
local macro_rules | `(tactic| walk_at "call builtin:iter") => `(tactic| (refine hold_mk ?_))
local macro_rules | `(tactic| walk_at "call builtin:next") => `(tactic| (refine hold_mk ?_))
local macro_rules | `(tactic| walk_at "exec For Name Name cons nil") => `(tactic| (refine hold_mk ?_))
local macro_rules | `(tactic| walk_at "callWith ref") => `(tactic| (k_here; refine callWith_F (fnat_keep (by assumption) (by assumption)) ?_))
local macro_rules | `(tactic| walk_at "FnAt") => `(tactic| exact fnat_keep (by assumption) (by assumption))
local macro_rules | `(tactic| walk_at "call ref") => `(tactic| (refine hold_mk ?_))
set_option maxHeartbeats 4000000 in
theorem reduce_con (w : World) (p : PySem.Program) (loose : List Str) (mean : ExcName → Option Value) (mg mb : Str → Option Value) (f l : Addr) (vs : List Value) (b0 b1 b2 b3 b4 b5 : Int) (G : Int → Int → Int) (s : Shared) (hl : s.heap.IsList l vs.toArray) (hi : IntsAre vs [b0, b1, b2, b3, b4, b5]) (hfn : FnAt f s.heap) (hG : ∀ (s' : Shared) x tx y ty, Ext s.heap s'.heap → Pure 2 w p loose mean mg mb f [Value.int x tx, Value.int y ty] s' (fun h v => ∃ t, v = Value.int (G x y) t)) :
    Pure 3 w p loose mean mg mb 23 [Value.ref f, Value.ref l] s (fun h v => ∃ t, v = Value.int (G (G (G (G (G b0 b1) b2) b3) b4) b5) t) := by
  w_top off
  unfold Pure
  k_fill
  intro dp un gd cn cs a ccd cl outer A₀ base h₀ L m Q E kCallerB kCallerF kCallerX kCallerT hk hd hu kRet
  obtain ⟨g, gens, drawn, toks, os⟩ := s
  dsimp only at kCallerF kRet hl hG hfn ⊢
  refine' enter_pure (binds := [(Str.ofString "function", Value.ref f), (Str.ofString "sequence", Value.ref l), (Str.ofString "initial", Value.ref 15)]) ?k1 ?k2 ?k3 ?k5 ?kA ?kF ?kK ?k6 ?k7 ?k8 ?k9 ?kB ?kR ?_ ?c2 ?c3 ?c4 ?c5
  ( (case kA => exact rfl); (case kF => exact rfl); (case kK => assumption); (case k1 => k_asm); (case k2 => k_asm); (case k3 => k_asm); (case k5 => k_asm); (case k6 => k_is); (case k7 => k_is); (case k8 => ktr_room); (case k9 => first | exact BindsTo.of_eq rfl | exact binds_K (by k_in) rfl (by k_is) rfl rfl rfl); (case c5 => decide); (case kB => exact locs rfl); (case c2 => exact rfl); (case c3 => exact rfl); (case c4 => exact rfl); (case kR => assumption))
  intro L' h' F' N' B' X' T'
  dsimp only at F' N' B' X' T' ⊢
  clear kCallerB kCallerF kCallerX kCallerT kRet
  k_unmd
  k_fold
  k_steps
  unfold Hold
  try dsimp only
  refine iter_list (Fr.lst (by assumption) hl) ?_
  have hI := Heap.get?_push_size h' (o := { cls := .type "list_iterator", data := .fields #[.ref l, .int 0 0] }) rfl
  have N2 := News.push F' N' { cls := .type "list_iterator", data := .fields #[.ref l, .int 0 0] }
  have F2 := F'.push { cls := .type "list_iterator", data := .fields #[.ref l, .int 0 0] }
  have hlt2 := F'.ns.lt
  generalize h'.push { cls := .type "list_iterator", data := .fields #[.ref l, .int 0 0] } = h2 at *
  generalize h'.objs.size = I at *
  try dsimp only
  clear F' N'
  k_steps
  unfold Hold
  try dsimp only
  rename_i h3 F3 N3
  obtain ⟨t0, hx0⟩ := hi.get 0 b0 rfl
  have hlne : l ≠ I := fun e => by
    obtain ⟨o, ho, _⟩ := hl
    have := (N3 _ (.head _)).2.2
    rw [← e, ho] at this; cases this
  refine next_list (l := l) (i := 0) (items := vs.toArray) ⟨_, News.get N3 (.head _), rfl, rfl⟩ (Fr.lst F3 hl) (by simpa using hx0) ?_
  intro h4 hit4 hs4
  try dsimp only at hs4 ⊢
  have F4 := F3.change hs4 (N3 _ (.head _)).2.1 (N3 _ (.head _)).2.2
  obtain ⟨o4, ho4, hc4, hd4⟩ := listiter_obj hit4
  have N4 : News g L' h4 [(I, o4)] := fun q hq => by rw [List.mem_singleton.mp hq]; exact ⟨ho4, (N3 _ (.head _)).2⟩
  clear F3 N3 hI hs4
  k_steps
  unfold Hold
  try dsimp only
  rename_i h5 F5 N5
  rw [redM_start] at F5
  have hit5 : h5.IsListIter I l 1 := ⟨o4, News.get N5 (.head _), hc4, hd4⟩
  have W := fun (A : Around) (hA : A.handled = none) => Walks.list (prog := PySem.Challenge.rw_ny0121_01.row.prog) (w := w) hA I l hlne vs.toArray
  refine for_any ?_
  refine nameX_L F5 rfl ?_
  refine (W _ rfl).self 1 _ _ _ ⟨hit5, Fr.lst F5 hl⟩ ?_
  have hlen : vs.length = 6 := hi.length
  refine ⟨fun k s' => ∃ h tk i tacc el, s' = { heap := h, gens := gens, drawn := drawn, toks := tk, os := os } ∧ 1 ≤ i ∧ i ≤ 6 ∧ k = 7 - i ∧ h.IsListIter I l i ∧ Fr g L' h (redM f l I (Value.int (([b1, b2, b3, b4, b5].take (i - 1)).foldl G b0) tacc) el) ∧ ∃ oI, News g L' h [(I, oI)], 6,
    ⟨h5, _, 1, t0, none, rfl, Nat.le_refl _, by decide, rfl, hit5, F5, _, N5⟩, ?_⟩
  clear hit5 F5 N5
  rintro k s' ⟨h6, tk6, i, tacc, el, rfl, hi1, hi6, rfl, hit6, F6, oI, N6⟩
  by_cases hlt : i < 6
  · refine (W _ rfl).item i _ _ _ (by rw [List.size_toArray, hlen]; exact hlt) ⟨hit6, Fr.lst F6 hl⟩ ?_
    intro v h7 tk7 hv st7 hk7
    dsimp only at hk7 ⊢
    have hIg := (N6 _ (.head _)).2
    have F7 : Fr g L' h7 _ := LCg.fr_but F6 hk7 (Ne.symm hIg.1) hIg.2
    obtain ⟨o7, ho7, hc7, hd7⟩ := listiter_obj st7.1
    have N7 : News g L' h7 [(I, o7)] := fun q hq => by rw [List.mem_singleton.mp hq]; exact ⟨ho7, hIg⟩
    obtain ⟨bi, ti, rfl, hbi⟩ := IntsAre.at hi i v (by simpa using hv)
    show wpAny _ _ (pure ()) _ _ _
    refine wpAny_pure ?_
    refine wpAny_assign_Name (stN F7 N7 ?_)
    intro h8 F8 N8
    dsimp only
    k_unmd
    k_fold
    k_steps
    unfold Hold
    try dsimp only [List.nil_append]
    refine hG _ _ _ _ _ ?_ _ _ _ _ _ _ _ _ _ _ _ _ _ _ _ _ B' F8 X' T' rfl ?_ ?_ ?_
    · exact F8.keep
    · show dp + 1 + 2 + 20 < recursionLimit; omega
    · show un + 3 + 8 * 2 + 200 < cLine; omega
    rintro r h9 tk9 ext9 ⟨t9, rfl⟩
    have F9 := F8.keeps ext9
    have N9 := N8.grown ext9
    clear F8 N8
    try dsimp only
    k_steps
    rename_i h10 F10 N10
    rw [redM_next] at F10
    have hit10 : h10.IsListIter I l (i + 1) := ⟨o7, News.get N10 (.head _), hc7, hd7⟩
    refine ⟨7 - (i + 1), by omega, h10, _, i + 1, t9, some (Value.int bi ti), rfl, by omega, by omega, rfl, hit10, ?_, _, N10⟩
    have e : ([b1, b2, b3, b4, b5].take (i + 1 - 1)).foldl G b0 = G (([b1, b2, b3, b4, b5].take (i - 1)).foldl G b0) bi := by
      have : i = 1 ∨ i = 2 ∨ i = 3 ∨ i = 4 ∨ i = 5 := by omega
      rcases this with rfl | rfl | rfl | rfl | rfl <;> (cases hbi; rfl)
    rw [e]; exact F10
  · have : i = 6 := by omega
    subst this
    refine (W _ rfl).done _ _ _ (by rw [List.size_toArray, hlen]; exact ⟨hit6, Fr.lst F6 hl⟩) ?_
    intro h7 tk7 hk7
    dsimp only at hk7 ⊢
    have hIg := (N6 _ (.head _)).2
    have F7 : Fr g L' h7 _ := LCg.fr_but F6 hk7 (Ne.symm hIg.1) hIg.2
    refine wpAny_execs_nil ?_
    k_steps
    dsimp only
    k_unfold
    exact Done.mk F7 ⟨_, rfl⟩
end

section
open PySem PySem.W PyProof.Rows
set_option Elab.async false
set_option maxRecDepth 100000

local macro_rules | `(tactic| walk_at "storeName") => `(tactic| (dsimp only; walk_at "storeName"))
local macro_rules | `(tactic| walk_at "call ref") => `(tactic| refine hold_call (l := [23]) (by decide) ?_)
local macro_rules | `(tactic| walk_at "binaryOp Mult int int") => `(tactic| (k_here; refine PyProof.Rows.mul_int ?_ (IntMulOk.of_right (intBits_le_64 (by omega) (by omega)))))
local macro_rules | `(tactic| walk_at "eval Name") => `(tactic| (k_here; k_dflt (refine free_ground (by with_reducible assumption) (by with_reducible assumption) (by with_reducible assumption) rfl ?_)))
set_option maxHeartbeats 4000000 in
theorem image_con (w : World) (p : PySem.Program) (loose : List Str) (mean : ExcName → Option Value) (mg mb : Str → Option Value) (n : Int) (t : Tok) (l : Addr) (vs : List Value) (a0 a1 a2 a3 a4 a5 : Int) (s : Shared)
    (hl : s.heap.IsList l vs.toArray) (hl7 : l ≠ 107) (hi : IntsAre vs [a0, a1, a2, a3, a4, a5]) (hn : 0 ≤ n ∧ n < 65536) :
    Near 4 w p loose mean mg mb 112 [Value.int n t, Value.ref l] s (fun h v => TabStep s.heap h ∧ ∃ t, v = Value.int (Builtin.bitAnd n 61440 + Builtin.bitAnd (((((a5 * n + a4) * n + a3) * n + a2) * n + a1) * n + a0) 4095) t) := by
  w_top off
  unfold Near
  k_fill
  intro dp un gd cn cs a ccd cl outer A₀ base h₀ L m Q E kCallerB kCallerF kCallerX kCallerT hk hd hu h107 hC7 hL7 hT7 kRet
  obtain ⟨g0, gens, drawn, toks, os⟩ := s
  dsimp only at kCallerF kRet hl hT7 ⊢
  obtain ⟨ps, hP, hps⟩ := hT7
  refine' enter_hideC (binds := [(Str.ofString "mode", Value.int n t), (Str.ofString "weights", Value.ref l)]) ?k1 ?k2 ?k3 ?k5 ?kA ?kF ?kK ?k6 ?k7 ?k8 ?k9 ?kB ?kD h107 hC7 hL7 hP ?kR ?_ ?c2 ?c3 ?c4
  ( (case kA => exact rfl); (case kF => exact rfl); (case kK => assumption); (case k1 => k_asm); (case k2 => k_asm); (case k3 => k_asm); (case k5 => k_asm); (case k6 => k_is); (case k7 => k_is); (case k8 => ktr_room); (case k9 => exact BindsTo.of_eq rfl); (case kB => exact rfl); (case kD => decide +kernel); (case c2 => exact rfl); (case c3 => exact rfl); (case c4 => exact rfl); (case kR => assumption))
  intro g L' h' tk' cells' hX hg7 hC7' F' N' Y' B' X' T' hlt hle
  replace hlt := ltN hlt
  k_cells Y'
  rename_i oM dM
  have hcm : oM.data = Data.cell (some (Value.int n t)) := dM
  clear dM
  dsimp only at F' N' B' X' T' hX ⊢
  have hlg : g.IsList l vs.toArray := by obtain ⟨o, e, r⟩ := hl; exact ⟨o, hX _ _ hl7 e, r⟩
  simp only [List.cons_append, List.nil_append] at N'
  clear kCallerB kCallerF kCallerX kCallerT kRet h107 hC7 hL7
  obtain ⟨hn0, hn1⟩ := hn
  dsimp only at hle
  k_unmd
  k_fold
  rcases hps with rfl | ⟨cA, rfl, hc7, hrec⟩
  · k_steps
    rename_i fA cA ocA vsA tA ctA hA tkA dA1 dA2 lA1 lA2 DA wsA hB FB NB hIB hCB lB
    unfold Hold
    refine reduce_con w p loose mean mg mb fA DA wsA a5 a4 a3 a2 a1 a0 (fun x y => x * n + y) _ (⟨_, News.get NB (.head _), rfl, _, rfl⟩) hIB (⟨_, _, _, _, News.get NB (.tail _ (.head _))⟩) ?_ _ _ _ _ _ _ _ _ _ _ _ _ _ _ _ _ B' FB X' T' rfl ?_ ?_ ?_
    · intro s' x tx y ty hx
      unfold Pure
      intro dp' un' gd' cn' cs' a' ccd' cl' outer' A₀' base' h₀' L'' m' Q' E' B'' F'' X'' T'' hk'' hd'' hu'' ret''
      obtain ⟨g', gens', drawn', toks', os'⟩ := s'
      dsimp only at hx F'' ret'' ⊢
      have hcl := hx _ _ (News.get NB (show (L' + 1, oM) ∈ _ by k_mem))
      refine enter_lam (binds := [(Str.ofString "held", Value.int x tx), (Str.ofString "weight", Value.int y ty)]) B'' F'' X'' T'' rfl rfl hk'' (hx _ _ (News.get NB (.tail _ (.head _)))) ⟨cA, ocA, vsA, tA, rfl, hx _ _ (News.get NB (show (cA, ocA) ∈ _ by k_mem)), dA1, dA2⟩ (by show dp' < recursionLimit; omega) rfl (locs rfl) ret'' ?_ rfl rfl rfl (by decide)
      intro L3 h3 F3 N3 B3 X3 T3
      dsimp only at F3 N3 B3 X3 T3 ⊢
      clear B'' F'' X'' T'' ret'' hx FB NB B' X' T' hC7'
      k_unmd
      k_fold
      k_steps
      exact Done.mk (by assumption) ⟨_, rfl⟩
    · show dp + 1 + 3 + 20 < recursionLimit; omega
    · show un + 3 + 8 * 3 + 200 < cLine; omega
    · rintro r h9 tk9 ext9 ⟨t9, rfl⟩
      have F9 := FB.keeps ext9
      have N9 := NB.grown ext9
      clear FB NB
      try dsimp only
      k_steps
      (rename News _ _ _ _ => N10)
      exact DoneB.mk (by assumption) ⟨_, News.get N10 (show (107, _) ∈ _ by k_mem), Or.inr ⟨cA, rfl, (Nat.ne_of_gt lA1.2), ⟨cA, ocA, vsA, tA, rfl, News.get N10 (by k_mem), dA1, dA2⟩⟩⟩ ⟨Or.inr ⟨cA, Heap.get?_none_of_le (by have h1 := lA1.1; have h2 : g0.objs.size ≤ L' := hle; exact Nat.le_trans h2 (Nat.le_of_lt (Nat.lt_trans (Nat.lt_succ_self _) h1))), News.get N10 (show (107, _) ∈ _ by k_mem), ⟨cA, ocA, vsA, tA, rfl, News.get N10 (by k_mem), dA1, dA2⟩⟩, _, rfl⟩
  · k_steps
    rename_i fA ctA hA tkA lA1 DA wsA hB FB NB hIB hCB lB
    unfold Hold
    obtain ⟨c₂, ocA, vsA, tA, e2, hocA, dA1, dA2⟩ := hrec
    cases e2
    have hocg := hX _ _ hc7 hocA
    refine reduce_con w p loose mean mg mb fA DA wsA a5 a4 a3 a2 a1 a0 (fun x y => x * n + y) _ (⟨_, News.get NB (.head _), rfl, _, rfl⟩) hIB (⟨_, _, _, _, News.get NB (.tail _ (.head _))⟩) ?_ _ _ _ _ _ _ _ _ _ _ _ _ _ _ _ _ B' FB X' T' rfl ?_ ?_ ?_
    · intro s' x tx y ty hx
      unfold Pure
      intro dp' un' gd' cn' cs' a' ccd' cl' outer' A₀' base' h₀' L'' m' Q' E' B'' F'' X'' T'' hk'' hd'' hu'' ret''
      obtain ⟨g', gens', drawn', toks', os'⟩ := s'
      dsimp only at hx F'' ret'' ⊢
      have hcl := hx _ _ (News.get NB (show (L' + 1, oM) ∈ _ by k_mem))
      refine enter_lam (binds := [(Str.ofString "held", Value.int x tx), (Str.ofString "weight", Value.int y ty)]) B'' F'' X'' T'' rfl rfl hk'' (hx _ _ (News.get NB (.tail _ (.head _)))) ⟨cA, ocA, vsA, tA, rfl, hx _ _ (FB.keep _ _ hocg), dA1, dA2⟩ (by show dp' < recursionLimit; omega) rfl (locs rfl) ret'' ?_ rfl rfl rfl (by decide)
      intro L3 h3 F3 N3 B3 X3 T3
      dsimp only at F3 N3 B3 X3 T3 ⊢
      clear B'' F'' X'' T'' ret'' hx FB NB B' X' T' hC7'
      k_unmd
      k_fold
      k_steps
      exact Done.mk (by assumption) ⟨_, rfl⟩
    · show dp + 1 + 3 + 20 < recursionLimit; omega
    · show un + 3 + 8 * 3 + 200 < cLine; omega
    · rintro r h9 tk9 ext9 ⟨t9, rfl⟩
      have F9 := FB.keeps ext9
      have N9 := NB.grown ext9
      clear FB NB
      try dsimp only
      k_steps
      (rename News _ _ _ _ => N10)
      exact DoneB.mk (by assumption) ⟨_, News.get N10 (show (107, _) ∈ _ by k_mem), Or.inr ⟨cA, rfl, hc7, ⟨cA, ocA, vsA, tA, rfl, Fr.keep (by assumption) _ _ hocg, dA1, dA2⟩⟩⟩ ⟨Or.inl ((News.get N10 (show (107, _) ∈ _ by k_mem)).trans hP.symm), _, rfl⟩
end

section
open PySem PySem.W PyProof.Rows PySem.Calls
open AutoSeq1 (wpAny_loadPart')
set_option Elab.async false
set_option maxRecDepth 100000
section
variable {prog : PySem.Program} {w : World} {A : Around} {E : Value → Shared → Prop} {s : Shared}

theorem nextOf_tuple_item {it l : Addr} {i : Nat} {items : Array Value} {x : Value} {Q : Value → Shared → Prop} (hit : s.heap.IsTupleIter it l i) (hl : s.heap.IsTuple l items) (hx : items[i]? = some x)
    (hQ : ∀ h', h'.IsTupleIter it l (i + 1) → Heap.SameBut it s.heap h' → Q x { s with heap := h' }) :
    wpAny (model prog w) A (Builtin.SmallTypes.nextOf (.ref it)) Q E s := by
  obtain ⟨o, ho, hc, hd⟩ := id hit
  obtain ⟨ol, hol, _, nl, hdl⟩ := hl
  unfold Builtin.SmallTypes.nextOf
  refine wpAny_bind (wpAny_callSpecial?_slot (name := Str.ofString "__next__") hit.typeIs PySem.F.slot_tuple_iterator_next
    (wpAny_call_entry PySem.F.slot_tuple_iterator_next hit.typeIs PySem.F.entry_tuple_iterator_next ?_ (PySem.F.args_tuple_iterator_next_1 _)))
  show wpAny _ _ (field (.ref it) 0 >>= _) _ _ s
  refine wpAny_bind (wpAny_field ho hd (x := .ref l) rfl ?_)
  show wpAny _ _ (if (Value.ref l == Value.none) = true then _ else _) _ _ s
  rw [if_neg (show ¬ ((Value.ref l == Value.none) = true) from Bool.false_ne_true)]
  show wpAny _ _ (field (.ref it) 1 >>= _) _ _ s
  refine wpAny_bind (wpAny_field ho hd (x := .int i 0) rfl ?_)
  show wpAny _ _ (seqItems? (.ref l) >>= _) _ _ s
  refine wpAny_bind (wpAny_seqItems hol hdl ?_)
  simp only [Int.toNat_natCast, hx]
  refine wpAny_bind (wpAny_setField ho hd (by simp) (wpAny_pure ⟨x, rfl, wpAny_pure (hQ _ ?_ (Heap.SameBut.update ..))⟩))
  exact ⟨_, Heap.get?_update_self _ ho (Obj.isFreed_of_fields (Obj.data_mapFields hd _)), (Obj.cls_mapFields ..).trans hc, by
    rw [Obj.data_mapFields hd]; simp [rawInt]⟩

theorem nextOf_tuple_end {it l : Addr} {i : Nat} {items : Array Value} {Q : Value → Shared → Prop} (hh : A.handled = none)
    (hit : s.heap.IsTupleIter it l i) (hl : s.heap.IsTuple l items) (hx : items[i]? = none)
    (hE : ∀ h' e, Heap.ExtBut it s.heap h' → (∃ o, h'.get? e = some o ∧ o.cls = .type "StopIteration") → E (.ref e) { s with heap := h' }) :
    wpAny (model prog w) A (Builtin.SmallTypes.nextOf (.ref it)) Q E s := by
  obtain ⟨o, ho, hc, hd⟩ := id hit
  obtain ⟨ol, hol, _, nl, hdl⟩ := hl
  unfold Builtin.SmallTypes.nextOf
  refine wpAny_bind (wpAny_callSpecial?_slot (name := Str.ofString "__next__") hit.typeIs PySem.F.slot_tuple_iterator_next
    (wpAny_call_entry PySem.F.slot_tuple_iterator_next hit.typeIs PySem.F.entry_tuple_iterator_next ?_ (PySem.F.args_tuple_iterator_next_1 _)))
  show wpAny _ _ (field (.ref it) 0 >>= _) _ _ s
  refine wpAny_bind (wpAny_field ho hd (x := .ref l) rfl ?_)
  show wpAny _ _ (if (Value.ref l == Value.none) = true then _ else _) _ _ s
  rw [if_neg (show ¬ ((Value.ref l == Value.none) = true) from Bool.false_ne_true)]
  show wpAny _ _ (field (.ref it) 1 >>= _) _ _ s
  refine wpAny_bind (wpAny_field ho hd (x := .int i 0) rfl ?_)
  show wpAny _ _ (seqItems? (.ref l) >>= _) _ _ s
  refine wpAny_bind (wpAny_seqItems hol hdl ?_)
  simp only [Int.toNat_natCast, hx]
  refine wpAny_bind (wpAny_rule (wpAny_bind (wpAny_setField ho hd (by simp) ?_)))
  show wpAny _ _ (newExc (.type "StopIteration") [] >>= _) _ _ _
  refine wpAny_bind ?_
  simp only [newExc, newTuple]
  refine wpAny_bind (wpAny_newObj_type ?_ (by size_fits))
  refine wpAny_bind (m := firstArgMember _ _) (wpAny_of_eq (a := Value.none) (by first | rfl | (simp only [firstArgMember]; rfl)) ?_)
  refine wpAny_newObj_type ?_ (by size_fits)
  simp only [raiseNew]
  refine wpAny_bind (wpAny_handled ?_)
  first | rw [show A.in1.handled = none from hh] | rw [hh]
  refine wpAny_bind (wpAny_pure (wpAny_throw ?_))
  exact hE _ _ (((Heap.SameBut.update ..).extBut.push _).push _) ⟨_, Heap.get?_push_size _ rfl, rfl⟩

theorem enumT_next_item {e it l : Addr} {i : Nat} {items : Array Value} {x old : Value} {Q : Value → Shared → Prop}
    (he : IsEnum s.heap e it i old) (hit : s.heap.IsTupleIter it l i) (hl : s.heap.IsTuple l items) (hx : items[i]? = some x) (hne : e ≠ it)
    (hQ : ∀ h', IsEnumOut h' e it ((i : Int) + 1) x s.heap.objs.size → h'.IsTupleIter it l (i + 1) →
      h'.get? s.heap.objs.size = some { cls := .type "tuple", data := .seq #[.int i s.toks, x] } → h'.objs.size = s.heap.objs.size + 1 →
      (∀ b o, b ≠ e → b ≠ it → s.heap.get? b = some o → h'.get? b = some o) → Q (.ref s.heap.objs.size) { s with heap := h', toks := s.toks + 1 }) :
    wpAny (model prog w) A (Builtin.«enumerate.__next__» ⟨[.ref e], []⟩) (fun fin s' => ∃ v, fin = .done (.ret v) ∧ Q v s') E s := by
  obtain ⟨hp, g, d, tk, os⟩ := s
  show wpAny _ _ (field (.ref e) 2 >>= _) _ _ _
  refine wpAny_bind (wpAny_field he rfl (x := .ref it) rfl ?_)
  refine wpAny_bind (nextOf_tuple_item hit hl hx fun h₁ hit₁ hs₁ => ?_)
  replace hs₁ : Heap.SameBut it hp h₁ := hs₁
  have he₁ : IsEnum h₁ e it i old := (hs₁.2 e hne).trans he
  show wpAny _ _ (field (.ref e) 3 >>= _) _ _ ⟨h₁, g, d, tk, os⟩
  refine wpAny_bind (wpAny_field he₁ rfl (x := rawInt i) rfl ?_)
  show wpAny _ _ (field (.ref e) 4 >>= _) _ _ ⟨h₁, g, d, tk, os⟩
  refine wpAny_bind (wpAny_field he₁ rfl (x := .none) rfl ?_)
  show wpAny _ _ (mkInt i >>= _) _ _ ⟨h₁, g, d, tk, os⟩
  refine wpAny_bind (wpAny_mkInt ?_)
  show wpAny _ _ (setField (.ref e) 3 (rawInt ((i : Int) + 1)) >>= _) _ _ ⟨h₁, g, d, tk + 1, os⟩
  refine wpAny_bind (wpAny_setField_rec he₁ (by simp) fun h₂ he₂ hs₂ => ?_)
  replace hs₂ : Heap.SameBut e h₁ h₂ := hs₂
  replace he₂ : IsEnum h₂ e it ((i : Int) + 1) old := he₂
  show wpAny _ _ (setField (.ref e) 4 .none >>= _) _ _ ⟨h₂, g, d, tk + 1, os⟩
  refine wpAny_bind (wpAny_setField_rec he₂ (by simp) fun h₃ he₃ hs₃ => ?_)
  replace hs₃ : Heap.SameBut e h₂ h₃ := hs₃
  replace he₃ : IsEnum h₃ e it ((i : Int) + 1) old := he₃
  show wpAny _ _ (newTuple [.int i tk, x] >>= _) _ _ ⟨h₃, g, d, tk + 1, os⟩
  refine wpAny_bind (wpAny_newTuple ?_)
  have he₄ : IsEnum (h₃.push { cls := .type "tuple", data := .seq #[.int i tk, x] }) e it ((i : Int) + 1) old := Heap.get?_push_of_some _ he₃
  generalize hh₄ : h₃.push { cls := .type "tuple", data := .seq #[.int i tk, x] } = h₄ at he₄
  have hsz : h₃.objs.size = hp.objs.size := by rw [hs₃.1, hs₂.1, hs₁.1]
  have hel : e < hp.objs.size := Heap.lt_size he
  have ht₄ : h₄.get? hp.objs.size = some { cls := .type "tuple", data := .seq #[.int i tk, x] } := by rw [← hh₄, ← hsz]; exact Heap.get?_push_size _ rfl
  have hz₄ : h₄.objs.size = hp.objs.size + 1 := by rw [← hh₄, Heap.size_push, hsz]
  have hk₄ : ∀ b o, b ≠ e → b ≠ it → hp.get? b = some o → h₄.get? b = some o := fun b o hbe hbi hb => by
    rw [← hh₄]; exact Heap.get?_push_of_some _ (hs₃.extBut b o hbe (hs₂.extBut b o hbe (hs₁.extBut b o hbi hb)))
  have hit₄ : h₄.IsTupleIter it l (i + 1) := by
    rw [← hh₄]; obtain ⟨o, ho, r⟩ := (hit₁.extBut hs₂.extBut (Ne.symm hne)).extBut hs₃.extBut (Ne.symm hne); exact ⟨o, Heap.get?_push_of_some _ ho, r⟩
  show wpAny _ _ (Builtin.SmallTypes.ownedTupleIsFree (.ref e) >>= _) _ _ ⟨h₄, g, d, tk + 1, os⟩
  rw [hsz]
  clear hh₄ he₃ hs₃ he₂ hs₂ he₁ hs₁ hit₁ hsz h₃ h₂ h₁
  refine wpAny_bind ?_
  · unfold Builtin.SmallTypes.ownedTupleIsFree
    refine wpAny_bind (wpAny_field he₄ rfl (x := .none) rfl (wpAny_pure ?_))
    simp only [if_true]
    refine wpAny_bind (wpAny_rule ?_)
    refine wpAny_bind (wpAny_field he₄ rfl (x := old) rfl ?_)
    refine wpAny_bind (wpAny_setField_rec he₄ (by simp) fun h₅ he₅ hs₅ => ?_)
    replace hs₅ : Heap.SameBut e h₄ h₅ := hs₅
    replace he₅ : IsEnum h₅ e it ((i : Int) + 1) x := he₅
    show wpAny _ _ (Builtin.SmallTypes.ownedTupleHandOut (.ref e) (.ref hp.objs.size) >>= _) _ _ ⟨h₅, g, d, tk + 1, os⟩
    refine wpAny_bind ?_
    · unfold Builtin.SmallTypes.ownedTupleHandOut
      refine wpAny_bind (wpAny_setField_rec he₅ (by simp) fun h₆ he₆ hs₆ => ?_)
      replace hs₆ : Heap.SameBut e h₅ h₆ := hs₆
      replace he₆ : IsEnumOut h₆ e it ((i : Int) + 1) x hp.objs.size := he₆
      refine wpAny_setField_rec he₆ (by simp) fun h₇ he₇ hs₇ => ?_
      replace hs₇ : Heap.SameBut e h₆ h₇ := hs₇
      replace he₇ : IsEnumOut h₇ e it ((i : Int) + 1) x hp.objs.size := he₇
      refine wpAny_bind (wpAny_letGo (wpAny_pure ⟨_, rfl, hQ h₇ he₇ ?_ ?_ ?_ ?_⟩))
      · exact ((hit₄.extBut hs₅.extBut (Ne.symm hne)).extBut hs₆.extBut (Ne.symm hne)).extBut hs₇.extBut (Ne.symm hne)
      · exact hs₇.extBut _ _ (Nat.ne_of_gt hel) (hs₆.extBut _ _ (Nat.ne_of_gt hel) (hs₅.extBut _ _ (Nat.ne_of_gt hel) ht₄))
      · rw [hs₇.1, hs₆.1, hs₅.1, hz₄]
      · exact fun b o hbe hbi hb => hs₇.extBut b o hbe (hs₆.extBut b o hbe (hs₅.extBut b o hbe (hk₄ b o hbe hbi hb)))

theorem pyNext_enumT_item {e it l : Addr} {i : Nat} {items : Array Value} {x old : Value} {Q : Option Value → Shared → Prop}
    (he : IsEnum s.heap e it i old) (hit : s.heap.IsTupleIter it l i) (hl : s.heap.IsTuple l items) (hx : items[i]? = some x) (hne : e ≠ it)
    (hQ : ∀ h', IsEnumOut h' e it ((i : Int) + 1) x s.heap.objs.size → h'.IsTupleIter it l (i + 1) →
      h'.get? s.heap.objs.size = some { cls := .type "tuple", data := .seq #[.int i s.toks, x] } → h'.objs.size = s.heap.objs.size + 1 →
      (∀ b o, b ≠ e → b ≠ it → s.heap.get? b = some o → h'.get? b = some o) → Q (some (.ref s.heap.objs.size)) { s with heap := h', toks := s.toks + 1 }) :
    wpAny (model prog w) A (pyNext (.ref e)) Q E s := by
  have hT : s.TypeIs (.ref e) "enumerate" := ⟨_, he, rfl⟩
  unfold pyNext
  exact wpAny_bind (wpAny_attempt (wpAny_callSpecial?_slot (name := Str.ofString "__next__") hT PySem.F.slot_enumerate_next
    (wpAny_call_entry PySem.F.slot_enumerate_next hT PySem.F.entry_enumerate_next
      (enumT_next_item he hit hl hx hne fun h' a b c d k => wpAny_pure (hQ h' a b c d k)) (PySem.F.args_enumerate_next_1 _))))

theorem pyNext_enumT_end {e it l : Addr} {i : Nat} {items : Array Value} {old : Value} {Q : Option Value → Shared → Prop} (hh : A.handled = none)
    (he : IsEnum s.heap e it i old) (hit : s.heap.IsTupleIter it l i) (hl : s.heap.IsTuple l items) (hx : items[i]? = none)
    (hQ : ∀ h', Heap.ExtBut it s.heap h' → Q none { s with heap := h' }) : wpAny (model prog w) A (pyNext (.ref e)) Q E s := by
  have hT : s.TypeIs (.ref e) "enumerate" := ⟨_, he, rfl⟩
  unfold pyNext
  refine wpAny_bind (wpAny_attempt (wpAny_callSpecial?_slot (name := Str.ofString "__next__") hT PySem.F.slot_enumerate_next
    (wpAny_call_entry PySem.F.slot_enumerate_next hT PySem.F.entry_enumerate_next ?_ (PySem.F.args_enumerate_next_1 _))))
  show wpAny _ _ (field (.ref e) 2 >>= _) _ _ _
  refine wpAny_bind (wpAny_field he rfl (x := .ref it) rfl ?_)
  refine wpAny_bind (nextOf_tuple_end hh hit hl hx fun h' x he' hx' => ?_)
  obtain ⟨o, ho, hc⟩ := hx'
  refine wpAny_bind (wpAny_isInstance (T := "StopIteration") (b := true) ⟨o, ho, hc⟩ isSubtype_stop ?_)
  exact wpAny_pure (hQ _ he')
end

theorem meets_enumT_new (l : Addr) (items : Array Value) (n : Nat) (dct : Option Addr) (sl : Array (Option Value)) :
    Meets (Builtin.«enumerate.__new__» ⟨[.type "enumerate", .ref l], []⟩) (fun _ R s => s.heap.get? l = some { cls := .type "tuple", dict := dct, data := .seq items n, slots := sl } ∧
      R (.ok (.ret (.ref (s.heap.push { cls := .type "tuple_iterator", data := .fields #[.ref l, .int 0 0] }).objs.size)))
        { s with heap := (s.heap.push { cls := .type "tuple_iterator", data := .fields #[.ref l, .int 0 0] }).push { cls := .type "enumerate", data := .fields #[.none, .bool false, .ref s.heap.objs.size, rawInt 0, .none, .none] } }) :=
  .of_wp fun prog w A R s h => by
    obtain ⟨hp, g, d, tk, os⟩ := s; obtain ⟨hl, h⟩ := h
    have hsub := sub_enumerate
    have hL : Heap.IsTuple (Shared.heap ⟨hp, g, d, tk, os⟩) l items := ⟨_, hl, rfl, n, rfl⟩
    wp_walk using wpAny_loadPart' hl
    refine wpAny_stack_any fun st => wpAny_pure ?_
    split
    · rename_i c _ _ _ _ _
      cases (c == Value.type "enumerate")
      · wp_walk using wpAny_loadPart' hl, wpAny_pyIter_tuple hL
        exact ⟨_, rfl, h⟩
      · wp_walk using wpAny_loadPart' hl, wpAny_pyIter_tuple hL
        exact ⟨_, rfl, h⟩
    · wp_walk using wpAny_loadPart' hl, wpAny_pyIter_tuple hL
      exact ⟨_, rfl, h⟩

theorem call_enumT {prog : PySem.Program} {w : World} {A : Around} {E : Value → Shared → Prop} {s : Shared} {l : Addr} {items : Array Value} {Q : Value → Shared → Prop} (hL : s.heap.IsTuple l items)
    (h : ∀ h', IsEnum h' (s.heap.objs.size + 1) s.heap.objs.size 0 .none → h'.IsTupleIter s.heap.objs.size l 0 → h'.objs.size = s.heap.objs.size + 2 →
      (∀ b o, s.heap.get? b = some o → h'.get? b = some o) → Q (.ref (s.heap.objs.size + 1)) { s with heap := h' }) :
    wpAny (model prog w) A (call (.type "enumerate") [.ref l]) Q E s := by
  obtain ⟨⟨c, dct, dt, sl⟩, hl, hc, n, hd⟩ := hL
  replace hc : c = .type "tuple" := hc
  replace hd : dt = .seq items n := hd
  subst hc hd
  refine callType_new PySem.F.called_enumerate (by decide) (PySem.F.typeCall_enumerate_1 _) (PySem.F.newCall_enumerate_1 _) (fun obj => PySem.F.args_object_init_2 obj _) PySem.F.entry_enumerate_new
    (meets_enumT_new l items n dct sl) ⟨hl, ?_⟩
  have hz : (s.heap.push { cls := .type "tuple_iterator", data := .fields #[.ref l, .int 0 0] }).objs.size = s.heap.objs.size + 1 := Heap.size_push ..
  show _ ∧ _
  rw [hz]
  have he : IsEnum ((s.heap.push { cls := .type "tuple_iterator", data := .fields #[.ref l, .int 0 0] }).push
      { cls := .type "enumerate", data := .fields #[.none, .bool false, .ref s.heap.objs.size, rawInt 0, .none, .none] }) (s.heap.objs.size + 1) s.heap.objs.size 0 .none := by
    have := Heap.get?_push_size (s.heap.push { cls := .type "tuple_iterator", data := .fields #[.ref l, .int 0 0] })
      (o := { cls := .type "enumerate", data := .fields #[.none, .bool false, .ref s.heap.objs.size, rawInt 0, .none, .none] }) rfl
    rw [hz] at this; exact this
  refine ⟨⟨_, he, rfl⟩, h _ he ⟨_, Heap.get?_push_of_some _ (Heap.get?_push_size _ rfl), rfl, rfl⟩ (by rw [Heap.size_push, hz]) fun b o x => Heap.get?_push_of_some _ (Heap.get?_push_of_some _ x)⟩
end

section
open PySem PySem.W PyProof.Rows PySem.Calls
set_option Elab.async false
set_option maxRecDepth 100000
/-- the table of filemode: where each part stands, its bits and its sign -/
noncomputable def TT : List (Addr × List (Addr × Int × Nat)) := [(73, [(66, 40960, 108), (67, 49152, 115), (68, 32768, 45), (69, 24576, 98), (70, 16384, 100), (71, 8192, 99), (72, 4096, 112)]), (75, [(74, 256, 114)]), (77, [(76, 128, 119)]),
  (81, [(78, 2112, 115), (79, 2048, 83), (80, 64, 120)]), (83, [(82, 32, 114)]), (85, [(84, 16, 119)]), (89, [(86, 1032, 115), (87, 1024, 83), (88, 8, 120)]), (91, [(90, 4, 114)]), (93, [(92, 2, 119)]), (97, [(94, 513, 116), (95, 512, 84), (96, 1, 120)])]
def PartAt (g : Heap) (q : Addr × List (Addr × Int × Nat)) : Prop := g.IsTuple q.1 (q.2.map fun e => Value.ref e.1).toArray ∧ ∀ e ∈ q.2, ∃ t t', g.IsTuple e.1 #[.int e.2.1 t, .str ⟨#[e.2.2]⟩ t']
theorem tup_of {K : Frag} {g : Heap} {a : Addr} {vs : Array Value} (X : K.In g) (e : K.lookup a = some ⟨.type "tuple", none, .seq vs 0, #[]⟩) : g.IsTuple a vs := ⟨_, X _ _ e, rfl, _, rfl⟩
theorem table_at {w : World} {g : Heap} (X : (hd.heap_39 w.params).In g) : g.IsTuple 98 (TT.map fun q => Value.ref q.1).toArray ∧ ∀ q ∈ TT, PartAt g q := by
  refine ⟨tup_of X (by rfl), ?_⟩
  intro q hq
  simp only [TT, List.mem_cons, List.not_mem_nil, or_false] at hq
  rcases hq with rfl | rfl | rfl | rfl | rfl | rfl | rfl | rfl | rfl | rfl
  all_goals (refine ⟨tup_of X (by rfl), ?_⟩; intro e he; simp only [List.mem_cons, List.not_mem_nil, or_false] at he)
  · rcases he with rfl | rfl | rfl | rfl | rfl | rfl | rfl <;> exact ⟨_, _, tup_of X (by rfl)⟩
  · rcases he with rfl; exact ⟨_, _, tup_of X (by rfl)⟩
  · rcases he with rfl; exact ⟨_, _, tup_of X (by rfl)⟩
  · rcases he with rfl | rfl | rfl <;> exact ⟨_, _, tup_of X (by rfl)⟩
  · rcases he with rfl; exact ⟨_, _, tup_of X (by rfl)⟩
  · rcases he with rfl; exact ⟨_, _, tup_of X (by rfl)⟩
  · rcases he with rfl | rfl | rfl <;> exact ⟨_, _, tup_of X (by rfl)⟩
  · rcases he with rfl; exact ⟨_, _, tup_of X (by rfl)⟩
  · rcases he with rfl; exact ⟨_, _, tup_of X (by rfl)⟩
  · rcases he with rfl | rfl | rfl <;> exact ⟨_, _, tup_of X (by rfl)⟩

noncomputable def condB (i : Nat) (n b : Int) : Bool := if i = 0 then Builtin.bitAnd n 61440 == b else Builtin.bitAnd n b == b
noncomputable def pickC (i : Nat) (n : Int) (es : List (Addr × Int × Nat)) : Nat := match es.find? fun e => condB i n e.2.1 with
  | some e => e.2.2
  | none => if i = 0 then 63 else 45
noncomputable def chF (n : Int) (i : Nat) : Nat := pickC i n (TT.getD i (0, [])).2
inductive ChAre : List Value → List Nat → Prop
  | nil : ChAre [] []
  | cons (c : Nat) (t : Tok) {vs cs} : ChAre vs cs → ChAre (.str ⟨#[c]⟩ t :: vs) (c :: cs)
theorem ChAre.append {vs ws : List Value} {cs ds : List Nat} (h : ChAre vs cs) (h' : ChAre ws ds) : ChAre (vs ++ ws) (cs ++ ds) := by
  induction h with
  | nil => exact h'
  | cons c t _ ih => exact .cons c t ih
theorem ChAre.length {vs : List Value} {cs : List Nat} (h : ChAre vs cs) : vs.length = cs.length := by
  induction h with
  | nil => rfl
  | cons _ _ _ ih => simp [ih]

section
variable {g h h' : Heap} {L : Addr} {m : Str → Option Value} {news : List (Addr × Obj)} {S : List Addr}
theorem fr_but' (F : Fr g L h m) (hk : ∀ b o, b ∉ S → h.get? b = some o → h'.get? b = some o) (hL : L ∉ S) (hS : ∀ b ∈ S, g.get? b = none) : Fr g L h' m :=
  ⟨F.ns.at' fun o e => hk L o hL e, fun b o e => hk b o (fun hb => by rw [hS b hb] at e; cases e) (F.keep b o e), F.above⟩
theorem news_but' (N : News g L h news) (hk : ∀ b o, b ∉ S → h.get? b = some o → h'.get? b = some o) (off : ∀ p ∈ news, p.1 ∉ S) : News g L h' news :=
  fun p hp => ⟨hk _ _ (off p hp) (N p hp).1, (N p hp).2⟩
theorem news_cons {a : Addr} {o : Obj} (e : h.get? a = some o) (hL : a ≠ L) (hg : g.get? a = none) (N : News g L h news) : News g L h ((a, o) :: news) := fun p hp => by
  rcases List.mem_cons.mp hp with rfl | hp
  · exact ⟨e, hL, hg⟩
  · exact N p hp
end

/-- the names of filemode's frame -/
noncomputable abbrev fmM (n : Value) (pm ix tb bt ch : Option Value) : Str → Option Value := fun y => if y = Str.ofString "mode" then some n else if y = Str.ofString "perm" then pm else if y = Str.ofString "index" then ix else if y = Str.ofString "table" then tb else
  if y = Str.ofString "bit" then bt else if y = Str.ofString "char" then ch else none
theorem fmM_start (n pm : Value) : (fun y => if y = Str.ofString "perm" then some pm else List.lookup y [(Str.ofString "mode", n)].reverse) = fmM n (some pm) none none none none := by
  funext y
  by_cases h1 : y = Str.ofString "perm"
  · subst h1; rfl
  · by_cases h2 : y = Str.ofString "mode"
    · subst h2; rfl
    · have e : List.lookup y [(Str.ofString "mode", n)].reverse = none := by
        show List.lookup y [(Str.ofString "mode", n)] = none
        rw [List.lookup_cons, show (y == Str.ofString "mode") = false from beq_eq_false_iff_ne.mpr h2]; rfl
      simp only [if_neg h1, fmM, if_neg h2, e]
      (repeat' split) <;> rfl
theorem fmM_outer (n : Value) (pm ix tb bt ch : Option Value) (a b : Value) : (fun y => if y = Str.ofString "table" then some b else (fun y => if y = Str.ofString "index" then some a else fmM n pm ix tb bt ch y) y) = fmM n pm (some a) (some b) bt ch := by
  funext y
  by_cases h1 : y = Str.ofString "table"
  · subst h1; rfl
  · by_cases h2 : y = Str.ofString "index"
    · subst h2; rfl
    · simp only [fmM, if_neg h1, if_neg h2]
theorem fmM_inner (n : Value) (pm ix tb bt ch : Option Value) (a b : Value) : (fun y => if y = Str.ofString "char" then some b else (fun y => if y = Str.ofString "bit" then some a else fmM n pm ix tb bt ch y) y) = fmM n pm ix tb (some a) (some b) := by
  funext y
  by_cases h1 : y = Str.ofString "char"
  · subst h1; rfl
  · by_cases h2 : y = Str.ofString "bit"
    · subst h2; rfl
    · simp only [fmM, if_neg h1, if_neg h2]

section
variable {prog : PySem.Program} {w : World} {A : Around} {E : Value → Shared → Prop} {s : Shared}
/-- a tuple's iterator hands out no tuple of its own -/
theorem letGo_tupleIter {elts : List Expr} {k : Nat} {pos : Pos} {I t a : Addr} {i : Nat} {Q : Unit → Shared → Prop} (hit : s.heap.IsTupleIter I t i) (h : Q () s) :
    wpAny (model prog w) A (letOwnedTupleGo (.Tuple elts k pos) (.ref I) (.ref a)) Q E s := by
  obtain ⟨o, ho, hc, hd⟩ := hit
  unfold letOwnedTupleGo
  refine wpAny_bind (wpAny_load ho ?_)
  rw [hc, hd]
  show wpAny _ A (if (["enumerate", "zip", "dict_itemiterator", "dict_reverseitemiterator", "odict_iterator", "itertools.zip_longest", "itertools.pairwise"].contains "tuple_iterator" && _) = true then _ else _) Q E s
  rw [if_neg (by rw [show (["enumerate", "zip", "dict_itemiterator", "dict_reverseitemiterator", "odict_iterator", "itertools.zip_longest", "itertools.pairwise"].contains "tuple_iterator") = false from by decide]; simp)]
  exact wpAny_pure h
end

theorem find_first {α : Type} {p : α → Bool} : ∀ {l : List α} {j : Nat} {e : α}, l[j]? = some e → (∀ x ∈ l.take j, p x = false) → p e = true → l.find? p = some e
  | [], _, _, h, _, _ => by simp at h
  | a :: r, 0, e, h, _, he => by
    have : a = e := by simpa using h
    subst this
    simp [List.find?_cons, he]
  | a :: r, j + 1, e, h, hx, he => by
    have ha := hx a (by simp)
    rw [List.find?_cons, ha]
    exact find_first (j := j) (by simpa using h) (fun x hx' => hx x (by simp [hx'])) he
theorem find_never {α : Type} {p : α → Bool} {l : List α} (h : ∀ x ∈ l, p x = false) : l.find? p = none := by
  rw [List.find?_eq_none]
  intro x hx
  rw [h x hx]; decide
noncomputable abbrev enumObj (It : Addr) (k : Int) (x : Value) : Obj := { cls := .type "enumerate", data := .fields #[.none, .bool false, .ref It, rawInt k, .none, x] }
/-- between two turns of the outer loop -/
def FmInv (g : Heap) (L' It P0 : Addr) (n : Int) (t : Tok) (gens : Array GenState) (drawn : Drawn) (os : OsState) (k : Nat) (s' : Shared) : Prop :=
  ∃ h tk i ix tb bt ch vs kk old, s' = { heap := h, gens := gens, drawn := drawn, toks := tk, os := os } ∧ i ≤ 10 ∧ k = 11 - i ∧ IsEnum h (It + 1) It ((i : Nat) : Int) old ∧ h.IsTupleIter It 98 i ∧
      Fr g L' h (fmM (Value.int n t) (some (Value.ref P0)) ix tb bt ch) ∧ News g L' h [(P0, ({ cls := .type "list", data := .seq (List.toArray vs) kk } : Obj))] ∧ ChAre vs ((List.range i).map (chF n))
/-- between two turns of the inner loop -/
def FmIn (g : Heap) (L' It P0 In : Addr) (n : Int) (t tk3 : Tok) (i : Nat) (q : Addr × List (Addr × Int × Nat)) (oI oP : Obj) (gens : Array GenState) (drawn : Drawn) (os : OsState) (k : Nat) (s' : Shared) : Prop :=
  ∃ h tk j bt ch, s' = { heap := h, gens := gens, drawn := drawn, toks := tk, os := os } ∧ j ≤ q.2.length ∧ k = q.2.length + 1 - j ∧ h.IsTupleIter In q.1 j ∧
        Fr g L' h (fmM (Value.int n t) (some (Value.ref P0)) (some (Value.int (i : Int) tk3)) (some (Value.ref q.1)) bt ch) ∧
        News g L' h [(It + 1, enumObj It ((i : Int) + 1) (.ref q.1)), (It, oI), (P0, oP)] ∧ ∀ e ∈ q.2.take j, condB i n e.2.1 = false
section
variable {g h' : Heap} {L' It P0 In : Addr} {n : Int} {t t2 tk tk3 : Tok} {gens : Array GenState} {drawn : Drawn} {os : OsState} {i j c : Nat} {q : Addr × List (Addr × Int × Nat)} {e : Addr × Int × Nat} {oI oN oP : Obj} {ix tb bt ch : Option Value} {l : List (Addr × Obj)} {vs : List Value} {kk : Nat} {x : Value}
theorem fm_next (F : Fr g L' h' (fmM (Value.int n t) (some (Value.ref P0)) ix tb bt ch)) (N : News g L' h' l) (hm1 : (It + 1, enumObj It ((i : Int) + 1) x) ∈ l) (hm2 : (It, oI) ∈ l)
    (hm3 : (P0, ({ cls := .type "list", data := .seq (vs.toArray.push (.str ⟨#[c]⟩ t2)) (kk + 1) } : Obj)) ∈ l) (hcI : oI.cls = .type "tuple_iterator") (hdI : oI.data = .fields #[.ref 98, .int ((i + 1 : Nat) : Int) 0])
    (hch : ChAre vs ((List.range i).map (chF n))) (hc : chF n i = c) (hi : i < 10) : Again (11 - i) (FmInv g L' It P0 n t gens drawn os) { heap := h', gens := gens, drawn := drawn, toks := tk, os := os } := by
  refine ⟨11 - (i + 1), by omega, h', tk, i + 1, ix, tb, bt, ch, vs ++ [.str ⟨#[c]⟩ t2], kk + 1, x, rfl, by omega, rfl, ?_, ⟨oI, N.get hm2, hcI, hdI⟩, F, ?_, ?_⟩
  · have e := N.get hm1
    have e2 : ((i + 1 : Nat) : Int) = (i : Int) + 1 := by push_cast; rfl
    rw [e2]; exact e
  · intro p hp
    rw [List.mem_singleton.mp hp]
    have := N _ hm3
    rw [List.push_toArray] at this
    exact this
  · rw [List.range_succ, List.map_append]
    refine hch.append ?_
    rw [List.map_singleton, hc]
    exact .cons c t2 .nil
theorem chF_first (hq : TT[i]? = some q) (he : q.2[j]? = some e) (hno : ∀ e ∈ q.2.take j, condB i n e.2.1 = false) (hc : condB i n e.2.1 = true) : chF n i = e.2.2 := by
  unfold chF pickC
  rw [List.getD_eq_getElem?_getD, hq]
  show (match q.2.find? _ with | some e => e.2.2 | none => _) = _
  rw [find_first (p := fun e => condB i n e.2.1) he hno hc]
theorem chF_none (hq : TT[i]? = some q) (hno : ∀ e ∈ q.2, condB i n e.2.1 = false) : chF n i = if i = 0 then 63 else 45 := by
  unfold chF pickC
  rw [List.getD_eq_getElem?_getD, hq]
  show (match q.2.find? _ with | some e => e.2.2 | none => _) = _
  rw [find_never hno]
theorem fm_on (F : Fr g L' h' (fmM (Value.int n t) (some (Value.ref P0)) (some (Value.int (i : Int) tk3)) (some (Value.ref q.1)) bt ch)) (N : News g L' h' l) (hm0 : (In, oN) ∈ l) (hm1 : (It + 1, enumObj It ((i : Int) + 1) (.ref q.1)) ∈ l) (hm2 : (It, oI) ∈ l) (hm3 : (P0, oP) ∈ l)
    (hcN : oN.cls = .type "tuple_iterator") (hdN : oN.data = .fields #[.ref q.1, .int ((j + 1 : Nat) : Int) 0]) (hj : j < q.2.length) (he : q.2[j]? = some e) (hno : ∀ e ∈ q.2.take j, condB i n e.2.1 = false) (hc : condB i n e.2.1 = false) :
    Again (q.2.length + 1 - j) (FmIn g L' It P0 In n t tk3 i q oI oP gens drawn os) { heap := h', gens := gens, drawn := drawn, toks := tk, os := os } := by
  refine ⟨q.2.length + 1 - (j + 1), by omega, h', tk, j + 1, bt, ch, rfl, hj, rfl, ⟨oN, N.get hm0, hcN, hdN⟩, F, ?_, ?_⟩
  · intro p hp
    simp only [List.mem_cons, List.not_mem_nil, or_false] at hp
    rcases hp with rfl | rfl | rfl
    · exact N _ hm1
    · exact N _ hm2
    · exact N _ hm3
  · intro x hx
    rw [List.take_add_one, he] at hx
    rcases List.mem_append.mp hx with h | h
    · exact hno x h
    · have : x = e := by simpa using h
      rw [this]; exact hc
theorem cond0 {b : Int} (h : Builtin.bitAnd n 61440 = b) : condB 0 n b = true := by simp [condB, h]
theorem cond0n {b : Int} (h : Builtin.bitAnd n 61440 ≠ b) : condB 0 n b = false := by simp [condB, h]
theorem condI {b : Int} (hi : ¬i = 0) (h : Builtin.bitAnd n b = b) : condB i n b = true := by simp [condB, h, hi]
theorem condIn {b : Int} (hi : ¬i = 0) (h : Builtin.bitAnd n b ≠ b) : condB i n b = false := by simp [condB, h, hi]
end

theorem ChAre.strs {vs : List Value} {cs : List Nat} (h : ChAre vs cs) : StrsAre vs (cs.map fun c => (⟨#[c]⟩ : Str)) := by
  induction h with
  | nil => exact .nil
  | cons c t _ ih => exact .cons _ t ih
theorem join10 (f : Nat → Nat) : Txt.join (Str.ofString "") (((List.range 10).map f).map fun c => (⟨#[c]⟩ : Str)) = ⟨((List.range 10).map f).toArray⟩ := by
  rw [show Str.ofString "" = ⟨#[]⟩ from by decide +kernel]
  rfl
theorem join10_fits (f : Nat → Nat) : ((((List.range 10).map f).map fun c => (⟨#[c]⟩ : Str)).map (·.length)).sum + (((List.range 10).map f).map fun c => (⟨#[c]⟩ : Str)).length * (Str.ofString "").length ≤ 16777216 := by
  rw [show Str.ofString "" = ⟨#[]⟩ from by decide +kernel]
  exact Nat.le_of_ble_eq_true rfl
end

section
open PySem PySem.W PyProof.Rows
set_option Elab.async false
set_option maxRecDepth 100000

local macro_rules | `(tactic| walk_at "storeName") => `(tactic| (dsimp only; walk_at "storeName"))
local macro_rules | `(tactic| walk_at "exec For Tuple Call") => `(tactic| (refine hold_mk ?_))
local macro_rules | `(tactic| walk_at "exec For Tuple Name") => `(tactic| (refine hold_mk ?_))
local macro_rules | `(tactic| walk_at "call type:enumerate") => `(tactic| (refine hold_mk ?_))
local macro_rules | `(tactic| walk_at "no such key") => `(tactic| skip)
set_option maxHeartbeats 4000000 in
theorem filemode_con (w : World) (p : PySem.Program) (loose : List Str) (mean : ExcName → Option Value) (mg mb : Str → Option Value) (n : Int) (t : Tok) (s : Shared) (hn : 0 ≤ n ∧ n < 65536) :
    Pure 2 w p loose mean mg mb 105 [Value.int n t] s (fun h v => ∃ t, v = Value.str ⟨((List.range 10).map (chF n)).toArray⟩ t) := by
  w_top off
  unfold Pure
  k_fill
  intro dp un gd cn cs a ccd cl outer A₀ base h₀ L m Q E kCallerB kCallerF kCallerX kCallerT hk hd hu kRet
  obtain ⟨g, gens, drawn, toks, os⟩ := s
  dsimp only at kCallerF kRet  ⊢
  refine' enter_pure (binds := [(Str.ofString "mode", Value.int n t)]) ?k1 ?k2 ?k3 ?k5 ?kA ?kF ?kK ?k6 ?k7 ?k8 ?k9 ?kB ?kR ?_ ?c2 ?c3 ?c4 ?c5
  ( (case kA => exact rfl); (case kF => exact rfl); (case kK => assumption); (case k1 => k_asm); (case k2 => k_asm); (case k3 => k_asm); (case k5 => k_asm); (case k6 => k_is); (case k7 => k_is); (case k8 => ktr_room); (case k9 => exact BindsTo.of_eq rfl); (case c5 => decide); (case kB => exact locs rfl); (case c2 => exact rfl); (case c3 => exact rfl); (case c4 => exact rfl); (case kR => assumption))
  intro L' h' F' N' B' X' T'
  dsimp only at F' N' B' X' T' ⊢
  clear kCallerB kCallerF kCallerX kCallerT kRet
  k_unmd
  k_fold
  obtain ⟨h98, hparts⟩ := table_at X'
  k_steps
  unfold Hold
  try dsimp only
  rename_i P0 h0 _ h1 F1 N1
  rw [fmM_start] at F1
  refine for_any ?_
  k_steps
  unfold Hold
  try dsimp only
  refine call_enumT (h98.at fun o e => F1.keep _ _ e) ?_
  intro h2 hE2 hI2 hsz2 hk2
  try dsimp only at hE2 hI2 hsz2 hk2 ⊢
  refine wpAny_pyIter_enum hE2 ?_
  have F2 := F1.keeps hk2
  have hPlt : P0 < h1.objs.size := Heap.lt_size (N1 _ (.head _)).1
  have hLlt : L' < h1.objs.size := F1.ns.lt
  have hge : ∀ b, h1.objs.size ≤ b → g.get? b = none := fun b hb => Heap.get?_none_of_le (Nat.le_trans F1.above (Nat.le_trans (Nat.le_of_lt hLlt) hb))
  have N2 := N1.grown hk2
  generalize h1.objs.size = It at *
  replace hPlt := ltN hPlt
  replace hLlt := ltN hLlt
  refine ⟨FmInv g L' It P0 n t gens drawn os, 11,
    ⟨h2, tk, 0, none, none, none, none, [], 0, .none, rfl, Nat.zero_le _, rfl, hE2, hI2, F2, N2, .nil⟩, ?_⟩
  clear hE2 hI2 hsz2 hk2 F2 N2 F1 N1
  rintro k s' ⟨h3, tk3, i, ix, tb, bt, ch, vs, kk, old, rfl, hi10, rfl, hE3, hI3, F3, N3, hch⟩
  have h983 := h98.at fun o e => F3.keep _ _ e
  have hL1 : @Ne Nat L' (It + 1) := by omega
  have hL2 : @Ne Nat L' It := by omega
  have hP1 : @Ne Nat P0 (It + 1) := by omega
  have hP2 : @Ne Nat P0 It := by omega
  have hLI : L' ∉ [It + 1, It] := by simp only [List.mem_cons, List.not_mem_nil, or_false, not_or]; exact ⟨hL1, hL2⟩
  have hSg : ∀ b ∈ [It + 1, It], g.get? b = none := by
    intro b hb
    simp only [List.mem_cons, List.not_mem_nil, or_false] at hb
    rcases hb with rfl | rfl
    · exact hge _ (Nat.le_succ _)
    · exact hge _ (Nat.le_refl _)
  have hPI : ∀ p ∈ [(P0, ({ cls := .type "list", data := .seq (List.toArray vs) kk } : Obj))], p.1 ∉ [It + 1, It] := by
    intro p hp
    rw [List.mem_singleton.mp hp]
    simp only [List.mem_cons, List.not_mem_nil, or_false, not_or]; exact ⟨hP1, hP2⟩
  by_cases hlt : i < 10
  · obtain ⟨q, hq⟩ : ∃ q, TT[i]? = some q := ⟨_, List.getElem?_eq_getElem (show i < TT.length from hlt)⟩
    have hpart := hparts q (List.mem_of_getElem? hq)
    refine pyNext_enumT_item hE3 hI3 h983 (x := Value.ref q.1) (by simp [hq]) (Nat.succ_ne_self _) ?_
    intro h4 hO4 hI4 hT4 hsz4 hk4
    try dsimp only at hO4 hI4 hT4 hsz4 hk4 ⊢
    have hk4' : ∀ b o, b ∉ [It + 1, It] → h3.get? b = some o → h4.get? b = some o := fun b o hb e => hk4 b o (by simp at hb; exact hb.1) (by simp at hb; exact hb.2) e
    have F4 := fr_but' F3 hk4' hLI hSg
    have N4 := news_but' N3 hk4' hPI
    refine wpAny_letOwnedTupleGo_enum hO4 ?_
    intro h5 hE5 hs5
    try dsimp only at hs5 ⊢
    have hk5 : ∀ b o, b ∉ [It + 1] → h4.get? b = some o → h5.get? b = some o := fun b o hb e => hs5.extBut b o (by simpa using hb) e
    have F5 := fr_but' F4 hk5 (by simp only [List.mem_singleton]; exact hL1) (fun b hb => hSg b (by simp at hb; simp [hb]))
    have N5 := news_but' N4 hk5 (fun p hp => by rw [List.mem_singleton.mp hp]; simp only [List.mem_singleton]; exact hP1)
    have hTlt := ltN (Heap.lt_size hE3)
    have hT1 : @Ne Nat h3.objs.size (It + 1) := by omega
    have hT5 : h5.IsTuple h3.objs.size #[Value.int i tk3, Value.ref q.1] := ⟨_, hk5 _ _ (by simp only [List.mem_singleton]; exact hT1) hT4, rfl, _, rfl⟩
    obtain ⟨oI, hoI, hcI, hdI⟩ := hI4.at fun o e => hk5 It o (by simp) e
    have N5' := news_cons hE5 (Ne.symm hL1) (hSg _ (by simp)) (news_cons hoI (Ne.symm hL2) (hSg _ (by simp)) N5)
    have hsz5 : h3.objs.size < h5.objs.size := by obtain ⟨o, e, _⟩ := hT5; exact Heap.lt_size e
    refine wpAny_assign_Tuple rfl hT5 rfl rfl ?_
    intro h6 hx6
    try dsimp only at hx6 ⊢
    have hk6 : ∀ b o, h5.get? b = some o → h6.get? b = some o := fun b o e => hx6 b o (Nat.ne_of_lt (Heap.lt_size e)) e
    have F6 := F5.keeps hk6
    have N6 := N5'.grown hk6
    show wpAny _ _ (do holding [Value.ref q.1] (assign (.Name _ _) _ (Value.int i tk3)); do holding [] (assign (.Name _ _) _ (Value.ref q.1)); pure ()) _ _ _
    refine wpAny_bind (wpAny_holding (wpAny_assign_Name (stN F6 N6 ?_)))
    intro h7 F7 N7
    refine wpAny_bind (wpAny_holding (wpAny_assign_Name (stN F7 N7 ?_)))
    intro h8 F8 N8
    refine wpAny_pure ?_
    rw [fmM_outer] at F8
    clear hE3 hI3 F3 N3 h983 hO4 hI4 hT4 hsz4 hk4 hk4' F4 N4 hE5 hs5 hk5 F5 N5 N5' hT5 hoI hx6 hk6 F6 N6 F7 N7
    try dsimp only
    k_steps
    unfold Hold
    try dsimp only
    refine for_any ?_
    refine nameX_L F8 rfl ?_
    refine wpAny_pyIter_tuple (hpart.1.at fun o e => F8.keep _ _ e) ?_
    try dsimp only
    have hIn8 : (h8.push { cls := .type "tuple_iterator", data := .fields #[.ref q.1, .int 0 0] }).IsTupleIter h8.objs.size q.1 0 := ⟨_, Heap.get?_push_size _ rfl, rfl, rfl⟩
    have F9 := F8.push { cls := .type "tuple_iterator", data := .fields #[.ref q.1, .int 0 0] }
    have N9 : News g L' (h8.push { cls := .type "tuple_iterator", data := .fields #[.ref q.1, .int 0 0] }) _ := N8.grown fun b o e => Heap.get?_push_of_some _ e
    have hItn := ltN (Heap.lt_size (N8 _ (.head _)).1)
    dsimp only at hItn
    have hIng : g.get? h8.objs.size = none := hge _ (by omega)
    generalize h8.push { cls := .type "tuple_iterator", data := .fields #[.ref q.1, .int 0 0] } = h9 at *
    generalize h8.objs.size = In at *
    clear F8 N8
    have hLn : @Ne Nat L' In := by omega
    have hPn : @Ne Nat P0 In := by omega
    have hqn : q.1 ≠ In := fun e => by
      obtain ⟨o, ho, _⟩ := hpart.1
      rw [e, hIng] at ho; cases ho
    refine ⟨FmIn g L' It P0 In n t tk3 i q oI ({ cls := .type "list", data := .seq (List.toArray vs) kk } : Obj) gens drawn os, q.2.length + 1,
      ⟨h9, _, 0, bt, ch, rfl, Nat.zero_le _, rfl, hIn8, F9, N9, fun e he => by simp at he⟩, ?_⟩
    clear hIn8 F9 N9
    rintro k s' ⟨h10, tk10, j, bt', ch', rfl, hj, rfl, hI10, F10, N10, hno⟩
    have hvs : vs.length ≤ 10 := by rw [hch.length]; simp; omega
    by_cases hjl : j < q.2.length
    · obtain ⟨e, he⟩ : ∃ e, q.2[j]? = some e := ⟨_, List.getElem?_eq_getElem hjl⟩
      obtain ⟨t1, t2, hte⟩ := hpart.2 e (List.mem_of_getElem? he)
      refine (Walks.tuple (prog := PySem.Challenge.rw_ny0121_01.row.prog) (w := w) rfl In q.1 hqn (q.2.map fun e => Value.ref e.1).toArray).item j _ _ _ (by simpa using hjl) ⟨hI10, hpart.1.at fun o x => F10.keep _ _ x⟩ ?_
      intro v h11 tk11 hv st11 hk11
      have hv' : v = Value.ref e.1 := by
        have : (q.2.map fun e => Value.ref e.1)[j]? = some v := by simpa using hv
        rw [List.getElem?_map, he] at this
        exact (Option.some.inj this).symm
      subst hv'
      try dsimp only at hk11 ⊢
      have F11 := fr_but' F10 hk11 (by simp only [List.mem_singleton]; exact hLn) (fun b hb => by rw [List.mem_singleton.mp hb]; exact hIng)
      have N11 := news_but' N10 hk11 (fun p hp => by
        simp only [List.mem_cons, List.not_mem_nil, or_false] at hp
        simp only [List.mem_singleton]
        rcases hp with rfl | rfl | rfl
        · exact neN (by dsimp only; omega)
        · exact neN (by dsimp only; omega)
        · exact hPn)
      obtain ⟨oN, hoN, hcN, hdN⟩ := st11.1
      have N11' := news_cons hoN (Ne.symm hLn) hIng N11
      refine letGo_tupleIter st11.1 ?_
      refine wpAny_assign_Tuple rfl (hte.at fun o x => F11.keep _ _ x) rfl rfl ?_
      intro h12 hx12
      try dsimp only at hx12 ⊢
      have hk12 : ∀ b o, h11.get? b = some o → h12.get? b = some o := fun b o x => hx12 b o (Nat.ne_of_lt (Heap.lt_size x)) x
      have F12 := F11.keeps hk12
      have N12 := N11'.grown hk12
      show wpAny _ _ (do holding [Value.str _ t2] (assign (.Name _ _) _ (Value.int _ t1)); do holding [] (assign (.Name _ _) _ (Value.str _ t2)); pure ()) _ _ _
      refine wpAny_bind (wpAny_holding (wpAny_assign_Name (stN F12 N12 ?_)))
      intro h13 F13 N13
      refine wpAny_bind (wpAny_holding (wpAny_assign_Name (stN F13 N13 ?_)))
      intro h14 F14 N14
      refine wpAny_pure ?_
      rw [fmM_inner] at F14
      clear hI10 F10 N10 hv st11 hk11 F11 N11 N11' hoN hx12 hk12 F12 N12 F13 N13
      try dsimp only
      k_unmd
      k_fold
      by_cases hi0 : i = 0
      · subst hi0
        k_steps
        · dsimp only
          exact fm_next (by assumption) (by assumption) (by k_mem) (by k_mem) (by k_mem) hcI hdI hch (chF_first hq he hno (cond0 (by assumption))) hlt
        · exact fm_on (by assumption) (by assumption) (by k_mem) (by k_mem) (by k_mem) (by k_mem) hcN hdN hjl he hno (cond0n (by assumption))
      · have hi0' : (i : Int) ≠ 0 := by omega
        k_steps
        · exfalso; omega
        · dsimp only
          exact fm_next (by assumption) (by assumption) (by k_mem) (by k_mem) (by k_mem) hcI hdI hch (chF_first hq he hno (condI hi0 (by assumption))) hlt
        · exact fm_on (by assumption) (by assumption) (by k_mem) (by k_mem) (by k_mem) (by k_mem) hcN hdN hjl he hno (condIn hi0 (by assumption))
    · have hjq : j = q.2.length := by omega
      subst hjq
      refine (Walks.tuple (prog := PySem.Challenge.rw_ny0121_01.row.prog) (w := w) rfl In q.1 hqn (q.2.map fun e => Value.ref e.1).toArray).done _ _ _ (by simpa using And.intro hI10 (hpart.1.at fun o x => F10.keep _ _ x)) ?_
      intro h11 tk11 hk11
      try dsimp only at hk11 ⊢
      have F11 := fr_but' F10 hk11 (by simp only [List.mem_singleton]; exact hLn) (fun b hb => by rw [List.mem_singleton.mp hb]; exact hIng)
      have N11 := news_but' N10 hk11 (fun p hp => by
        simp only [List.mem_cons, List.not_mem_nil, or_false] at hp
        simp only [List.mem_singleton]
        rcases hp with rfl | rfl | rfl
        · exact neN (by dsimp only; omega)
        · exact neN (by dsimp only; omega)
        · exact hPn)
      have hno' : ∀ e ∈ q.2, condB i n e.2.1 = false := by rw [List.take_length] at hno; exact hno
      clear hI10 F10 N10 hk11
      k_unmd
      k_fold
      by_cases hi0 : i = 0
      · subst hi0
        k_steps
        dsimp only
        (rename News _ _ _ _ => NZ)
        rw [show Str.ofString "?" = ⟨#[63]⟩ from by decide +kernel] at NZ
        exact fm_next (by assumption) NZ (by k_mem) (by k_mem) (by k_mem) hcI hdI hch (chF_none hq hno') hlt
      · have hi0' : (i : Int) ≠ 0 := by omega
        k_steps
        · exfalso; omega
        · dsimp only
          (rename News _ _ _ _ => NZ)
          rw [show Str.ofString "-" = ⟨#[45]⟩ from by decide +kernel] at NZ
          exact fm_next (by assumption) NZ (by k_mem) (by k_mem) (by k_mem) hcI hdI hch ((chF_none hq hno').trans (if_neg hi0)) hlt
  · have hi10' : i = 10 := by omega
    subst hi10'
    refine pyNext_enumT_end rfl hE3 hI3 h983 (by decide) ?_
    intro h4 hx4
    try dsimp only at hx4 ⊢
    have hk4 : ∀ b o, b ∉ [It] → h3.get? b = some o → h4.get? b = some o := fun b o hb e => hx4 b o (by simpa using hb) e
    have F4 := fr_but' F3 hk4 (by simp only [List.mem_singleton]; exact hL2) (fun b hb => hSg b (by simp at hb; simp [hb]))
    have N4 := news_but' N3 hk4 (fun p hp => by rw [List.mem_singleton.mp hp]; simp only [List.mem_singleton]; exact hP2)
    clear F3 N3 hE3 hI3
    refine wpAny_execs_nil ?_
    k_steps
    refine join_list ⟨_, News.get N4 (.head _), rfl, _, rfl⟩ hch.strs (join10_fits _) ?_
    intro t9 k9
    try dsimp only
    k_unfold
    rw [join10]
    exact Done.mk F4 ⟨_, rfl⟩
end

section
open PySem PySem.W PyProof.Rows
set_option Elab.async false
set_option maxRecDepth 100000

noncomputable abbrev chM (im tu l ow : Addr) (pl : Option Value) : Str → Option Value := fun y => if y = Str.ofString "place" then pl else if y = Str.ofString "own" then some (Value.ref ow) else List.lookup y [(Str.ofString "image", Value.ref im), (Str.ofString "turned", Value.ref tu), (Str.ofString "weights", Value.ref l)].reverse
theorem chM_start (im tu l ow : Addr) : (fun y => if y = Str.ofString "own" then some (Value.ref ow) else List.lookup y [(Str.ofString "image", Value.ref im), (Str.ofString "turned", Value.ref tu), (Str.ofString "weights", Value.ref l)].reverse) = chM im tu l ow none := by
  funext y
  by_cases h1 : y = Str.ofString "place"
  · subst h1; rfl
  · simp only [chM, if_neg h1]
theorem chM_next (im tu l ow : Addr) (pl : Option Value) (v : Value) : (fun y => if y = Str.ofString "place" then some v else chM im tu l ow pl y) = chM im tu l ow (some v) := by
  funext y
  by_cases h1 : y = Str.ofString "place"
  · simp only [chM, if_pos h1]
  · simp only [chM, if_neg h1]
noncomputable def ownV (o0 o1 : Bool) : List Value := Value.bool o0 :: List.replicate 11 (Value.bool o1)
theorem own_at (o0 o1 : Bool) {i : Nat} (h : i < 12) : (ownV o0 o1)[i]? = some (Value.bool (if i = 0 then o0 else o1)) := by
  cases i with
  | zero => rfl
  | succ j =>
    show (List.replicate 11 (Value.bool o1))[j]? = _
    rw [List.getElem?_replicate, if_pos (by omega)]; rfl
def ChInv (g : Heap) (L' im tu l ow R : Addr) (oO : Obj) (gens : Array GenState) (drawn : Drawn) (os : OsState) (k : Nat) (s' : Shared) : Prop :=
  ∃ h tk i pl, s' = { heap := h, gens := gens, drawn := drawn, toks := tk, os := os } ∧ i ≤ 12 ∧ k = 13 - i ∧ IsRangeIter h R (0 + ((i : Nat) : Int) * 1) (((12 : Nat) : Int) - ((i : Nat) : Int)) 1 ∧ Fr g L' h (chM im tu l ow pl) ∧ News g L' h [(ow, oO)]
theorem carried_bools : ∀ bs : List Bool, CarriedAll (bs.map Value.bool) (bs.map PyData.bool)
  | [] => .nil
  | b :: r => .cons (.bool b) (carried_bools r)
theorem shaped_bools (bs : List Bool) : SeqAt.shaped (.list (bs.map PyData.bool)) = true := by
  have h1 : ∀ bs : List Bool, PyData.canLayAll0 (bs.map PyData.bool) = true := by
    intro bs; induction bs with
    | nil => rfl
    | cons b r ih => simp [PyData.canLayAll0, PyData.canLay0, ih]
  have h2 : ∀ bs : List Bool, PyData.depthAll (bs.map PyData.bool) = 0 := by
    intro bs; induction bs with
    | nil => rfl
    | cons b r ih => simp [PyData.depthAll, PyData.depth, ih]
  simp [SeqAt.shaped, PyData.canLay0, PyData.depth, h1, h2]
theorem eqv_bools (bs : List Bool) : PyData.eqv (.list (bs.map PyData.bool)) (.list (bs.map PyData.bool)) = true := by
  have h : ∀ bs : List Bool, PyData.eqvAll (bs.map PyData.bool) (bs.map PyData.bool) = true := by
    intro bs; induction bs with
    | nil => rfl
    | cons b r ih => simp [PyData.eqvAll, PyData.eqv, ih]
  simp [PyData.eqv, h]
theorem take_bools (bs : List Bool) (i : Nat) : slicePick (bs.map Value.bool).toArray none (some (i : Int)) none = ((bs.take i).map Value.bool).toArray := by
  rw [slicePick_upto', List.map_take]
theorem own_eq (i : Nat) (a1 a2 a3 a4 a5 : Int) : (if i = 0 then decide ((a1 + a2 + a3 + a4 + a5) % 2 = 1) else decide (a1 % 2 = 1)) = (if i = 0 then (([a1, a2, a3, a4, a5] : List Int).sum.fmod 2 == 1) else (a1.fmod 2 == 1)) := by
  have e : ([a1, a2, a3, a4, a5] : List Int).sum = a1 + a2 + a3 + a4 + a5 := by simp; omega
  have f : ∀ x : Int, x.fmod 2 = x % 2 := fun x => Int.fmod_eq_emod_of_nonneg _ (by decide)
  rw [e, f, f]
  split <;> rfl
local macro_rules | `(tactic| walk_at "storeName") => `(tactic| (dsimp only; walk_at "storeName"))
local macro_rules | `(tactic| walk_at "binaryOp Mult ref int") => `(tactic| (refine hold_mk ?_))
local macro_rules | `(tactic| walk_at "binaryOp Add ref ref") => `(tactic| (refine hold_mk ?_))
local macro_rules | `(tactic| walk_at "compareOp NotEq ref ref") => `(tactic| (refine hold_mk ?_))
local macro_rules | `(tactic| walk_at "pyIter ref") => `(tactic| (refine hold_mk ?_))
local macro_rules | `(tactic| walk_at "subscriptTail") => `(tactic| (k_here; (with_reducible show wpAny _ _ (subscriptTail _ _ (Value.ref _) (Value.int (Nat.cast _) _)) _ _ _); refine item_listL (by is_list) (by assumption) (by assumption) (by assumption) ?_))
local macro_rules | `(tactic| walk_at "exec For Name Call cons nil") => `(tactic| (refine hold_mk ?_))
set_option maxHeartbeats 4000000 in
theorem changes_con (w : World) (p : PySem.Program) (loose : List Str) (mean : ExcName → Option Value) (mg mb : Str → Option Value) (im tu : Addr) (I : List Bool) (rs : List Addr) (l : Addr) (vs : List Value) (a0 a1 a2 a3 a4 a5 : Int) (s : Shared) (hl : s.heap.IsList l vs.toArray) (hi : IntsAre vs [a0, a1, a2, a3, a4, a5])
    (hI : s.heap.IsList im (I.map Value.bool).toArray) (hIl : I.length = 12) (hT : s.heap.IsList tu (rs.map Value.ref).toArray) (hrl : rs.length = 12)
    (hR : ∀ p r, rs[p]? = some r → ∃ bl : List Bool, s.heap.IsList r (bl.map Value.bool).toArray ∧ bl.length = 12 ∧ bl.take p = I.take p ∧ ((bl.getD p false != I.getD p false) = (if p = 0 then decide ((a1 + a2 + a3 + a4 + a5) % 2 = 1) else decide (a1 % 2 = 1)))) :
    Pure 1 w p loose mean mg mb 136 [Value.ref im, Value.ref tu, Value.ref l] s (fun h v => v = Value.bool true) := by
  w_top off
  unfold Pure
  k_fill
  intro dp un gd cn cs a ccd cl outer A₀ base h₀ L m Q E kCallerB kCallerF kCallerX kCallerT hk hd hu kRet
  obtain ⟨g, gens, drawn, toks, os⟩ := s
  dsimp only at kCallerF kRet hl hI hT hR ⊢
  refine' enter_pure (binds := [(Str.ofString "image", Value.ref im), (Str.ofString "turned", Value.ref tu), (Str.ofString "weights", Value.ref l)]) ?k1 ?k2 ?k3 ?k5 ?kA ?kF ?kK ?k6 ?k7 ?k8 ?k9 ?kB ?kR ?_ ?c2 ?c3 ?c4 ?c5
  ( (case kA => exact rfl); (case kF => exact rfl); (case kK => assumption); (case k1 => k_asm); (case k2 => k_asm); (case k3 => k_asm); (case k5 => k_asm); (case k6 => k_is); (case k7 => k_is); (case k8 => ktr_room); (case k9 => exact BindsTo.of_eq rfl); (case c5 => decide); (case kB => exact locs rfl); (case c2 => exact rfl); (case c3 => exact rfl); (case c4 => exact rfl); (case kR => assumption))
  intro L' h' F' N' B' X' T'
  dsimp only at F' N' B' X' T' ⊢
  clear kCallerB kCallerF kCallerX kCallerT kRet
  k_unmd
  k_fold
  k_steps
  unfold Hold
  try dsimp only
  rename_i l1 h1 _ _ l2 h2 F2 N2 hlt2
  refine mul_list_carried F2 N2 (News.get N2 (.head _)) rfl (.cons (.bool _) .nil) (by decide) (by decide) (Nat.le_of_ble_eq_true rfl) ?_
  intro h3 F3 N3 hg3 hL3 _
  clear F2 N2
  try dsimp only
  k_steps
  unfold Hold
  try dsimp only
  refine PyProof.Rows.add_lists (vs := [Value.bool _]) F3 N3 ⟨_, News.get N3 (.tail _ (.head _)), rfl, _, rfl⟩ hL3 ?_ (Nat.le_of_ble_eq_true rfl)
  intro h4 F4 N4
  clear F3 N3
  have N4' : News g L' h4 [(h3.objs.size, ({ cls := .type "list", data := .seq (ownV (([a1, a2, a3, a4, a5] : List Int).sum.fmod 2 == 1) (a1.fmod 2 == 1)).toArray } : Obj))] := fun q hq => by rw [List.mem_singleton.mp hq]; exact N4 _ (.head _)
  clear N4
  generalize h3.objs.size = ow at *
  try dsimp only
  k_steps
  unfold Hold
  try dsimp only
  rename_i h5 F5 N5
  rw [chM_start] at F5
  refine for_any ?_
  k_steps
  unfold Hold
  try dsimp only
  rename_i h6 tk6 t6 u6 v6 hr6 F6 N6 hk6
  refine wpAny_pyIter_range hr6 (by decide) ?_
  try dsimp only
  have hR0 : IsRangeIter (h6.push { cls := .type "range_iterator", data := .fields #[rawInt 0, rawInt (Builtin.Range.rangeSize 0 12 1), rawInt 1] }) h6.objs.size (0 + ((0 : Nat) : Int) * 1) (((12 : Nat) : Int) - ((0 : Nat) : Int)) 1 := Heap.get?_push_size _ rfl
  have F7 := F6.push { cls := .type "range_iterator", data := .fields #[rawInt 0, rawInt (Builtin.Range.rangeSize 0 12 1), rawInt 1] }
  have N7 : News g L' (h6.push { cls := .type "range_iterator", data := .fields #[rawInt 0, rawInt (Builtin.Range.rangeSize 0 12 1), rawInt 1] }) _ := N6.grown fun b o e => Heap.get?_push_of_some _ e
  have hRg := next_is_new F6
  have hRL : h6.objs.size ≠ L' := Nat.ne_of_gt F6.ns.lt
  have hRo : ow ≠ h6.objs.size := Nat.ne_of_lt (Heap.lt_size (N6 _ (.head _)).1)
  generalize h6.push { cls := .type "range_iterator", data := .fields #[rawInt 0, rawInt (Builtin.Range.rangeSize 0 12 1), rawInt 1] } = h7 at *
  generalize h6.objs.size = R at *
  refine ⟨ChInv g L' im tu l ow R _ gens drawn os, 13, ⟨h7, _, 0, none, rfl, Nat.zero_le _, rfl, hR0, F7, N7⟩, ?_⟩
  clear hR0 F7 N7 F6 N6 hr6 hk6
  rintro k s' ⟨h8, tk8, i, pl, rfl, hi12, rfl, hR8, F8, N8⟩
  by_cases hlt : i < 12
  · refine (Walks.range (prog := PySem.Challenge.rw_ny0121_01.row.prog) (w := w) rfl R 0 1 12).item i _ _ _ hlt hR8 ?_
    intro v h9 tk9 hv st9 hk9
    obtain ⟨t9, rfl⟩ := hv
    try dsimp only at hk9 st9 ⊢
    have F9 := fr_but' F8 hk9 (by simp only [List.mem_singleton]; exact Ne.symm hRL) (fun b hb => by rw [List.mem_singleton.mp hb]; exact hRg)
    have N9 := news_cons st9 hRL hRg (news_but' N8 hk9 (fun p hp => by rw [List.mem_singleton.mp hp]; simp only [List.mem_singleton]; exact hRo))
    show wpAny _ _ (pure ()) _ _ _
    refine wpAny_pure ?_
    refine wpAny_assign_Name (stN F9 N9 ?_)
    intro h10 F10 N10
    have ei : (0 : Int) + (i : Int) * 1 = (i : Int) := by omega
    rw [chM_next, ei] at F10
    clear F8 N8 hR8 hk9 st9 F9 N9
    obtain ⟨r, hr⟩ : ∃ r, rs[i]? = some r := ⟨_, List.getElem?_eq_getElem (by omega)⟩
    obtain ⟨bl, hbl, hbll, htk, hch⟩ := hR i r hr
    have hx1 : (rs.map Value.ref)[((i : Int)).toNat]? = some (Value.ref r) := by rw [Int.toNat_natCast, List.getElem?_map, hr]; rfl
    have hx2 : (bl.map Value.bool)[((i : Int)).toNat]? = some (Value.bool (bl.getD i false)) := by
      rw [Int.toNat_natCast, List.getElem?_map, List.getD_eq_getElem?_getD, List.getElem?_eq_getElem (by omega)]; rfl
    have hx3 : (I.map Value.bool)[((i : Int)).toNat]? = some (Value.bool (I.getD i false)) := by
      rw [Int.toNat_natCast, List.getElem?_map, List.getD_eq_getElem?_getD, List.getElem?_eq_getElem (by omega)]; rfl
    have hx4 : (ownV (([a1, a2, a3, a4, a5] : List Int).sum.fmod 2 == 1) (a1.fmod 2 == 1))[((i : Int)).toNat]? = some (Value.bool (if i = 0 then (([a1, a2, a3, a4, a5] : List Int).sum.fmod 2 == 1) else (a1.fmod 2 == 1))) := by
      rw [Int.toNat_natCast]; exact own_at _ _ hlt
    have hi0 : (0 : Int) ≤ (i : Int) := by omega
    have hi1 : (i : Int) < 2 ^ 63 := by omega
    try dsimp only
    k_unmd
    k_fold
    k_steps
    (rename News _ _ _ _ => NC)
    unfold Hold
    try dsimp only at NC ⊢
    rw [take_bools, take_bools, htk] at NC
    refine ne_dataH (reads_newData ⟨_, News.get NC (.tail _ (.head _)), rfl, _, rfl⟩ (carried_bools _)) (reads_newData ⟨_, News.get NC (.head _), rfl, _, rfl⟩ (carried_bools _)) (shaped_bools _) (shaped_bools _) (by ke_room) ?_
    rw [eqv_bools]
    try dsimp only [Bool.not_true]
    k_steps
    refine item_listL ⟨_, News.get NC (by k_mem), rfl, _, rfl⟩ hi0 hi1 hx4 ?_
    rw [hch, own_eq]
    generalize (if i = 0 then (([a1, a2, a3, a4, a5] : List Int).sum.fmod 2 == 1) else (a1.fmod 2 == 1)) = yy
    cases yy
    all_goals (
      k_steps
      refine ⟨13 - (i + 1), by omega, _, _, i + 1, some (Value.int (i : Int) t9), rfl, by omega, rfl, ?_, by assumption, ?_⟩
      · exact News.get NC (show (R, _) ∈ _ by k_mem)
      · exact fun q hq => by rw [List.mem_singleton.mp hq]; exact NC _ (by k_mem))
  · have hi12' : i = 12 := by omega
    subst hi12'
    refine (Walks.range (prog := PySem.Challenge.rw_ny0121_01.row.prog) (w := w) rfl R 0 1 12).done _ _ _ hR8 ?_
    intro h9 tk9 hk9
    try dsimp only at hk9 ⊢
    have F9 := fr_but' F8 hk9 (by simp only [List.mem_singleton]; exact Ne.symm hRL) (fun b hb => by rw [List.mem_singleton.mp hb]; exact hRg)
    clear F8 N8
    refine wpAny_execs_nil ?_
    k_steps
    try dsimp only
    k_unfold
    exact Done.mk F9 rfl
end

section
open PySem PySem.W PyProof.Rows PySem.Calls
set_option Elab.async false
set_option maxRecDepth 100000
/-- what the ledger bears of the lambda's code -/
def TabRel (g : Heap) (ps : Array Value) (ex : List (Addr × Obj)) : Prop :=
  (ps = #[] ∧ ex = []) ∨ ∃ c' : Addr, ps = #[rawInt 68, rawInt 19, .ref c'] ∧ c' ≠ 107 ∧ ((g.CodeRec (.ref c') lamQ ∧ ex = []) ∨ ∃ oc vs t, ex = [(c', oc)] ∧ oc.data = .fields vs ∧ vs[1]? = some (.str lamQ t))
section
variable {g h h' : Heap} {L : Addr} {m : Str → Option Value} {news ex : List (Addr × Obj)} {ps : Array Value}
theorem tabRel_start (h7 : ∀ b o, b ≠ 107 → h.get? b = some o → g.get? b = some o) (t : TabIs h ps) : TabRel g ps [] := by
  rcases t with rfl | ⟨c', rfl, hc, hr⟩
  · exact .inl ⟨rfl, rfl⟩
  · refine .inr ⟨c', rfl, hc, .inl ⟨?_, rfl⟩⟩
    obtain ⟨c₂, oc, vs, t, e, ho, hd, hv⟩ := hr
    cases e
    exact ⟨c', oc, vs, t, rfl, h7 _ _ hc ho, hd, hv⟩
theorem tabOk_of (F : Fr g L h m) (e : h.get? 107 = some (tabObj ps)) (hex : ∀ p ∈ ex, h.get? p.1 = some p.2) (R : TabRel g ps ex) : TabOk h := by
  refine ⟨ps, e, ?_⟩
  rcases R with ⟨rfl, _⟩ | ⟨c', rfl, hc, R⟩
  · exact .inl rfl
  · refine .inr ⟨c', rfl, hc, ?_⟩
    rcases R with ⟨hr, _⟩ | ⟨oc, vs, t, rfl, hd, hv⟩
    · obtain ⟨c₂, oc, vs, t, e, ho, hd, hv⟩ := hr
      exact ⟨c₂, oc, vs, t, e, F.keep _ _ ho, hd, hv⟩
    · exact ⟨c', oc, vs, t, rfl, hex _ (.head _), hd, hv⟩
theorem tab_after (F : Fr g L h m) (e : h.get? 107 = some (tabObj ps)) (N : News g L h ex) (R : TabRel g ps ex) (X : ExtB h h') (S : TabStep h h') :
    ∃ ps' ex', TabRel g ps' ex' ∧ h'.get? 107 = some (tabObj ps') ∧ News g L h' ex' ∧ ∀ p ∈ ex', p.1 ≠ 107 ∧ (p ∈ ex ∨ h.get? p.1 = none) := by
  have hne : ∀ p ∈ ex, p.1 ≠ 107 := by
    rcases R with ⟨_, rfl⟩ | ⟨c', _, hc, ⟨_, rfl⟩ | ⟨oc, vs, t, rfl, _⟩⟩
    · intro p hp; cases hp
    · intro p hp; cases hp
    · intro p hp; rw [List.mem_singleton.mp hp]; exact hc
  rcases S with S | ⟨c', hc, hp, hr⟩
  · exact ⟨ps, ex, R, S.trans e, fun p hp => ⟨X _ _ (hne p hp) (N p hp).1, (N p hp).2⟩, fun p hp => ⟨hne p hp, .inl hp⟩⟩
  · obtain ⟨c₂, oc, vs, t, e2, ho, hd, hv⟩ := hr
    cases e2
    have h1 : c' ≠ 107 := fun q => by rw [q, e] at hc; cases hc
    have h2 : c' ≠ L := fun q => by obtain ⟨o, _, _, hL, _⟩ := F.ns; rw [q, hL] at hc; cases hc
    have h3 : g.get? c' = none := by
      cases q : g.get? c' with
      | none => rfl
      | some o => have := F.keep _ _ q; rw [hc] at this; cases this
    refine ⟨_, [(c', oc)], .inr ⟨c', rfl, h1, .inr ⟨oc, vs, t, rfl, hd, hv⟩⟩, hp, ?_, ?_⟩
    · intro p hp; rw [List.mem_singleton.mp hp]; exact ⟨ho, h2, h3⟩
    · intro p hp; rw [List.mem_singleton.mp hp]; exact ⟨h1, .inr hc⟩
theorem fr_ext (F : Fr g L h m) (X : ExtB h h') (hL : L ≠ 107) (h7 : g.get? 107 = none) : Fr g L h' m :=
  fr_but' (S := [107]) F (fun b o hb e => X b o (by simpa using hb) e) (by simpa using hL) (fun b hb => by rw [List.mem_singleton.mp hb]; exact h7)
theorem news_ext (N : News g L h news) (X : ExtB h h') (off : ∀ p ∈ news, p.1 ≠ 107) : News g L h' news := fun p hp => ⟨X _ _ (off p hp) (N p hp).1, (N p hp).2⟩
theorem news_app {a b : List (Addr × Obj)} (N : News g L h a) (N' : News g L h b) : News g L h (a ++ b) := fun p hp => (List.mem_append.mp hp).elim (N p) (N' p)
end

/-- an element's end, told apart from other ends -/
def EndMark (P : Value → List (Addr × Obj) → Prop) (y : Value) (news' : List (Addr × Obj)) : Prop := P y news'
section
open LCg
variable {prog : PySem.Program} {w : World} {A : Around} {h₀ : Heap} {L : Addr} {m : Str → Option Value} {env : Env} {elt : Expr} {x : Str} {scope : Scope} {cl : List (Str × Addr)} {s : Shared} {S : List (Addr × Obj) → Prop} {P : Nat → Value → Prop} {Fin : List Value → List (Addr × Obj) → Prop} {news : List (Addr × Obj)}
theorem comp_invD {n : Nat} (Inv : Nat → List Value → List (Addr × Obj) → Prop) (h0 : Inv 0 [] news)
    (turn : ∀ i ys news₁ v I oI C oC D m₂ h tk (E' : Value → Shared → Prop), i < n → Inv i ys news₁ → P i v → NsObj oC m₂ → m₂ x = some v → Fr h₀ L h m → News h₀ L h ((I, oI) :: (C, oC) :: (D, lst ys) :: news₁) → Off3 I C D news₁ → ((@Ne Nat I C) ∧ (@Ne Nat I D) ∧ (@Ne Nat C D)) →
      wpAny (model prog w) A (eval elt (compEnvC scope cl C env)) (CompEnd h₀ L m { s with heap := h, toks := tk } I oI C oC D (lst ys) S (fun y news' => EndMark (fun y news' => Inv (i + 1) (ys ++ [y]) news') y news')) E' { s with heap := h, toks := tk })
    (fin : ∀ ys news', Inv n ys news' → Fin ys news') : CompRest prog w A h₀ L m env elt x scope cl s S P Fin n 0 [] news :=
  comp_inv Inv h0 turn fin
end

inductive RowsAre : List Value → List Int → Prop
  | nil : RowsAre [] []
  | cons (y : Int) (t : Tok) {vs ys} : RowsAre vs ys → RowsAre (.str (rowS y) t :: vs) (y :: ys)
theorem RowsAre.snoc {vs : List Value} {ys : List Int} (h : RowsAre vs ys) (y : Int) (t : Tok) : RowsAre (vs ++ [.str (rowS y) t]) (ys ++ [y]) := by
  induction h with
  | nil => exact .cons y t .nil
  | cons z u _ ih => exact .cons z u ih

/-- a name of the block's that a cell holds -/
theorem comp_cell {M : Model} {A : Around} {E : Value → Shared → Prop} {s : Shared} {C c : Addr} {scope : Scope} {cl : List (Str × Addr)} {env : Env} {o : Obj} {y : Str} {pos : Pos} {v : Value} {Q : Value → Shared → Prop} (ho : s.heap.get? c = some o) (hd : o.data = .cell (some v)) (hc : cl.lookup y = some c) (h : Q v s)
    (hk : (compEnvC scope cl C env).scope.kind = .function := by rfl) (hx : (compEnvC scope cl C env).kindOf y = some .cell := by rfl) (hb : (y == ("__debug__" : Str)) = false := by decide) :
    wpAny M A (eval (.Name y pos) (compEnvC scope cl C env)) Q E s := wpAny_Name (wpAny_loadName_cell hk hx hc ⟨o, ho, hd⟩ h) hb

theorem RowsAre.length {vs : List Value} {ys : List Int} (h : RowsAre vs ys) : vs.length = ys.length := by
  induction h with
  | nil => rfl
  | cons _ _ _ ih => simp [ih]
theorem RowsAre.carried {vs : List Value} {ys : List Int} (h : RowsAre vs ys) : CarriedAll vs (ys.map fun y => PyData.str (rowS y)) := by
  induction h with
  | nil => exact .nil
  | cons y t _ ih => exact .cons (.str _ t) ih
theorem rows_of {n : Nat} (f : Nat → Int) : ∀ {zs : List Value}, zs.length = n → (∀ i (h : i < zs.length), ∃ t, zs[i] = Value.str (rowS (f i)) t) → RowsAre zs ((List.range n).map f) := by
  induction n generalizing f with
  | zero =>
    intro zs hl _
    rw [List.length_eq_zero_iff.mp hl]; exact .nil
  | succ n ih =>
    intro zs hl h
    cases zs with
    | nil => simp at hl
    | cons z r =>
      obtain ⟨t, e⟩ := h 0 (by simp)
      have e' : z = Value.str (rowS (f 0)) t := e
      have := ih (fun i => f (i + 1)) (zs := r) (by simpa using hl) fun i hi => h (i + 1) (by simpa using hi)
      rw [List.range_succ_eq_map, List.map_cons, List.map_map, e']
      exact .cons _ t this
theorem eqv_strs (ys : List Int) : PyData.eqv (.list (ys.map fun y => PyData.str (rowS y))) (.list (ys.map fun y => PyData.str (rowS y))) = true := by
  have h : ∀ ys : List Int, PyData.eqvAll (ys.map fun y => PyData.str (rowS y)) (ys.map fun y => PyData.str (rowS y)) = true := by
    intro ys; induction ys with
    | nil => rfl
    | cons b r ih => simp [PyData.eqvAll, PyData.eqv, ih]
  simp [PyData.eqv, h]

theorem kindCh_lt (k : Int) : kindCh k < 1114112 := by
  unfold kindCh
  generalize k.toNat = n
  by_cases h : n < 16
  · have : ∀ n, n < 16 → ([63, 112, 99, 63, 100, 63, 98, 63, 45, 63, 108, 63, 115, 63, 63, 63] : List Nat).getD n 63 < 1114112 := by decide
    exact this n h
  · rw [List.getD_eq_getElem?_getD, List.getElem?_eq_none (by simpa using h)]; decide
theorem rw1_lt (b : Int) {c : Nat} (h : c < 1114112) : rw1 b c < 1114112 := by unfold rw1; split <;> omega
theorem x3_lt (x a : Int) {c d : Nat} (h : c < 1114112) (h' : d < 1114112) : x3 x a c d < 1114112 := by unfold x3; (repeat' split) <;> omega
theorem rowS_ok (y : Int) : PyData.strOk (rowS y) = true := by
  simp only [PyData.strOk, rowS, List.all_toArray, List.all_cons, List.all_nil, Bool.and_true, Bool.and_eq_true, decide_eq_true_eq]
  exact ⟨kindCh_lt _, rw1_lt _ (by decide), rw1_lt _ (by decide), x3_lt _ _ (by decide) (by decide), rw1_lt _ (by decide), rw1_lt _ (by decide), x3_lt _ _ (by decide) (by decide), rw1_lt _ (by decide), rw1_lt _ (by decide), x3_lt _ _ (by decide) (by decide)⟩
theorem shaped_strs (ys : List Int) : SeqAt.shaped (.list (ys.map fun y => PyData.str (rowS y))) = true := by
  have h1 : ∀ ys : List Int, PyData.canLayAll0 (ys.map fun y => PyData.str (rowS y)) = true := by
    intro ys; induction ys with
    | nil => rfl
    | cons b r ih => simp [PyData.canLayAll0, PyData.canLay0, ih, rowS_ok]
  have h2 : ∀ ys : List Int, PyData.depthAll (ys.map fun y => PyData.str (rowS y)) = 0 := by
    intro ys; induction ys with
    | nil => rfl
    | cons b r ih => simp [PyData.depthAll, PyData.depth, ih]
  simp [SeqAt.shaped, PyData.canLay0, PyData.depth, h1, h2]

/-! the lists of rights on the ledger -/
def RObj (o : Obj) (y : Int) : Prop := o.cls = .type "list" ∧ ∃ n, o.data = .seq (bitsV y).toArray n
inductive REs : List (Addr × Obj) → List Int → Prop
  | nil : REs [] []
  | cons {r : Addr} {o : Obj} {y : Int} {es : List (Addr × Obj)} {ys : List Int} : RObj o y → REs es ys → REs ((r, o) :: es) (y :: ys)
theorem REs.snoc {es : List (Addr × Obj)} {ys : List Int} (h : REs es ys) {r : Addr} {o : Obj} {y : Int} (ho : RObj o y) : REs (es ++ [(r, o)]) (ys ++ [y]) := by
  induction h with
  | nil => exact .cons ho .nil
  | cons h' _ ih => exact .cons h' ih
theorem REs.length {es : List (Addr × Obj)} {ys : List Int} (h : REs es ys) : es.length = ys.length := by
  induction h with
  | nil => rfl
  | cons _ _ ih => simp [ih]
theorem REs.at {es : List (Addr × Obj)} {ys : List Int} (h : REs es ys) : ∀ {i : Nat} {e : Addr × Obj}, es[i]? = some e → ∃ y, ys[i]? = some y ∧ RObj e.2 y := by
  induction h with
  | nil => intro i e he; simp at he
  | cons h' _ ih =>
    intro i e he
    cases i with
    | zero =>
      have := Option.some.inj he
      rw [← this]
      exact ⟨_, rfl, h'⟩
    | succ j => exact ih (by simpa using he)
theorem RowsAre.at {vs : List Value} {ys : List Int} (h : RowsAre vs ys) : ∀ {i : Nat} {v : Value}, vs[i]? = some v → ∃ y t, ys[i]? = some y ∧ v = .str (rowS y) t := by
  induction h with
  | nil => intro i v hv; simp at hv
  | cons y t _ ih =>
    intro i v hv
    cases i with
    | zero => exact ⟨y, t, rfl, by simpa using hv.symm⟩
    | succ j => exact ih (by simpa using hv)
end

section
open PySem PySem.W PyProof.Rows
set_option maxRecDepth 100000
/-! bits -/
theorem and_nat {x m : Int} (hx : 0 ≤ x) (hm : 0 ≤ m) : Builtin.bitAnd x m = ((x.toNat &&& m.toNat : Nat) : Int) := by
  unfold Builtin.bitAnd
  rw [decide_eq_true hx, decide_eq_true hm]
theorem and_4095 {x : Int} (hx : 0 ≤ x) : Builtin.bitAnd x 4095 = x % 4096 := by
  rw [and_nat hx (by decide)]
  have : x.toNat &&& (4095 : Int).toNat = x.toNat % 4096 := Nat.and_two_pow_sub_one_eq_mod x.toNat 12
  rw [this]; omega
theorem land_eq_iff (x m : Nat) : x &&& m = m ↔ ∀ i, m.testBit i = true → x.testBit i = true := by
  constructor
  · intro h i hi
    have := congrArg (fun z => z.testBit i) h
    simp only [Nat.testBit_and, hi, Bool.and_true] at this
    exact this
  · intro h
    refine Nat.eq_of_testBit_eq fun i => ?_
    rw [Nat.testBit_and]
    cases hm : m.testBit i with
    | false => simp
    | true => simp [h i hm]
theorem tb_lt {m k i : Nat} (hm : m < 2 ^ k) (hi : m.testBit i = true) : i < k := by
  rcases Nat.lt_or_ge i k with h | h
  · exact h
  · rw [Nat.testBit_lt_two_pow (Nat.lt_of_lt_of_le hm (Nat.pow_le_pow_right (by decide) h))] at hi; cases hi
theorem tb_int {x : Int} (hx : 0 ≤ x) (k : Nat) : x.toNat.testBit k = decide (x / 2 ^ k % 2 = 1) := by
  rw [Nat.testBit_eq_decide_div_mod_eq]
  have : ((x.toNat / 2 ^ k % 2 : Nat) : Int) = x / 2 ^ k % 2 := by
    push_cast
    rw [Int.toNat_of_nonneg hx]
  by_cases h : x.toNat / 2 ^ k % 2 = 1
  · rw [decide_eq_true h, decide_eq_true (by rw [← this, h]; rfl)]
  · rw [decide_eq_false h, decide_eq_false (by rw [← this]; intro e; exact h (by omega))]
/-- one bit asked -/
theorem ask1 {x : Int} (hx : 0 ≤ x) (k : Nat) (hk : k < 12) : (Builtin.bitAnd x ((2 ^ k : Nat) : Int) == ((2 ^ k : Nat) : Int)) = decide (x / 2 ^ k % 2 = 1) := by
  rw [and_nat hx (Int.natCast_nonneg _), ← tb_int hx k, Int.toNat_natCast]
  have h : x.toNat &&& 2 ^ k = 2 ^ k ↔ x.toNat.testBit k = true := by
    rw [land_eq_iff]
    constructor
    · intro h; exact h k (by simp [Nat.testBit_two_pow])
    · intro h i hi
      rw [Nat.testBit_two_pow] at hi
      have : k = i := by simpa using hi
      exact this ▸ h
  cases hb : x.toNat.testBit k with
  | true => rw [h.mpr hb]; simp
  | false =>
    have : ¬ (x.toNat &&& 2 ^ k = 2 ^ k) := fun e => by rw [h.mp e] at hb; cases hb
    rw [beq_eq_false_iff_ne]
    intro e
    exact this (by exact_mod_cast e)
/-- two bits asked -/
theorem ask2 {x : Int} (hx : 0 ≤ x) (j k : Nat) (m : Nat) (hm : ∀ i, m.testBit i = (decide (i = j) || decide (i = k))) : (Builtin.bitAnd x (m : Int) == (m : Int)) = (decide (x / 2 ^ j % 2 = 1) && decide (x / 2 ^ k % 2 = 1)) := by
  rw [and_nat hx (Int.natCast_nonneg _), ← tb_int hx k, ← tb_int hx j, Int.toNat_natCast]
  have h : x.toNat &&& m = m ↔ (x.toNat.testBit j && x.toNat.testBit k) = true := by
    rw [land_eq_iff, Bool.and_eq_true]
    constructor
    · intro h; exact ⟨h j (by simp [hm]), h k (by simp [hm])⟩
    · intro h i hi
      rw [hm] at hi
      rcases Bool.or_eq_true_iff.mp hi with e | e
      · rw [of_decide_eq_true e]; exact h.1
      · rw [of_decide_eq_true e]; exact h.2
  cases hb : (x.toNat.testBit j && x.toNat.testBit k) with
  | true => rw [h.mpr hb]; simp
  | false =>
    have : ¬ (x.toNat &&& m = m) := fun e => by rw [h.mp e] at hb; cases hb
    rw [beq_eq_false_iff_ne]
    intro e
    exact this (by exact_mod_cast e)
theorem two_bits (j k m : Nat) (hm : m < 4096) (h : ∀ i, i < 12 → m.testBit i = (decide (i = j) || decide (i = k))) (hj : j < 12) (hk : k < 12) : ∀ i, m.testBit i = (decide (i = j) || decide (i = k)) := by
  intro i
  by_cases hi : i < 12
  · exact h i hi
  · have h1 : m.testBit i = false := by
      cases hb : m.testBit i with
      | false => rfl
      | true => exact absurd (tb_lt (k := 12) hm hb) hi
    rw [h1, decide_eq_false (by omega), decide_eq_false (by omega)]; rfl
theorem and_kind {x : Int} (hx : 0 ≤ x) (hx2 : x < 65536) : Builtin.bitAnd x 61440 = x / 4096 * 4096 := by
  rw [and_nat hx (by decide)]
  have e : x.toNat &&& (61440 : Int).toNat = x.toNat / 2 ^ 12 * 2 ^ 12 := by
    refine Nat.eq_of_testBit_eq fun i => ?_
    rw [Nat.testBit_and, Nat.testBit_mul_two_pow]
    have hxl : x.toNat < 2 ^ 16 := by omega
    have h6 : ∀ i, i < 16 → (61440 : Int).toNat.testBit i = decide (12 ≤ i) := by decide
    by_cases hi : i < 16
    · rw [h6 i hi]
      by_cases h12 : 12 ≤ i
      · rw [decide_eq_true h12, Bool.and_true, Bool.true_and, Nat.testBit_div_two_pow]
        congr 1; omega
      · rw [decide_eq_false h12]; simp
    · have : x.toNat.testBit i = false := Nat.testBit_lt_two_pow (Nat.lt_of_lt_of_le hxl (Nat.pow_le_pow_right (by decide) (by omega)))
      rw [this, Bool.false_and, Nat.testBit_div_two_pow]
      have : x.toNat.testBit (i - 12 + 12) = false := Nat.testBit_lt_two_pow (Nat.lt_of_lt_of_le hxl (Nat.pow_le_pow_right (by decide) (by omega)))
      rw [this, Bool.and_false]
  rw [e]
  push_cast
  rw [Int.toNat_of_nonneg hx]

/-! filemode's listing is the law's -/
theorem pick1 {i : Nat} (hi : i ≠ 0) (y b : Int) (a : Addr) (c : Nat) : pickC i y [(a, b, c)] = if (Builtin.bitAnd y b == b) = true then c else 45 := by
  unfold pickC
  simp only [List.find?_cons, List.find?_nil, condB, if_neg hi]
  cases h : (Builtin.bitAnd y b == b) <;> simp [hi]
theorem pick3 {i : Nat} (hi : i ≠ 0) (y b1 b2 b3 : Int) (a1 a2 a3 : Addr) (c1 c2 c3 : Nat) : pickC i y [(a1, b1, c1), (a2, b2, c2), (a3, b3, c3)] =
    if (Builtin.bitAnd y b1 == b1) = true then c1 else if (Builtin.bitAnd y b2 == b2) = true then c2 else if (Builtin.bitAnd y b3 == b3) = true then c3 else 45 := by
  unfold pickC
  simp only [List.find?_cons, List.find?_nil, condB, if_neg hi]
  cases h1 : (Builtin.bitAnd y b1 == b1) <;> cases h2 : (Builtin.bitAnd y b2 == b2) <;> cases h3 : (Builtin.bitAnd y b3 == b3) <;> simp [hi]
theorem rw1_of (x : Int) (c : Nat) : (if decide (x = 1) = true then c else 45) = rw1 x c := by
  unfold rw1
  by_cases h : x = 1 <;> simp [h]
theorem x3_of (x a : Int) (cS cs : Nat) : (if (decide (a = 1) && decide (x = 1)) = true then cs else if decide (a = 1) = true then cS else if decide (x = 1) = true then 120 else 45) = x3 x a cS cs := by
  unfold x3
  by_cases h : x = 1 <;> by_cases h' : a = 1 <;> simp [h, h']
theorem kind_of {y : Int} (h0 : 0 ≤ y) (h1 : y < 65536) : chF y 0 = kindCh (y / 4096) := by
  show pickC 0 y [(66, 40960, 108), (67, 49152, 115), (68, 32768, 45), (69, 24576, 98), (70, 16384, 100), (71, 8192, 99), (72, 4096, 112)] = _
  unfold pickC
  simp only [List.find?_cons, List.find?_nil, condB, if_true, and_kind h0 h1]
  generalize hk : y / 4096 = k
  obtain ⟨n, rfl⟩ := Int.eq_ofNat_of_zero_le (show 0 ≤ k by omega)
  rcases lt16 n (by omega) with rfl | rfl | rfl | rfl | rfl | rfl | rfl | rfl | rfl | rfl | rfl | rfl | rfl | rfl | rfl | rfl <;> rfl
theorem fm_row {y : Int} (h0 : 0 ≤ y) (h1 : y < 65536) : (⟨((List.range 10).map (chF y)).toArray⟩ : Str) = rowS y := by
  have e1 : chF y 1 = rw1 (y / 256 % 2) 114 := (pick1 (by decide) y 256 74 114).trans (by rw [show (Builtin.bitAnd y 256 == 256) = _ from ask1 h0 8 (by decide)]; exact rw1_of _ _)
  have e2 : chF y 2 = rw1 (y / 128 % 2) 119 := (pick1 (by decide) y 128 76 119).trans (by rw [show (Builtin.bitAnd y 128 == 128) = _ from ask1 h0 7 (by decide)]; exact rw1_of _ _)
  have e4 : chF y 4 = rw1 (y / 32 % 2) 114 := (pick1 (by decide) y 32 82 114).trans (by rw [show (Builtin.bitAnd y 32 == 32) = _ from ask1 h0 5 (by decide)]; exact rw1_of _ _)
  have e5 : chF y 5 = rw1 (y / 16 % 2) 119 := (pick1 (by decide) y 16 84 119).trans (by rw [show (Builtin.bitAnd y 16 == 16) = _ from ask1 h0 4 (by decide)]; exact rw1_of _ _)
  have e7 : chF y 7 = rw1 (y / 4 % 2) 114 := (pick1 (by decide) y 4 90 114).trans (by rw [show (Builtin.bitAnd y 4 == 4) = _ from ask1 h0 2 (by decide)]; exact rw1_of _ _)
  have e8 : chF y 8 = rw1 (y / 2 % 2) 119 := (pick1 (by decide) y 2 92 119).trans (by rw [show (Builtin.bitAnd y 2 == 2) = _ from ask1 h0 1 (by decide)]; exact rw1_of _ _)
  have e3 : chF y 3 = x3 (y / 64 % 2) (y / 2048 % 2) 83 115 := (pick3 (by decide) y 2112 2048 64 78 79 80 115 83 120).trans (by
    rw [show (Builtin.bitAnd y 2112 == 2112) = _ from ask2 h0 11 6 2112 (two_bits 11 6 2112 (by decide) (by decide) (by decide) (by decide)), show (Builtin.bitAnd y 2048 == 2048) = _ from ask1 h0 11 (by decide), show (Builtin.bitAnd y 64 == 64) = _ from ask1 h0 6 (by decide)]
    exact x3_of _ _ _ _)
  have e6 : chF y 6 = x3 (y / 8 % 2) (y / 1024 % 2) 83 115 := (pick3 (by decide) y 1032 1024 8 86 87 88 115 83 120).trans (by
    rw [show (Builtin.bitAnd y 1032 == 1032) = _ from ask2 h0 10 3 1032 (two_bits 10 3 1032 (by decide) (by decide) (by decide) (by decide)), show (Builtin.bitAnd y 1024 == 1024) = _ from ask1 h0 10 (by decide), show (Builtin.bitAnd y 8 == 8) = _ from ask1 h0 3 (by decide)]
    exact x3_of _ _ _ _)
  have e9 : chF y 9 = x3 (y % 2) (y / 512 % 2) 84 116 := (pick3 (by decide) y 513 512 1 94 95 96 116 84 120).trans (by
    rw [show (Builtin.bitAnd y 513 == 513) = _ from ask2 h0 9 0 513 (two_bits 9 0 513 (by decide) (by decide) (by decide) (by decide)), show (Builtin.bitAnd y 512 == 512) = _ from ask1 h0 9 (by decide), show (Builtin.bitAnd y 1 == 1) = _ from ask1 h0 0 (by decide)]
    rw [show y / 2 ^ 0 % 2 = y % 2 from by simp]
    exact x3_of _ _ _ _)
  show (⟨#[chF y 0, chF y 1, chF y 2, chF y 3, chF y 4, chF y 5, chF y 6, chF y 7, chF y 8, chF y 9]⟩ : Str) = _
  rw [kind_of h0 h1, e1, e2, e3, e4, e5, e6, e7, e8, e9]
  rfl

/-! the image -/
noncomputable def hor (a0 a1 a2 a3 a4 a5 x : Int) : Int := ((((a5 * x + a4) * x + a3) * x + a2) * x + a1) * x + a0
noncomputable def imgY (a0 a1 a2 a3 a4 a5 x : Int) : Int := x / 4096 * 4096 + hor a0 a1 a2 a3 a4 a5 x % 4096
theorem img_lt {a0 a1 a2 a3 a4 a5 x : Int} (h0 : 0 ≤ x) (h1 : x < 65536) : 0 ≤ imgY a0 a1 a2 a3 a4 a5 x ∧ imgY a0 a1 a2 a3 a4 a5 x < 65536 := by
  unfold imgY
  omega
theorem hor_nonneg {a0 a1 a2 a3 a4 a5 x : Int} (hb : Small [a0, a1, a2, a3, a4, a5]) (h0 : 0 ≤ x) : 0 ≤ hor a0 a1 a2 a3 a4 a5 x := by
  have b0 := (hb 0).1; have b1 := (hb 1).1; have b2 := (hb 2).1; have b3 := (hb 3).1; have b4 := (hb 4).1; have b5 := (hb 5).1
  have c0 : 0 ≤ a0 := b0; have c1 : 0 ≤ a1 := b1; have c2 : 0 ≤ a2 := b2; have c3 : 0 ≤ a3 := b3; have c4 : 0 ≤ a4 := b4; have c5 : 0 ≤ a5 := b5
  have step : ∀ u v : Int, 0 ≤ u → 0 ≤ v → 0 ≤ u * x + v := fun u v hu hv => Int.add_nonneg (Int.mul_nonneg hu h0) hv
  exact step _ _ (step _ _ (step _ _ (step _ _ (step _ _ c5 c4) c3) c2) c1) c0
theorem img_eq {a0 a1 a2 a3 a4 a5 x : Int} (hb : Small [a0, a1, a2, a3, a4, a5]) (h0 : 0 ≤ x) (h1 : x < 65536) :
    Builtin.bitAnd x 61440 + Builtin.bitAnd (((((a5 * x + a4) * x + a3) * x + a2) * x + a1) * x + a0) 4095 = imgY a0 a1 a2 a3 a4 a5 x := by
  rw [and_kind h0 h1]
  show x / 4096 * 4096 + Builtin.bitAnd (hor a0 a1 a2 a3 a4 a5 x) 4095 = _
  rw [and_4095 (hor_nonneg hb h0)]; rfl
theorem mod_step {u u' x v m : Int} (h : u % m = u' % m) : (u * x + v) % m = (u' * (x % m) + v) % m := by
  rw [Int.add_emod (u * x), Int.add_emod (u' * (x % m)), Int.mul_emod u x, Int.mul_emod u' (x % m), Int.emod_emod, h]
theorem hor_mod (a0 a1 a2 a3 a4 a5 x m : Int) : hor a0 a1 a2 a3 a4 a5 x % m = hor a0 a1 a2 a3 a4 a5 (x % m) % m :=
  mod_step (mod_step (mod_step (mod_step (mod_step rfl))))
theorem pow_sum (a0 a1 a2 a3 a4 a5 r : Int) : ((rangeKs 0 6).map fun k => [a0, a1, a2, a3, a4, a5].getD k.toNat 0 * r ^ k.toNat).sum = hor a0 a1 a2 a3 a4 a5 r := by
  have e : rangeKs 0 6 = [0, 1, 2, 3, 4, 5] := by decide
  rw [e]
  show a0 * r ^ 0 + (a1 * r ^ 1 + (a2 * r ^ 2 + (a3 * r ^ 3 + (a4 * r ^ 4 + (a5 * r ^ 5 + 0))))) = _
  unfold hor
  have p1 : r ^ 1 = r := by rw [Int.pow_succ, Int.pow_zero, Int.one_mul]
  have p2 : r ^ 2 = r * r := by rw [Int.pow_succ, p1]
  have p3 : r ^ 3 = r * r * r := by rw [Int.pow_succ, p2]
  have p4 : r ^ 4 = r * r * r * r := by rw [Int.pow_succ, p3]
  have p5 : r ^ 5 = r * r * r * r * r := by rw [Int.pow_succ, p4]
  rw [p1, p2, p3, p4, p5, Int.pow_zero]
  simp only [Int.add_mul, Int.mul_one, Int.add_zero, ← Int.mul_assoc]
  omega
theorem plain_eq {a0 a1 a2 a3 a4 a5 n : Int} :
    n - n.fmod 4096 + ((rangeKs 0 6).map fun k => [a0, a1, a2, a3, a4, a5].getD k.toNat 0 * n.fmod 4096 ^ k.toNat).sum.fmod 4096 = imgY a0 a1 a2 a3 a4 a5 n := by
  rw [pow_sum, Int.fmod_eq_emod_of_nonneg _ (show (0 : Int) ≤ 4096 by decide), Int.fmod_eq_emod_of_nonneg _ (show (0 : Int) ≤ 4096 by decide)]
  unfold imgY
  rw [hor_mod a0 a1 a2 a3 a4 a5 n 4096]
  omega

noncomputable def modesL (f : Int) : List Int := List.map (fun k' => f + k') (rangeKs 0 ((8 : Int) - 0).toNat) ++ List.map (fun k' => Builtin.bitXor f (1 * 2 ^ k'.toNat)) (rangeKs 3 ((12 : Int) - 3).toNat)
theorem modesL_eq (f : Int) : modesL f = [f + 0, f + 1, f + 2, f + 3, f + 4, f + 5, f + 6, f + 7, Builtin.bitXor f 8, Builtin.bitXor f 16, Builtin.bitXor f 32, Builtin.bitXor f 64, Builtin.bitXor f 128, Builtin.bitXor f 256, Builtin.bitXor f 512, Builtin.bitXor f 1024, Builtin.bitXor f 2048] := by
  unfold modesL
  rw [show rangeKs 0 ((8 : Int) - 0).toNat = [0, 1, 2, 3, 4, 5, 6, 7] from by decide, show rangeKs 3 ((12 : Int) - 3).toNat = [3, 4, 5, 6, 7, 8, 9, 10, 11] from by decide]
  rfl
theorem and_bit {x : Int} (hx : 0 ≤ x) (k : Nat) : Builtin.bitAnd x ((2 ^ k : Nat) : Int) = x / 2 ^ k % 2 * 2 ^ k := by
  rw [and_nat hx (Int.natCast_nonneg _), Int.toNat_natCast]
  have e : x.toNat &&& 2 ^ k = x.toNat / 2 ^ k % 2 * 2 ^ k := by
    refine Nat.eq_of_testBit_eq fun i => ?_
    rw [Nat.testBit_and, Nat.testBit_two_pow, Nat.testBit_mul_two_pow]
    by_cases h : k = i
    · subst h
      simp [Nat.testBit_eq_decide_div_mod_eq]
    · rw [decide_eq_false h, Bool.and_false]
      by_cases hk : k ≤ i
      · rw [decide_eq_true hk, Bool.true_and, Nat.testBit_eq_decide_div_mod_eq]
        have hd : x.toNat / 2 ^ k % 2 / 2 ^ (i - k) = 0 := by
          refine Nat.div_eq_of_lt (Nat.lt_of_lt_of_le (Nat.mod_lt _ (by decide)) ?_)
          have : 2 ^ 1 ≤ 2 ^ (i - k) := Nat.pow_le_pow_right (by decide) (by omega)
          simpa using this
        rw [hd]; rfl
      · rw [decide_eq_false hk, Bool.false_and]
  rw [e]; push_cast
  rw [Int.toNat_of_nonneg hx]
/-- one right turned: the mode goes up or down by it -/
theorem xor_bit {x : Int} (hx : 0 ≤ x) (k : Nat) : Builtin.bitXor x ((2 ^ k : Nat) : Int) = x + (1 - 2 * (x / 2 ^ k % 2)) * 2 ^ k := by
  rw [bitXor_and, and_bit hx k]
  push_cast
  rw [Int.sub_mul, Int.one_mul, Int.mul_assoc]
  omega
theorem flip3 {f : Int} (h0 : 0 ≤ f) (h1 : f < 65536) : 0 ≤ f + (1 - 2 * (f / 8 % 2)) * 8 ∧ f + (1 - 2 * (f / 8 % 2)) * 8 < 65536 := by omega
theorem flip4 {f : Int} (h0 : 0 ≤ f) (h1 : f < 65536) : 0 ≤ f + (1 - 2 * (f / 16 % 2)) * 16 ∧ f + (1 - 2 * (f / 16 % 2)) * 16 < 65536 := by omega
theorem flip5 {f : Int} (h0 : 0 ≤ f) (h1 : f < 65536) : 0 ≤ f + (1 - 2 * (f / 32 % 2)) * 32 ∧ f + (1 - 2 * (f / 32 % 2)) * 32 < 65536 := by omega
theorem flip6 {f : Int} (h0 : 0 ≤ f) (h1 : f < 65536) : 0 ≤ f + (1 - 2 * (f / 64 % 2)) * 64 ∧ f + (1 - 2 * (f / 64 % 2)) * 64 < 65536 := by omega
theorem flip7 {f : Int} (h0 : 0 ≤ f) (h1 : f < 65536) : 0 ≤ f + (1 - 2 * (f / 128 % 2)) * 128 ∧ f + (1 - 2 * (f / 128 % 2)) * 128 < 65536 := by omega
theorem flip8 {f : Int} (h0 : 0 ≤ f) (h1 : f < 65536) : 0 ≤ f + (1 - 2 * (f / 256 % 2)) * 256 ∧ f + (1 - 2 * (f / 256 % 2)) * 256 < 65536 := by omega
theorem flip9 {f : Int} (h0 : 0 ≤ f) (h1 : f < 65536) : 0 ≤ f + (1 - 2 * (f / 512 % 2)) * 512 ∧ f + (1 - 2 * (f / 512 % 2)) * 512 < 65536 := by omega
theorem flip10 {f : Int} (h0 : 0 ≤ f) (h1 : f < 65536) : 0 ≤ f + (1 - 2 * (f / 1024 % 2)) * 1024 ∧ f + (1 - 2 * (f / 1024 % 2)) * 1024 < 65536 := by omega
theorem flip11 {f : Int} (h0 : 0 ≤ f) (h1 : f < 65536) : 0 ≤ f + (1 - 2 * (f / 2048 % 2)) * 2048 ∧ f + (1 - 2 * (f / 2048 % 2)) * 2048 < 65536 := by omega
theorem low8 {f j : Int} (h0 : 0 ≤ f) (h1 : f < 65536) (h8 : f % 8 = 0) (a : 0 ≤ j) (b : j < 8) : 0 ≤ f + j ∧ f + j < 65536 := by omega
theorem modes_lt {f : Int} (h0 : 0 ≤ f) (h1 : f < 65536) (h8 : f % 8 = 0) : ∀ x ∈ modesL f, 0 ≤ x ∧ x < 65536 := by
  rw [modesL_eq]
  have y3 : 0 ≤ Builtin.bitXor f 8 ∧ Builtin.bitXor f 8 < 65536 := by
    rw [show Builtin.bitXor f 8 = f + (1 - 2 * (f / 8 % 2)) * 8 from xor_bit h0 3]; exact flip3 h0 h1
  have y4 : 0 ≤ Builtin.bitXor f 16 ∧ Builtin.bitXor f 16 < 65536 := by
    rw [show Builtin.bitXor f 16 = f + (1 - 2 * (f / 16 % 2)) * 16 from xor_bit h0 4]; exact flip4 h0 h1
  have y5 : 0 ≤ Builtin.bitXor f 32 ∧ Builtin.bitXor f 32 < 65536 := by
    rw [show Builtin.bitXor f 32 = f + (1 - 2 * (f / 32 % 2)) * 32 from xor_bit h0 5]; exact flip5 h0 h1
  have y6 : 0 ≤ Builtin.bitXor f 64 ∧ Builtin.bitXor f 64 < 65536 := by
    rw [show Builtin.bitXor f 64 = f + (1 - 2 * (f / 64 % 2)) * 64 from xor_bit h0 6]; exact flip6 h0 h1
  have y7 : 0 ≤ Builtin.bitXor f 128 ∧ Builtin.bitXor f 128 < 65536 := by
    rw [show Builtin.bitXor f 128 = f + (1 - 2 * (f / 128 % 2)) * 128 from xor_bit h0 7]; exact flip7 h0 h1
  have y8 : 0 ≤ Builtin.bitXor f 256 ∧ Builtin.bitXor f 256 < 65536 := by
    rw [show Builtin.bitXor f 256 = f + (1 - 2 * (f / 256 % 2)) * 256 from xor_bit h0 8]; exact flip8 h0 h1
  have y9 : 0 ≤ Builtin.bitXor f 512 ∧ Builtin.bitXor f 512 < 65536 := by
    rw [show Builtin.bitXor f 512 = f + (1 - 2 * (f / 512 % 2)) * 512 from xor_bit h0 9]; exact flip9 h0 h1
  have y10 : 0 ≤ Builtin.bitXor f 1024 ∧ Builtin.bitXor f 1024 < 65536 := by
    rw [show Builtin.bitXor f 1024 = f + (1 - 2 * (f / 1024 % 2)) * 1024 from xor_bit h0 10]; exact flip10 h0 h1
  have y11 : 0 ≤ Builtin.bitXor f 2048 ∧ Builtin.bitXor f 2048 < 65536 := by
    rw [show Builtin.bitXor f 2048 = f + (1 - 2 * (f / 2048 % 2)) * 2048 from xor_bit h0 11]; exact flip11 h0 h1
  intro x hx
  simp only [List.mem_cons, List.not_mem_nil, or_false] at hx
  have z : ∀ j : Int, 0 ≤ j → j < 8 → 0 ≤ f + j ∧ f + j < 65536 := fun j a b => low8 h0 h1 h8 a b
  rcases hx with rfl | rfl | rfl | rfl | rfl | rfl | rfl | rfl | rfl | rfl | rfl | rfl | rfl | rfl | rfl | rfl | rfl
  · exact z 0 (by decide) (by decide)
  · exact z 1 (by decide) (by decide)
  · exact z 2 (by decide) (by decide)
  · exact z 3 (by decide) (by decide)
  · exact z 4 (by decide) (by decide)
  · exact z 5 (by decide) (by decide)
  · exact z 6 (by decide) (by decide)
  · exact z 7 (by decide) (by decide)
  · exact y3
  · exact y4
  · exact y5
  · exact y6
  · exact y7
  · exact y8
  · exact y9
  · exact y10
  · exact y11
end

section
open PySem PySem.W PyProof.Rows
set_option maxRecDepth 100000
noncomputable def bits (y : Int) : List Bool := (List.range 12).map (bitB y)
theorem bitsV_bits (y : Int) : bitsV y = (bits y).map Value.bool := by unfold bitsV bits; rw [List.map_map]; rfl
theorem bits_len (y : Int) : (bits y).length = 12 := by simp [bits]
theorem two_pos (i : Nat) : (2 : Int) ^ i ≠ 0 := Int.ne_of_gt (Int.pow_pos (by decide))
theorem bit_low (X T : Int) {i p : Nat} (h : i < p) : bitB (X + 2 ^ p * T) i = bitB X i := by
  unfold bitB
  have e : X + 2 ^ p * T = X + 2 ^ i * (2 * (2 ^ (p - i - 1) * T)) := by
    have : (2 : Int) ^ p = 2 ^ i * (2 * 2 ^ (p - i - 1)) := by
      rw [← Int.pow_succ', ← Int.pow_add]; congr 1; omega
    rw [this, Int.mul_assoc, Int.mul_assoc]
  rw [e, Int.add_mul_ediv_left _ _ (two_pos i), Int.add_mul_emod_self_left]
theorem bit_at (X T : Int) (p : Nat) : (bitB (X + 2 ^ p * T) p != bitB X p) = decide (T % 2 = 1) := by
  unfold bitB
  rw [Int.add_mul_ediv_left _ _ (two_pos p)]
  generalize X / 2 ^ p = z
  rcases mod2 z with h | h <;> rcases mod2 T with h' | h'
  · rw [h, h', show (z + T) % 2 = 0 by omega]; decide
  · rw [h, h', show (z + T) % 2 = 1 by omega]; decide
  · rw [h, h', show (z + T) % 2 = 1 by omega]; decide
  · rw [h, h', show (z + T) % 2 = 0 by omega]; decide
theorem bits_at (X : Int) {p : Nat} (hp : p < 12) : (bits X).getD p false = bitB X p := by
  unfold bits
  rw [List.getD_eq_getElem?_getD, List.getElem?_map, List.getElem?_range hp]; rfl
theorem bits_turn (X T : Int) {p : Nat} (hp : p < 12) : (bits (X + 2 ^ p * T)).take p = (bits X).take p ∧ (((bits (X + 2 ^ p * T)).getD p false != (bits X).getD p false) = decide (T % 2 = 1)) := by
  constructor
  · unfold bits
    rw [← List.map_take, ← List.map_take]
    refine List.map_congr_left fun i hi => bit_low X T ?_
    rw [List.take_range] at hi
    have := List.mem_range.mp hi
    omega
  · rw [bits_at _ hp, bits_at _ hp, bit_at]
section
variable {a0 a1 a2 a3 a4 a5 : Int}
theorem bits_img (x : Int) : bits (imgY a0 a1 a2 a3 a4 a5 x) = bits (hor a0 a1 a2 a3 a4 a5 x) := by
  unfold bits
  refine List.map_congr_left fun i hi => ?_
  have hi' := List.mem_range.mp hi
  have e1 : imgY a0 a1 a2 a3 a4 a5 x = hor a0 a1 a2 a3 a4 a5 x % 4096 + 2 ^ 12 * (x / 4096) := by unfold imgY; rw [show (2 : Int) ^ 12 = 4096 from rfl]; omega
  have e2 : hor a0 a1 a2 a3 a4 a5 x = hor a0 a1 a2 a3 a4 a5 x % 4096 + 2 ^ 12 * (hor a0 a1 a2 a3 a4 a5 x / 4096) := by rw [show (2 : Int) ^ 12 = 4096 from rfl]; omega
  rw [e1, bit_low _ _ hi']
  rw [e2, bit_low _ _ hi']
  rw [← e2]
theorem step_d (u s x d v : Int) : (u + d * s) * (x + d) + v = (u * x + v) + d * (s * (x + d) + u) := by
  simp only [Int.add_mul, Int.mul_add]
  have h1 : d * s * x = d * (s * x) := Int.mul_assoc ..
  have h2 : d * s * d = d * (s * d) := Int.mul_assoc ..
  have h3 : u * d = d * u := Int.mul_comm ..
  omega
theorem even_mul (w : Int) {x : Int} (h : x % 2 = 0) : (w * x) % 2 = 0 := by rw [Int.mul_emod, h, Int.mul_zero]; rfl
theorem odd_mul (w : Int) {x : Int} (h : x % 2 = 1) : (w * x) % 2 = w % 2 := by rw [Int.mul_emod, h, Int.mul_one, Int.emod_emod]
theorem hor_step (a0 a1 a2 a3 a4 a5 f d : Int) : hor a0 a1 a2 a3 a4 a5 (f + d) = hor a0 a1 a2 a3 a4 a5 f + d * ((((a5 * (f + d) + (a5 * f + a4)) * (f + d) + ((a5 * f + a4) * f + a3)) * (f + d) + (((a5 * f + a4) * f + a3) * f + a2)) * (f + d) + ((((a5 * f + a4) * f + a3) * f + a2) * f + a1)) := by
  unfold hor
  rw [show a5 * (f + d) + a4 = (a5 * f + a4) + d * a5 by rw [Int.mul_add, Int.mul_comm a5 d]; omega, step_d, step_d, step_d, step_d]
theorem half_sum {X S T a : Int} (u : (X + S) % 2 = (T + a) % 2) (v : X % 2 = a % 2) : S % 2 = T % 2 := by
  rw [Int.add_emod, v, ← Int.add_emod, Int.add_comm] at u
  exact (Int.emod_add_cancel_right a).mp u
theorem odd_sum {a0 a1 a2 a3 a4 a5 X S : Int} (u : (X + S) % 2 = hor a0 a1 a2 a3 a4 a5 1 % 2) (v : X % 2 = hor a0 a1 a2 a3 a4 a5 0 % 2) : S % 2 = (a1 + a2 + a3 + a4 + a5) % 2 := by
  unfold hor at u v
  simp only [Int.mul_one, Int.mul_zero, Int.zero_add] at u v
  exact half_sum (a := a0) (by rw [u]; congr 1; grind) v
theorem hor_turn (f d : Int) : ∃ S : Int, hor a0 a1 a2 a3 a4 a5 (f + d) = hor a0 a1 a2 a3 a4 a5 f + d * S ∧ (f % 2 = 0 → d % 2 = 0 → S % 2 = a1 % 2) ∧ (f % 2 = 0 → d = 1 → S % 2 = (a1 + a2 + a3 + a4 + a5) % 2) := by
  have hS := hor_step a0 a1 a2 a3 a4 a5 f d
  refine ⟨_, hS, fun hf hd => ?_, fun hf hd => ?_⟩
  · have e : (f + d) % 2 = 0 := by omega
    have h1 := even_mul ((((a5 * (f + d) + (a5 * f + a4)) * (f + d) + ((a5 * f + a4) * f + a3)) * (f + d) + (((a5 * f + a4) * f + a3) * f + a2))) e
    have h2 := even_mul (((a5 * f + a4) * f + a3) * f + a2) hf
    omega
  · subst hd
    have u := hor_mod a0 a1 a2 a3 a4 a5 (f + 1) 2
    have v := hor_mod a0 a1 a2 a3 a4 a5 f 2
    rw [show (f + 1) % 2 = 1 by omega] at u
    rw [hf] at v
    have s := hS
    rw [Int.one_mul] at s
    exact odd_sum (by rw [← s]; exact u) v
end
noncomputable def tIdx (p : Nat) : Nat := if p = 0 then 1 else if p = 1 then 2 else if p = 2 then 4 else p + 5
theorem mode_turn {f : Int} (h0 : 0 ≤ f) {p : Nat} (hp : p < 12) : ∃ e : Int, (modesL f)[tIdx p]? = some (f + 2 ^ p * e) ∧ (e = 1 ∨ e = -1) ∧ (p = 0 → e = 1) := by
  have key : ∀ k : Nat, f + (1 - 2 * (f / 2 ^ k % 2)) * 2 ^ k = f + 2 ^ k * (1 - 2 * (f / 2 ^ k % 2)) ∧ ((1 - 2 * (f / 2 ^ k % 2) = 1) ∨ (1 - 2 * (f / 2 ^ k % 2) = -1)) := fun k => by
    refine ⟨by rw [Int.mul_comm], ?_⟩
    rcases mod2 (f / 2 ^ k) with h | h <;> rw [h]
    · exact .inl rfl
    · exact .inr rfl
  rw [modesL_eq]
  rcases lt12 p hp with rfl | rfl | rfl | rfl | rfl | rfl | rfl | rfl | rfl | rfl | rfl | rfl
  · exact ⟨1, rfl, .inl rfl, fun _ => rfl⟩
  · exact ⟨1, rfl, .inl rfl, fun _ => rfl⟩
  · exact ⟨1, rfl, .inl rfl, fun h => by cases h⟩
  · exact ⟨_, congrArg some ((xor_bit h0 3).trans (key 3).1), (key 3).2, fun h => by cases h⟩
  · exact ⟨_, congrArg some ((xor_bit h0 4).trans (key 4).1), (key 4).2, fun h => by cases h⟩
  · exact ⟨_, congrArg some ((xor_bit h0 5).trans (key 5).1), (key 5).2, fun h => by cases h⟩
  · exact ⟨_, congrArg some ((xor_bit h0 6).trans (key 6).1), (key 6).2, fun h => by cases h⟩
  · exact ⟨_, congrArg some ((xor_bit h0 7).trans (key 7).1), (key 7).2, fun h => by cases h⟩
  · exact ⟨_, congrArg some ((xor_bit h0 8).trans (key 8).1), (key 8).2, fun h => by cases h⟩
  · exact ⟨_, congrArg some ((xor_bit h0 9).trans (key 9).1), (key 9).2, fun h => by cases h⟩
  · exact ⟨_, congrArg some ((xor_bit h0 10).trans (key 10).1), (key 10).2, fun h => by cases h⟩
  · exact ⟨_, congrArg some ((xor_bit h0 11).trans (key 11).1), (key 11).2, fun h => by cases h⟩
/-- what turning a right changes -/
theorem turn_ok {a0 a1 a2 a3 a4 a5 f : Int} (h0 : 0 ≤ f) (h8 : f % 8 = 0) {p : Nat} (hp : p < 12) : ∃ x, (modesL f)[tIdx p]? = some x ∧ (bits (imgY a0 a1 a2 a3 a4 a5 x)).take p = (bits (imgY a0 a1 a2 a3 a4 a5 f)).take p ∧
    (((bits (imgY a0 a1 a2 a3 a4 a5 x)).getD p false != (bits (imgY a0 a1 a2 a3 a4 a5 f)).getD p false) = (if p = 0 then decide ((a1 + a2 + a3 + a4 + a5) % 2 = 1) else decide (a1 % 2 = 1))) := by
  obtain ⟨e, hx, he, hp0⟩ := mode_turn h0 hp
  refine ⟨_, hx, ?_⟩
  obtain ⟨S, hS, s1, s2⟩ := hor_turn (a0 := a0) (a1 := a1) (a2 := a2) (a3 := a3) (a4 := a4) (a5 := a5) f (2 ^ p * e)
  rw [bits_img, bits_img, hS, Int.mul_assoc]
  have hf2 : f % 2 = 0 := by omega
  have hT : (e * S) % 2 = S % 2 := by rcases he with rfl | rfl <;> omega
  obtain ⟨u, v⟩ := bits_turn (hor a0 a1 a2 a3 a4 a5 f) (e * S) hp
  refine ⟨u, v.trans ?_⟩
  rw [hT]
  by_cases h : p = 0
  · subst h
    rw [if_pos rfl, s2 hf2 (by rw [hp0 rfl]; rfl)]
  · rw [if_neg h, s1 hf2]
    obtain ⟨q, rfl⟩ : ∃ q, p = q + 1 := ⟨p - 1, by omega⟩
    rw [Int.pow_succ, Int.mul_assoc, Int.mul_comm, Int.mul_assoc, Int.mul_emod]
    simp
/-! others' rights -/
noncomputable def othL (a0 a1 a2 a3 a4 a5 : Int) : List Int := (List.range 8).map fun (j : Nat) => hor a0 a1 a2 a3 a4 a5 (j : Int) % 8
theorem oth_mode {a0 a1 a2 a3 a4 a5 f : Int} (h8 : f % 8 = 0) {j : Nat} (hj : j < 8) : imgY a0 a1 a2 a3 a4 a5 (f + (j : Int)) % 8 = hor a0 a1 a2 a3 a4 a5 (j : Int) % 8 := by
  have e : imgY a0 a1 a2 a3 a4 a5 (f + (j : Int)) % 8 = hor a0 a1 a2 a3 a4 a5 (f + (j : Int)) % 8 := by unfold imgY; omega
  rw [e, hor_mod, show (f + (j : Int)) % 8 = (j : Int) by omega]
theorem mode_low {f : Int} {j : Nat} (hj : j < 8) : (modesL f)[j]? = some (f + (j : Int)) := by
  rw [modesL_eq]
  rcases lt8 j hj with rfl | rfl | rfl | rfl | rfl | rfl | rfl | rfl <;> rfl
noncomputable def cub (c0 c1 c2 c3 : Nat) : List Int := (List.range 8).map fun (j : Nat) => (((c0 + j * (c1 + j * (c2 + j * c3))) % 8 : Nat) : Int)
noncomputable def metLen (ns : List Int) : Nat := (firstMet (fun i => ns.getD i 0) 8).length
theorem emodm {x y k m : Int} (h : x = y + m * k) : x % m = y % m := by rw [h, Int.add_mul_emod_self_left]
theorem hor_split (x q0 q1 q2 q3 a4 a5 c0 c1 c2 c3 : Int) : hor (q0 * 8 + c0) (q1 * 8 + c1 - 6 * a4 - 4 * a5 - 4 * q2 - 4 * q3) (q2 * 4 + c2 - 5 * a4 - 4 * a5) (q3 * 4 + c3 - 6 * a4 - a5) a4 a5 x = (c0 + x * (c1 + x * (c2 + x * c3))) +
    (8 * q0 + 8 * q1 * x + q2 * (4 * (x * x - x)) + q3 * (4 * (x * x * x - x)) + a4 * (x * x * x * x - 6 * (x * x * x) - 5 * (x * x) - 6 * x) + a5 * (x * x * x * x * x - x * x * x - 4 * (x * x) - 4 * x)) := by
  unfold hor
  grind
theorem nulls : ∀ j : Nat, j < 8 → (4 * ((j : Int) * j - j)) % 8 = 0 ∧ (4 * ((j : Int) * j * j - j)) % 8 = 0 ∧ ((j : Int) * j * j * j - 6 * (j * j * j) - 5 * (j * j) - 6 * j) % 8 = 0 ∧ ((j : Int) * j * j * j * j - j * j * j - 4 * (j * j) - 4 * j) % 8 = 0 := by decide
theorem by8 {p : Int} (h : p % 8 = 0) : ∃ k, p = 8 * k := ⟨p / 8, (Int.mul_ediv_cancel' (Int.dvd_of_emod_eq_zero h)).symm⟩
theorem split_by (x : Int) {m : Nat} (hm : 0 < m) : ∃ (q : Int) (r : Nat), x = q * m + r ∧ r < m := by
  have h1 : 0 ≤ x % (m : Int) := Int.emod_nonneg x (by omega)
  have h2 : x % (m : Int) < m := Int.emod_lt_of_pos x (by omega)
  obtain ⟨r, hr⟩ := Int.eq_ofNat_of_zero_le h1
  refine ⟨x / m, r, ?_, by omega⟩
  have := Int.mul_ediv_add_emod x m
  rw [hr, Int.mul_comm] at this
  exact this.symm
theorem oth_cub (a0 a1 a2 a3 a4 a5 : Int) : ∃ c0 c1 c2 c3 : Nat, c0 < 8 ∧ c1 < 8 ∧ c2 < 4 ∧ c3 < 4 ∧ othL a0 a1 a2 a3 a4 a5 = cub c0 c1 c2 c3 ∧ (c0 : Int) % 2 = a0 % 2 ∧ (c1 : Int) % 2 = a1 % 2 ∧ (c2 : Int) % 2 = (a2 + a4) % 2 ∧ (c3 : Int) % 2 = (a3 + a5) % 2 ∧
    ((c3 : Int) - 2 * c2) % 4 = (a3 + a5 - 2 * a2) % 4 ∧ (1 - (c1 : Int) - c2) % 4 = (a4 - a1 - a2 + 1) % 4 := by
  obtain ⟨q0, c0, e0, l0⟩ := split_by a0 (m := 8) (by decide)
  obtain ⟨q2, c2, e2, l2⟩ := split_by (a2 + 5 * a4 + 4 * a5) (m := 4) (by decide)
  obtain ⟨q3, c3, e3, l3⟩ := split_by (a3 + 6 * a4 + a5) (m := 4) (by decide)
  obtain ⟨q1, c1, e1, l1⟩ := split_by (a1 + 6 * a4 + 4 * a5 + 4 * q2 + 4 * q3) (m := 8) (by decide)
  refine ⟨c0, c1, c2, c3, l0, l1, l2, l3, ?_⟩
  have f0 : a0 = q0 * 8 + c0 := e0
  have f2 : a2 = q2 * 4 + c2 - 5 * a4 - 4 * a5 := by clear e0 e1 e3 f0; omega
  have f3 : a3 = q3 * 4 + c3 - 6 * a4 - a5 := by clear e0 e1 e2 f0 f2; omega
  have f1 : a1 = q1 * 8 + c1 - 6 * a4 - 4 * a5 - 4 * q2 - 4 * q3 := by clear e0 e2 e3 f0 f2 f3; omega
  clear e0 e1 e2 e3 l0 l1 l2 l3
  subst f0 f2 f3 f1
  refine ⟨?_, (emodm (k := 4 * q0) (by grind)).symm, (emodm (k := 4 * q1 - 3 * a4 - 2 * a5 - 2 * q2 - 2 * q3) (by grind)).symm, (emodm (k := 2 * q2 - 2 * a4 - 2 * a5) (by grind)).symm, (emodm (k := 2 * q3 - 3 * a4) (by grind)).symm, (emodm (k := q3 - 2 * q2 + a4 + 2 * a5) (by grind)).symm, (emodm (k := 3 * a4 + 2 * a5 - 2 * q1 + q3) (by grind)).symm⟩
  have g : ∀ j : Nat, j < 8 → hor (q0 * 8 + c0) (q1 * 8 + c1 - 6 * a4 - 4 * a5 - 4 * q2 - 4 * q3) (q2 * 4 + c2 - 5 * a4 - 4 * a5) (q3 * 4 + c3 - 6 * a4 - a5) a4 a5 (j : Int) % 8 = (((c0 + j * (c1 + j * (c2 + j * c3))) % 8 : Nat) : Int) := by
    intro j hj
    obtain ⟨n2, n3, n4, n5⟩ := nulls j hj
    obtain ⟨k2, h2⟩ := by8 n2
    obtain ⟨k3, h3⟩ := by8 n3
    obtain ⟨k4, h4⟩ := by8 n4
    obtain ⟨k5, h5⟩ := by8 n5
    rw [Int.natCast_emod, hor_split, h2, h3, h4, h5]
    push_cast
    exact emodm (k := q0 + q1 * j + q2 * k2 + q3 * k3 + a4 * k4 + a5 * k5) (by grind)
  unfold othL cub
  exact List.map_congr_left fun j hj => g j (List.mem_range.mp hj)
/-! the same on natural numbers, for the kernel -/
noncomputable def gN (c0 c1 c2 c3 j : Nat) : Nat := (c0 + j * (c1 + j * (c2 + j * c3))) % 8
noncomputable def inN (x : Nat) : List Nat → Bool
  | [] => false
  | y :: r => cond (Nat.beq x y) true (inN x r)
noncomputable def ringN (c0 c1 c2 c3 : Nat) : Nat → Nat → List Nat → Nat
  | 0, _, seen => seen.length
  | k + 1, x, seen => cond (inN (gN c0 c1 c2 c3 x) seen) seen.length (ringN c0 c1 c2 c3 k (gN c0 c1 c2 c3 x) (gN c0 c1 c2 c3 x :: seen))
noncomputable def metN (c0 c1 c2 c3 : Nat) : List Nat → List Nat → List Nat
  | [], seen => seen
  | j :: r, seen => metN c0 c1 c2 c3 r (cond (inN (gN c0 c1 c2 c3 j) seen) seen (gN c0 c1 c2 c3 j :: seen))
noncomputable def checkN (c0 c1 c2 c3 : Nat) : Bool := (Nat.beq (metN c0 c1 c2 c3 [0, 1, 2, 3, 4, 5, 6, 7] []).length 8 == (Nat.beq (c1 % 2) 1 && (Nat.beq (c2 % 2) 0 && Nat.beq (c3 % 2) 0))) &&
  (Nat.beq (ringN c0 c1 c2 c3 8 0 [0]) 8 == (Nat.beq (c0 % 2) 1 && (Nat.beq (c1 % 2) 1 && (Nat.beq ((c3 + 2 * c2) % 4) 0 && Nat.beq ((c1 + c2) % 4) 1))))
noncomputable def allN : Nat → (Nat → Bool) → Bool
  | 0, _ => true
  | k + 1, f => cond (f k) (allN k f) false
theorem allN_at {f : Nat → Bool} : ∀ {n : Nat}, allN n f = true → ∀ k, k < n → f k = true
  | n + 1, h, k, hk => by
    unfold allN at h
    cases hf : f n with
    | false => rw [hf] at h; cases h
    | true =>
      rw [hf] at h
      rcases Nat.lt_or_ge k n with q | q
      · exact allN_at h k q
      · rw [show k = n by omega]; exact hf
theorem check_0 : allN 4 (fun c0 => allN 8 fun c1 => allN 4 fun c2 => allN 4 fun c3 => checkN c0 c1 c2 c3) = true := by decide +kernel
theorem check_4 : allN 4 (fun c0 => allN 8 fun c1 => allN 4 fun c2 => allN 4 fun c3 => checkN (c0 + 4) c1 c2 c3) = true := by decide +kernel
theorem check_all {c0 c1 c2 c3 : Nat} (b0 : c0 < 8) (b1 : c1 < 8) (b2 : c2 < 4) (b3 : c3 < 4) : checkN c0 c1 c2 c3 = true := by
  rcases Nat.lt_or_ge c0 4 with q | q
  · exact allN_at (allN_at (allN_at (allN_at check_0 c0 q) c1 b1) c2 b2) c3 b3
  · have := allN_at (allN_at (allN_at (allN_at check_4 (c0 - 4) (by omega)) c1 b1) c2 b2) c3 b3
    rwa [Nat.sub_add_cancel q] at this
noncomputable def castL (l : List Nat) : List Int := l.map fun (x : Nat) => (x : Int)
theorem inN_iff (x : Nat) : ∀ l : List Nat, inN x l = true ↔ x ∈ l
  | [] => by simp [inN]
  | y :: r => by
    unfold inN
    rw [List.mem_cons, ← inN_iff x r]
    cases h : Nat.beq x y with
    | true => simp [Nat.eq_of_beq_eq_true h]
    | false => simp [Nat.ne_of_beq_eq_false h]
theorem cast_mem {x : Nat} {l : List Nat} : ((x : Nat) : Int) ∈ castL l ↔ x ∈ l := by
  unfold castL
  constructor
  · intro h
    obtain ⟨y, hy, e⟩ := List.mem_map.mp h
    exact (Int.ofNat.inj e) ▸ hy
  · exact fun h => List.mem_map.mpr ⟨x, h, rfl⟩
theorem cub_at (c0 c1 c2 c3 : Nat) {x : Nat} (hx : x < 8) : (cub c0 c1 c2 c3).getD x 0 = ((gN c0 c1 c2 c3 x : Nat) : Int) := by
  unfold cub gN
  rw [List.getD_eq_getElem?_getD, List.getElem?_map, List.getElem?_range hx]; rfl
theorem gN_lt (c0 c1 c2 c3 x : Nat) : gN c0 c1 c2 c3 x < 8 := Nat.mod_lt _ (by decide)
theorem ring_eq (c0 c1 c2 c3 : Nat) : ∀ (k x : Nat) (r : List Nat), x < 8 → (ringGo (cub c0 c1 c2 c3) k (castL (r.reverse ++ [x]))).length = ringN c0 c1 c2 c3 k x (x :: r)
  | 0, x, r, _ => by simp [ringGo, ringN, castL]
  | k + 1, x, r, hx => by
    have hn : nxtR (cub c0 c1 c2 c3) (castL (r.reverse ++ [x])) = ((gN c0 c1 c2 c3 x : Nat) : Int) := by
      unfold nxtR
      rw [show (castL (r.reverse ++ [x])).getLastD 0 = ((x : Nat) : Int) by simp [castL], Int.toNat_natCast, cub_at _ _ _ _ hx]
    have hm : ((gN c0 c1 c2 c3 x : Nat) : Int) ∈ castL (r.reverse ++ [x]) ↔ inN (gN c0 c1 c2 c3 x) (x :: r) = true := by
      rw [cast_mem, inN_iff]; simp [or_comm]
    unfold ringGo ringN
    rw [hn]
    cases h : inN (gN c0 c1 c2 c3 x) (x :: r) with
    | true => rw [if_pos (hm.mpr h)]; simp [castL]
    | false =>
      rw [if_neg (fun q => by rw [hm.mp q] at h; cases h)]
      have ih := ring_eq c0 c1 c2 c3 k (gN c0 c1 c2 c3 x) (x :: r) (gN_lt ..)
      rw [show castL (r.reverse ++ [x]) ++ [((gN c0 c1 c2 c3 x : Nat) : Int)] = castL ((x :: r).reverse ++ [gN c0 c1 c2 c3 x]) by simp [castL]]
      exact ih
theorem met_eq (c0 c1 c2 c3 : Nat) : ∀ (js seen : List Nat), (∀ j ∈ js, j < 8) → ((js.map fun j => (cub c0 c1 c2 c3).getD j 0).foldl step_dedup (castL seen.reverse)).length = (metN c0 c1 c2 c3 js seen).length
  | [], seen, _ => by simp [metN, castL]
  | j :: r, seen, hj => by
    have h8 := hj j (.head _)
    have hr : ∀ i ∈ r, i < 8 := fun i hi => hj i (.tail _ hi)
    rw [List.map_cons, List.foldl_cons, cub_at _ _ _ _ h8]
    unfold metN
    have hm : (castL seen.reverse).any (· == ((gN c0 c1 c2 c3 j : Nat) : Int)) = inN (gN c0 c1 c2 c3 j) seen := by
      rw [Bool.eq_iff_iff, inN_iff, List.any_eq_true]
      constructor
      · rintro ⟨x, hx, e⟩
        rw [eq_of_beq e, cast_mem] at hx
        simpa using hx
      · exact fun h => ⟨_, cast_mem.mpr (by simpa using h), by simp⟩
    rw [show step_dedup (castL seen.reverse) ((gN c0 c1 c2 c3 j : Nat) : Int) = if (castL seen.reverse).any (· == ((gN c0 c1 c2 c3 j : Nat) : Int)) then castL seen.reverse else castL seen.reverse ++ [((gN c0 c1 c2 c3 j : Nat) : Int)] from rfl, hm]
    cases inN (gN c0 c1 c2 c3 j) seen with
    | true => rw [if_pos rfl]; exact met_eq c0 c1 c2 c3 r seen hr
    | false =>
      have ih := met_eq c0 c1 c2 c3 r (gN c0 c1 c2 c3 j :: seen) hr
      rw [show castL (gN c0 c1 c2 c3 j :: seen).reverse = castL seen.reverse ++ [((gN c0 c1 c2 c3 j : Nat) : Int)] by simp [castL]] at ih
      rw [if_neg (by decide)]
      exact ih
theorem par1 {c : Nat} {a : Int} (h : (c : Int) % 2 = a % 2) : (c % 2 = 1) ↔ (a % 2 = 1) := by omega
theorem par0 {c : Nat} {a : Int} (h : (c : Int) % 2 = a % 2) : (c % 2 = 0) ↔ (a % 2 = 0) := by omega
theorem par4 {c d : Nat} {a : Int} (h : ((c : Int) - 2 * d) % 4 = a % 4) : ((c + 2 * d) % 4 = 0) ↔ (a % 4 = 0) := by omega
theorem par41 {c d : Nat} {a : Int} (h : (1 - (c : Int) - d) % 4 = a % 4) : ((c + d) % 4 = 1) ↔ (a % 4 = 0) := by omega
theorem oth_ok (a0 a1 a2 a3 a4 a5 : Int) : (metLen (othL a0 a1 a2 a3 a4 a5) == 8) = mixB a1 a2 a3 a4 a5 ∧ (ringLen (othL a0 a1 a2 a3 a4 a5) == 8) = circB a0 a1 a2 a3 a4 a5 := by
  obtain ⟨c0, c1, c2, c3, b0, b1, b2, b3, e, p0, p1, p2, p3, q1, q2⟩ := oth_cub a0 a1 a2 a3 a4 a5
  have h := check_all b0 b1 b2 b3
  unfold checkN at h
  rw [Bool.and_eq_true] at h
  have hr : ringLen (cub c0 c1 c2 c3) = ringN c0 c1 c2 c3 8 0 [0] := ring_eq c0 c1 c2 c3 8 0 [] (by decide)
  have hmt : metLen (cub c0 c1 c2 c3) = (metN c0 c1 c2 c3 [0, 1, 2, 3, 4, 5, 6, 7] []).length := met_eq c0 c1 c2 c3 [0, 1, 2, 3, 4, 5, 6, 7] [] (by decide)
  have d : ∀ (x y : Nat), Nat.beq x y = decide (x = y) := fun x y => by
    cases hb : Nat.beq x y with
    | true => rw [decide_eq_true (Nat.eq_of_beq_eq_true hb)]
    | false => rw [decide_eq_false (Nat.ne_of_beq_eq_false hb)]
  have d' : ∀ (x y : Nat), (x == y) = decide (x = y) := fun x y => rfl
  have h1 := eq_of_beq h.1
  have h2 := eq_of_beq h.2
  rw [d] at h1 h2
  rw [e, d', d', hmt, hr, h1, h2]
  have t1 : (c1 % 2 = 1) ↔ (a1 % 2 = 1) := par1 p1
  have t2 : (c2 % 2 = 0) ↔ ((a2 + a4) % 2 = 0) := par0 p2
  have t3 : (c3 % 2 = 0) ↔ ((a3 + a5) % 2 = 0) := par0 p3
  have t4 : (c0 % 2 = 1) ↔ (a0 % 2 = 1) := par1 p0
  have t5 : ((c3 + 2 * c2) % 4 = 0) ↔ ((a3 + a5 - 2 * a2) % 4 = 0) := par4 q1
  have t6 : ((c1 + c2) % 4 = 1) ↔ ((a4 - a1 - a2 + 1) % 4 = 0) := par41 q2
  constructor
  · simp only [d, mixB, decide_eq_decide.mpr t1, decide_eq_decide.mpr t2, decide_eq_decide.mpr t3]
  · simp only [d, circB, decide_eq_decide.mpr t4, decide_eq_decide.mpr t1, decide_eq_decide.mpr t5, decide_eq_decide.mpr t6]
theorem oth_len (a0 a1 a2 a3 a4 a5 : Int) : (othL a0 a1 a2 a3 a4 a5).length = 8 := by simp [othL]
theorem oth_lt (a0 a1 a2 a3 a4 a5 : Int) : ∀ v ∈ othL a0 a1 a2 a3 a4 a5, 0 ≤ v ∧ v < 8 := by
  intro v hv
  obtain ⟨j, _, rfl⟩ := List.mem_map.mp hv
  omega
end

section
open PySem PySem.W PyProof.Rows PySem.Calls
set_option Elab.async false
set_option maxRecDepth 100000
section
open LCg
variable {prog : PySem.Program} {w : World} {A : Around} {E : Value → Shared → Prop} {s : Shared} {h₀ : Heap} {L : Addr} {m : Str → Option Value} {env : Env}
/-- a block whose one name stands in a cell -/
theorem new_cell_env {M : Model} {scope : Scope} {gl : Addr} {x q : Str} {Q : Env → Shared → Prop} (h1 : ∀ n, cellsFrom n scope.names [] = [(x, n)]) (h2 : ∀ h, pushCells h scope.names = h.push { cls := .type "cell", data := .cell none })
    (hQ : Q { scope := scope, locals := s.heap.objs.size, globals := gl, cells := [(x, s.heap.objs.size + 1)], qual := q, func := none, code := env.code, frame := env.frame, builtins := env.builtins }
      { s with heap := (s.heap.push { cls := .type "dict", data := .dict #[] }).push { cls := .type "cell", data := .cell none } }) :
    wpAny M A (newFunctionEnv scope gl [] [] q none .none (some env)) Q E s := by
  simp only [newFunctionEnv, Option.isSome_some, if_true]
  refine wpAny_bind (wpAny_alloc ?_)
  refine wpAny_bind (wpAny_layCells _ (fun name kind cells => by cases hkc : kind == NameKind.cell <;> simp [hkc]) _ _ _ _ ?_)
  rw [h1]
  dsimp only
  rw [h2, Heap.size_push]
  refine wpAny_bind ?_
  rw [List.forIn_nil]
  exact wpAny_pure (wpAny_pure hQ)
theorem block_C {elt iter : Expr} {x : Str} {px : Pos} {scope : Scope} {pos : Pos} {s₂ : Shared} {I ax : Addr} {its : Array Value} {news : List (Addr × Obj)} {f : Nat → Value → Prop} {RR : Value → Addr → Result → Shared → Prop}
    (hh : A.handled = none) (hne : ax ≠ I) (hsz : its.size ≤ sizeLine)
    (h1 : ∀ n, cellsFrom n scope.names [] = [(x, n)]) (h2 : ∀ h, pushCells h scope.names = h.push { cls := .type "cell", data := .cell none })
    (hkind : scope.kind = .function) (hx : (relabel scope env).names.lookup x = some .cell)
    (hst : s₂.heap.IsListIter I ax 0 ∧ s₂.heap.IsList ax its) (hIlt : I < s₂.heap.objs.size) (haxlt : ax < s₂.heap.objs.size)
    (F : Fr h₀ L s₂.heap m) (N : News h₀ L s₂.heap news) (hIL : L ≠ I) (hI₀ : h₀.get? I = none) (off : ∀ p ∈ news, p.1 ≠ I) (hS : SrcAt h₀ ax its news)
    (turn : ∀ i v C K oK h tk news' (E' : Value → Shared → Prop), its[i]? = some v → oK.data = Data.cell (some v) → Fr h₀ L h m → News h₀ L h news' → (K, oK) ∈ news' → (∀ p ∈ news, p ∈ news') →
      wpAny (model prog w) A (eval elt (compEnvC scope [(x, K)] C env)) (fun v' s' => ∃ h' tk', s' = { s₂ with heap := h', toks := tk' } ∧ Fr h₀ L h' m ∧ News h₀ L h' news' ∧ f i v') E' { s₂ with heap := h, toks := tk })
    (hRR : ∀ D C h tk m' ys, ys.length = its.size → (∀ i (h : i < ys.length), f i ys[i]) → Fr h₀ L h m → News h₀ L h ((D, lst ys) :: news) → h.Ns C m' → h₀.get? C = none → C ≠ L → C ≠ D → D ≠ L → h₀.get? D = none → (∀ p ∈ news, p.1 ≠ C) → RR (.ref D) C (.ok .next) { s₂ with heap := h, toks := tk }) :
    wpAny (model prog w) A (newList []) (fun acc s₃ => wpAny (model prog w) A (newFunctionEnv scope env.globals [] [] env.qual none .none (some env)) (fun cenv s₄ =>
      codeAny (model prog w) A (.compStart (.ListComp elt [⟨.Name x px, iter, [], 0⟩] scope pos) 0 (.ref I) acc { cenv with scope := relabel scope env }) (RR acc cenv.locals) s₄) E s₃) E s₂ := by
  have W := Walks.list (prog := prog) (w := w) hh I ax hne its
  refine wpAny_newObj_type (new_cell_env h1 h2 ?_)
  dsimp only
  generalize hD : s₂.heap.objs.size = D at *
  have hszH : ∀ o : Obj, (s₂.heap.push o).objs.size = D + 1 := fun o => by rw [Heap.size_push, hD]
  rw [hszH]
  generalize hH1 : ((s₂.heap.push { cls := .type "list", dict := none, data := .seq ([] : List Value).toArray }).push { cls := .type "dict", data := .dict #[] }).push { cls := .type "cell", data := .cell none } = h₁
  have old : ∀ b o, s₂.heap.get? b = some o → h₁.get? b = some o := fun b o e => by rw [← hH1]; exact Heap.get?_push_of_some _ (Heap.get?_push_of_some _ (Heap.get?_push_of_some _ e))
  have hacc : h₁.get? D = some (lst []) := by rw [← hH1, ← hD]; exact Heap.get?_push_of_some _ (Heap.get?_push_of_some _ (Heap.get?_push_size _ rfl))
  have hnsC : h₁.Ns (D + 1) (fun _ => none) := by
    have := Heap.Ns.new (s₂.heap.push { cls := .type "list", dict := none, data := .seq ([] : List Value).toArray }) (.type "dict")
    rw [hszH] at this
    rw [← hH1]
    exact this.keeps fun b o e => Heap.get?_push_of_some _ e
  have hcK : h₁.IsCell (D + 1 + 1) none := by
    refine ⟨{ cls := .type "cell", data := .cell none }, ?_, rfl⟩
    rw [← hH1]
    have e : ((s₂.heap.push { cls := .type "list", dict := none, data := .seq ([] : List Value).toArray }).push { cls := .type "dict", data := .dict #[] }).objs.size = D + 1 + 1 := by rw [Heap.size_push, hszH]
    rw [← e]
    exact Heap.get?_push_size _ rfl
  have fresh₀ : ∀ a, D ≤ a → h₀.get? a = none := fun a ha => by
    cases e : h₀.get? a with
    | none => rfl
    | some o' => exact absurd (Heap.lt_size (F.keep a o' e)) (by rw [hD]; exact Nat.not_lt.mpr ha)
  have hLlt : L < D := hD ▸ F.ns.lt
  have nlt : ∀ p ∈ news, p.1 < D := fun p hp => hD ▸ Heap.lt_size (N p hp).1
  have ne1 : ∀ b : Nat, b < D → b ≠ D ∧ b ≠ D + 1 ∧ b ≠ D + 1 + 1 := fun b hb => by omega
  have hst₁ : h₁.IsListIter I ax 0 ∧ h₁.IsList ax its := W.frame _ _ _ hst fun b _ o e => old b o e
  have loop : codeAny (model prog w) A (.compLoop (.ListComp elt [⟨.Name x px, iter, [], 0⟩] scope pos) 0 (.ref I) (.ref D) (compEnvC scope [(x, D + 1 + 1)] (D + 1) env))
        (RR (.ref D) (D + 1)) { s₂ with heap := h₁ } := by
    refine codeAny_compLoop_tests
      (fun k s' => ∃ h' tk i ys m' vK, s' = { s₂ with heap := h', toks := tk } ∧ i ≤ its.size ∧ k = its.size + 1 - i ∧ ys.length = i ∧ (∀ j (h : j < ys.length), f j ys[j]) ∧ (h'.IsListIter I ax i ∧ h'.IsList ax its) ∧ Fr h₀ L h' m ∧ h'.Ns (D + 1) m' ∧ h'.IsCell (D + 1 + 1) vK ∧ News h₀ L h' ((D, lst ys) :: news)) ?_ (its.size + 1)
      ⟨h₁, s₂.toks, 0, [], _, none, rfl, Nat.zero_le _, rfl, rfl, fun j h => absurd h (Nat.not_lt_zero _), hst₁, F.keeps old, hnsC, hcK, fun p hp => ?_⟩
    · rintro k s' ⟨h', tk, i, ys, m', vK, rfl, hi, rfl, hyl, hyf, hst', F', hn', hc', N'⟩
      by_cases hlt : i < its.size
      · refine W.item i _ _ _ hlt hst' fun v h₂ tk₂ hPv hst₂ hk₂ => ?_
        have hk₂' : ∀ b o, b ≠ I → h'.get? b = some o → h₂.get? b = some o := fun b o hb e => hk₂ b o (by simpa using hb) e
        have hIlt' : I ≠ D ∧ I ≠ D + 1 ∧ I ≠ D + 1 + 1 := ne1 I hIlt
        have hc₂ : h₂.IsCell (D + 1 + 1) vK := by obtain ⟨o, e, r⟩ := hc'; exact ⟨o, hk₂' _ o (Ne.symm hIlt'.2.2) e, r⟩
        refine wpAny_assign_Name (wpAny_storeName_cell (env := compEnvC scope [(x, D + 1 + 1)] (D + 1) env) (by simp [compEnvC, relabel, hkind]) hx (by simp [compEnvC, List.lookup_cons]) hc₂ (fun h₃ hc₃ hs₃ => ?_))
        refine wpAny_tests_nil ?_
        simp only [if_true]
        have up₃ : ∀ b o, b ≠ D + 1 + 1 → h₂.get? b = some o → h₃.get? b = some o := fun b o hb e => hs₃.extBut b o hb e
        have hst₃ : h₃.IsListIter I ax (i + 1) ∧ h₃.IsList ax its := W.frame _ _ _ hst₂ fun b hb o e => up₃ b o (by
          rcases List.mem_cons.mp hb with rfl | hb
          · exact hIlt'.2.2
          · rw [List.mem_singleton.mp hb]; exact (ne1 ax haxlt).2.2) e
        obtain ⟨oI, heI, _⟩ := id hst₃.1
        obtain ⟨oK, heK, hdK⟩ := id hc₃
        have hn₂ : h₂.Ns (D + 1) m' := hn'.at' fun o e => hk₂' _ o (Ne.symm hIlt'.2.1) e
        have hn₃ : h₃.Ns (D + 1) m' := hn₂.at' fun o e => up₃ _ o (Nat.ne_of_lt (Nat.lt_succ_self _)) e
        obtain ⟨oC, heC, hoC⟩ := ns_obj hn₃
        have F₃ : Fr h₀ L h₃ m := (fr_but F' (fun b o hb e => hk₂ b o hb e) hIL hI₀).change hs₃ (Ne.symm (ne1 L hLlt).2.2) (fresh₀ _ (by omega))
        have N₂ : News h₀ L h₂ ((D, lst ys) :: news) := news_but N' hk₂ fun p hp => by
          rcases List.mem_cons.mp hp with rfl | hp
          · exact Ne.symm hIlt'.1
          · exact off p hp
        have N₃ : News h₀ L h₃ ((I, oI) :: (D + 1, oC) :: (D + 1 + 1, oK) :: (D, lst ys) :: news) := fun p hp => by
          rcases List.mem_cons.mp hp with rfl | hp
          · exact ⟨heI, Ne.symm hIL, hI₀⟩
          · rcases List.mem_cons.mp hp with rfl | hp
            · exact ⟨heC, Ne.symm (ne1 L hLlt).2.1, fresh₀ _ (by show D ≤ D + 1; omega)⟩
            · rcases List.mem_cons.mp hp with rfl | hp
              · exact ⟨heK, Ne.symm (ne1 L hLlt).2.2, fresh₀ _ (by show D ≤ D + 1 + 1; omega)⟩
              · have z := N₂ p hp
                refine ⟨up₃ _ _ ?_ z.1, z.2⟩
                rcases List.mem_cons.mp hp with rfl | hp
                · show D ≠ D + 1 + 1; omega
                · exact (ne1 _ (nlt p hp)).2.2
        refine wpAny_mono (turn i v (D + 1) (D + 1 + 1) oK h₃ _ _ _ hPv hdK F₃ N₃ (.tail _ (.tail _ (.head _))) (fun p hp => .tail _ (.tail _ (.tail _ (.tail _ hp))))) (fun y s₄ h₄ => ?_) fun _ _ e => e
        obtain ⟨h₄, tk₄, rfl, F₄, N₄, hfy⟩ := h₄
        have zI := (N₄ (I, oI) (.head _)).1
        have zC := (N₄ (D + 1, oC) (.tail _ (.head _))).1
        have zK := (N₄ (D + 1 + 1, oK) (.tail _ (.tail _ (.head _)))).1
        have zD := (N₄ (D, lst ys) (.tail _ (.tail _ (.tail _ (.head _))))).1
        have N₄' : News h₀ L h₄ news := fun p hp => N₄ p (.tail _ (.tail _ (.tail _ (.tail _ hp))))
        have hst₄ : h₄.IsListIter I ax (i + 1) ∧ h₄.IsList ax its := list_st _ _ _ oI news hst₃ heI zI F₄.keep N₄' hS
        refine append_at (hsz := by show ys.toArray.size ≤ sizeLine; rw [List.size_toArray, hyl]; exact Nat.le_trans hi hsz) zD fun h₅ hs₅ hD₅ => ?_
        have up₅ : ∀ b o, b ≠ D → h₄.get? b = some o → h₅.get? b = some o := fun b o hb e => hs₅.extBut b o hb e
        refine ⟨its.size + 1 - (i + 1), by omega, h₅, tk₄, i + 1, ys ++ [y], m', _, rfl, hlt, rfl, by rw [List.length_append, List.length_singleton, hyl], fun j hj => ?_, W.frame _ _ _ hst₄ fun b hb o e => up₅ b o (by
          rcases List.mem_cons.mp hb with rfl | hb
          · exact hIlt'.1
          · rw [List.mem_singleton.mp hb]; exact (ne1 ax haxlt).1) e, F₄.change hs₅ (Ne.symm (ne1 L hLlt).1) (fresh₀ _ (Nat.le_refl _)),
          (hoC.ns zC).sameBut hs₅ (by show D + 1 ≠ D; omega), ⟨oK, up₅ _ _ (by show D + 1 + 1 ≠ D; omega) zK, hdK⟩, fun p hp => ?_⟩
        · by_cases hjl : j < ys.length
          · rw [List.getElem_append_left hjl]; exact hyf j hjl
          · have : j = i := by simp at hj; omega
            subst this
            rw [List.getElem_append_right (by omega)]
            simpa [hyl] using hfy
        · rcases List.mem_cons.mp hp with rfl | hp
          · exact ⟨hD₅.trans (congrArg some (lst_snoc ys y)), Ne.symm (ne1 L hLlt).1, fresh₀ _ (Nat.le_refl _)⟩
          · exact ⟨up₅ _ _ (ne1 _ (nlt p hp)).1 (N₄' p hp).1, (N₄' p hp).2⟩
      · obtain rfl : i = its.size := Nat.le_antisymm hi (Nat.not_lt.mp hlt)
        refine W.done _ _ _ hst' fun h₂ tk₂ hk₂ => ?_
        exact hRR D (D + 1) h₂ tk₂ m' ys hyl hyf (fr_but F' hk₂ hIL hI₀) (news_but N' hk₂ fun p hp => by
          rcases List.mem_cons.mp hp with rfl | hp
          · exact Ne.symm (ne1 I hIlt).1
          · exact off p hp) (hn'.at' fun o e => hk₂ _ o (by simpa using Ne.symm (ne1 I hIlt).2.1) e) (fresh₀ _ (by omega)) (Ne.symm (ne1 L hLlt).2.1) (by show D + 1 ≠ D; omega) (Ne.symm (ne1 L hLlt).1) (fresh₀ _ (Nat.le_refl _)) (fun p hp => (ne1 _ (nlt p hp)).2.1)
    · rcases List.mem_cons.mp hp with rfl | hp
      · exact ⟨hacc, Ne.symm (ne1 L hLlt).1, fresh₀ _ (Nat.le_refl _)⟩
      · exact ⟨old _ _ (N p hp).1, (N p hp).2⟩
  exact codeAny_compStart_list loop (W.self 0 _ _ _ hst₁ loop)
/-- the source of such a comprehension, and its turns -/
def CellSrc (prog : PySem.Program) (w : World) (A : Around) (h₀ : Heap) (L : Addr) (m : Str → Option Value) (env : Env) (elt : Expr) (x y : Str) (scope : Scope) (f : Nat → Value → Prop) (Q : Flow → Shared → Prop) (xv : Value) (s₁ : Shared) : Prop :=
  ∃ ax its news, xv = .ref ax ∧ A.handled = none ∧ Fr h₀ L s₁.heap m ∧ News h₀ L s₁.heap news ∧ SrcAt h₀ ax its news ∧ its.size ≤ sizeLine ∧
      (∀ i v C K oK h tk news' (E' : Value → Shared → Prop), its[i]? = some v → oK.data = Data.cell (some v) → Fr h₀ L h m → News h₀ L h news' → (K, oK) ∈ news' → (∀ p ∈ news, p ∈ news') →
        wpAny (model prog w) A (eval elt (compEnvC scope [(x, K)] C env)) (fun v' s' => ∃ h' tk', s' = { s₁ with heap := h', toks := tk' } ∧ Fr h₀ L h' m ∧ News h₀ L h' news' ∧ f i v') E' { s₁ with heap := h, toks := tk }) ∧
      (∀ D h tk ys, ys.length = its.size → (∀ i (h : i < ys.length), f i ys[i]) → Fr h₀ L h (fun z => if z = y then some (.ref D) else m z) → News h₀ L h ((D, lst ys) :: news) → Q .next { s₁ with heap := h, toks := tk })
/-- a comprehension whose one name stands in a cell, kept under a name -/
theorem Assign_cell {elt iter : Expr} {x y : Str} {px py : Pos} {scope : Scope} {pos spos : Pos} {Q : Flow → Shared → Prop} (f : Nat → Value → Prop) (_F₀ : Fr h₀ L s.heap m) (hLe : env.locals = L)
    (hsw : swapsWith (.ListComp elt [⟨.Name x px, iter, [], 0⟩] scope pos) (some (.Name y py)) spos.line env = pure true)
    (hclos : closureFor scope env = pure []) (hkind : scope.kind = .function)
    (hnames : ∀ z ∈ scope.names, z.2 = .local → scope.names.lookup z.1 = some .local)
    (h1 : ∀ n, cellsFrom n scope.names [] = [(x, n)]) (h2 : ∀ h, pushCells h scope.names = h.push { cls := .type "cell", data := .cell none }) (hx : (relabel scope env).names.lookup x = some .cell)
    (hy : env.kindOf y = some .local) (hp : (env.scope.kind == .class || (env.scope.kind == .module && env.locals != env.globals)) = false)
    (h : wpAny (model prog w) A (eval iter env) (CellSrc prog w A h₀ L m env elt x y scope f Q) E s)
    (hs : ∀ x, foldedSetIterable iter env x = pure x := by intro _; rfl) :
    wpAny (model prog w) A (exec (.Assign [.Name y py] (.ListComp elt [⟨.Name x px, iter, [], 0⟩] scope pos) spos) env) Q E s := by
  subst hLe
  rw [exec_Assign_Name_used _ _ _ _ hsw]
  refine wpAny_bind (wpAny_standAt (wpAny_bind ?_))
  show wpAny _ A (do let _ ← comprehension (.ListComp elt [⟨.Name x px, iter, [], 0⟩] scope pos) scope env _ (newList []) false (eval iter env) (some (assign (.Name y py) env))) _ _ s
  refine wpAny_bind (wpAny_mono (wpAny_comprehension_free (use := some (assign (.Name y py) env)) (Q := fun _ s' => Q .next s') rfl hs hclos hkind hnames
    (wpAny_mono h (fun xv s₁ h₁ => ?_) fun _ _ e => e)) (fun _ s' hq => wpAny_pure (wpAny_pure hq)) fun _ _ e => e)
  obtain ⟨ax, its, news, rfl, hh, F, N, S, hsz, turn, fin⟩ := h₁
  have hl := S.list F.keep N
  have hlt : ax < s₁.heap.objs.size := by obtain ⟨_, e, _⟩ := hl; exact Heap.lt_size e
  refine wpAny_pyIter_list hl ?_
  have up : ∀ b o, s₁.heap.get? b = some o → (s₁.heap.push { cls := .type "list_iterator", data := .fields #[.ref ax, .int 0 0] }).get? b = some o := fun b o e => Heap.get?_push_of_some _ e
  refine block_C (f := f) hh (Nat.ne_of_lt hlt) hsz h1 h2 hkind hx ⟨⟨_, Heap.get?_push_size _ rfl, rfl, rfl⟩, hl.push _⟩ (by rw [Heap.size_push]; exact Nat.lt_succ_self _) (by rw [Heap.size_push]; exact Nat.lt_succ_of_lt hlt)
    (F.keeps up) (N.grown up) (Nat.ne_of_lt F.ns.lt) (next_is_new F) (fun p hp => Nat.ne_of_lt (Heap.lt_size (N p hp).1)) S turn ?_
  intro D C h' tk m' ys hyl hyf F' N' hn hC₀ hCL hCD hDL hD₀ offC
  show wpAny _ A (assign (.Name y py) env (.ref D)) _ _ _
  refine wpAny_assign_Name (wpAny_storeName_local hy F'.ns (fun h₂ hn₂ hs₂ => ?_) hp)
  have hL₀ : h₀.get? env.locals = none := Heap.get?_none_of_le F'.above
  have F₂ : Fr h₀ env.locals h₂ (fun z => if z = y then some (.ref D) else m z) := ⟨hn₂, fun b o e => hs₂.extBut b o (fun q => by rw [q, hL₀] at e; cases e) (F'.keep b o e), F'.above⟩
  refine ⟨m', hn.sameBut hs₂ hCL, fun h'' hs'' => fin D h'' _ ys hyl hyf (F₂.change hs'' hCL hC₀) (fun p hp => ?_)⟩
  have z : h₂.get? p.1 = some p.2 := hs₂.extBut _ _ (N' p hp).2.1 (N' p hp).1
  refine ⟨hs''.extBut _ _ ?_ z, (N' p hp).2⟩
  rcases List.mem_cons.mp hp with rfl | hp
  · exact Ne.symm hCD
  · exact offC p hp
/-- what is asked where a test says no -/
def FixNo (news : List (Addr × Obj)) (p : Prop) (news' : List (Addr × Obj)) : Prop := news' = news ∧ p
theorem compT_inv {ct elt : Expr} {x : Str} {scope : Scope} {cl : List (Str × Addr)} {S : List (Addr × Obj) → Prop} {P : Nat → Value → Prop} {Fin : List Value → List (Addr × Obj) → Prop} {news : List (Addr × Obj)} {n : Nat} (Inv : Nat → List Value → Prop) (h0 : Inv 0 [])
    (turn : ∀ i ys v I oI C oC D m₂ h tk (E' : Value → Shared → Prop), i < n → Inv i ys → P i v → NsObj oC m₂ → m₂ x = some v → Fr h₀ L h m → News h₀ L h ((I, oI) :: (C, oC) :: (D, lst ys) :: news) → Off3 I C D news → ((@Ne Nat I C) ∧ (@Ne Nat I D) ∧ (@Ne Nat C D)) →
      wpAny (model prog w) A (isTrue ct (compEnvC scope cl C env) (eval ct (compEnvC scope cl C env))) (fun ok s' => if ok = true then
        wpAny (model prog w) A (eval elt (compEnvC scope cl C env)) (CompEnd h₀ L m { s with heap := h, toks := tk } I oI C oC D (lst ys) S (fun y news' => FixEl news (fun y => Inv (i + 1) (ys ++ [y])) y news')) E' s'
        else CompEnd h₀ L m { s with heap := h, toks := tk } I oI C oC D (lst ys) S (fun _ news' => FixNo news (Inv (i + 1) ys) news') Value.none s') E' { s with heap := h, toks := tk })
    (fin : ∀ ys, Inv n ys → Fin ys news) : LCt.CompRestT prog w A h₀ L m env ct elt x scope cl s S P Fin n 0 [] news := by
  have key : ∀ (j i : Nat) (ys : List Value), i + j = n → Inv i ys → LCt.CompRestT prog w A h₀ L m env ct elt x scope cl s S P Fin j i ys news := by
    intro j
    induction j with
    | zero =>
      intro i ys hi hy
      have e : i = n := by omega
      subst e
      exact LCt.CompRestT.zero (fin ys hy)
    | succ j ih =>
      intro i ys hi hy
      refine LCt.CompRestT.succ ?_
      intro v I oI C oC D m₂ h tk E' hv hC hx F N off ne
      refine wpAny_mono (turn i ys v I oI C oC D m₂ h tk E' (by omega) hy hv hC hx F N off ne) (fun b s₂ hq => ?_) fun _ _ e => e
      cases b with
      | true =>
        simp only [if_true] at hq ⊢
        refine wpAny_mono hq (fun y s₃ hr => ?_) fun _ _ e => e
        obtain ⟨h', tk', nw, e, F', N', off', hS, hn, hi'⟩ := hr
        rw [hn] at N' off' hS
        exact ⟨h', tk', news, e, F', N', off', hS, ih (i + 1) _ (by omega) hi'⟩
      | false =>
        simp only [Bool.false_eq_true, if_false] at hq ⊢
        obtain ⟨h', tk', nw, e, F', N', off', hS, hn, hi'⟩ := hq
        rw [hn] at N' off' hS
        exact ⟨h', tk', news, e, F', N', off', hS, ih (i + 1) _ (by omega) hi'⟩
  exact key n 0 [] (by omega) h0
/-- set() of a list of ints that the ledger holds -/
theorem set_here {l : Addr} {vs : List Value} {ns : List Int} {news : List (Addr × Obj)} {Q : Value → Shared → Prop} (F : Fr h₀ L s.heap m) (N : News h₀ L s.heap news)
    (hh : A.handled = none) (hl : s.heap.IsList l vs.toArray) (hi : IntsAre vs ns) (hb : ns.length = 8)
    (h : ∀ D h' (tk : Nat) o, Fr h₀ L h' m → News h₀ L h' ((D, o) :: news) → o.SetObjOf (intKind prog w) (fun k' => (firstMet (fun i => ns.getD i 0) 8).any (· == k')) (firstMet (fun i => ns.getD i 0) 8).length →
      Q (.ref D) { s with heap := h', toks := tk }) :
    wpAny (model prog w) A (call (.type "set") [.ref l]) Q E s := by
  have hvn : vs.length = 8 := (IntsAre.length hi).trans hb
  have hsz : vs.toArray.size = 8 := List.size_toArray.trans hvn
  refine PySem.call_set_list (items := vs.toArray) (ns := ns) hh hl (by simpa using hi) (by rw [hsz]; decide) fun h' tk hS hk => ?_
  rw [hsz] at hS
  obtain ⟨o, ho, hso⟩ := hS.objOf
  have hLlt : L < s.heap.objs.size := F.ns.lt
  have up : ∀ b o, s.heap.get? b = some o → h'.get? b = some o := fun b o e => hk b o (Heap.lt_size e) e
  refine h _ h' tk o (F.keeps up) (fun p hp => ?_) hso
  rcases List.mem_cons.mp hp with rfl | hp
  · exact ⟨ho, Nat.ne_of_gt hLlt, next_is_new F⟩
  · exact N.grown up p hp
end

theorem ref_at {ras : List Addr} {k : Nat} (h : k < ras.length) : (ras.map Value.ref)[k]? = some (Value.ref (ras.getD k 0)) := by
  rw [List.getElem?_map, List.getD_eq_getElem?_getD, List.getElem?_eq_getElem h]; rfl
theorem REs.isList {es : List (Addr × Obj)} {ys : List Int} (h : REs es ys) {hp : Heap} : (∀ q ∈ es, hp.get? q.1 = some q.2) → ∀ {k : Nat} {y : Int}, ys[k]? = some y → hp.IsList ((es.map (·.1)).getD k 0) ((bits y).map Value.bool).toArray := by
  induction h with
  | nil => intro _ k y hk; simp at hk
  | cons ho _ ih =>
    intro hg k y hk
    cases k with
    | zero =>
      have := Option.some.inj hk
      subst this
      obtain ⟨hc, n, hd⟩ := ho
      exact ⟨_, hg _ (.head _), hc, n, by rw [← bitsV_bits]; exact hd⟩
    | succ j => exact ih (fun q hq => hg q (.tail _ hq)) (by simpa using hk)
theorem turned_at {ras : List Addr} (hl : ras.length = 17) {p : Nat} {r : Addr} (h : ([ras.getD 1 0, ras.getD 2 0, ras.getD 4 0] ++ ras.drop 8)[p]? = some r) : p < 12 ∧ r = ras.getD (tIdx p) 0 := by
  rcases p with _ | _ | _ | j
  · exact ⟨by decide, (Option.some.inj h).symm⟩
  · exact ⟨by decide, (Option.some.inj h).symm⟩
  · exact ⟨by decide, (Option.some.inj h).symm⟩
  · have h' : (ras.drop 8)[j]? = some r := h
    rw [List.getElem?_drop] at h'
    have hlt : 8 + j < ras.length := by
      rcases Nat.lt_or_ge (8 + j) ras.length with q | q
      · exact q
      · rw [List.getElem?_eq_none q] at h'; cases h'
    refine ⟨by omega, ?_⟩
    have e : tIdx (j + 1 + 1 + 1) = 8 + j := by
      unfold tIdx
      rw [if_neg (by omega), if_neg (by omega), if_neg (by omega)]; omega
    rw [e, List.getD_eq_getElem?_getD, h']; rfl
theorem changes_prem {es : List (Addr × Obj)} {a0 a1 a2 a3 a4 a5 f : Int} (hes : REs es ((modesL f).map (imgY a0 a1 a2 a3 a4 a5))) {hp : Heap} (hg : ∀ q ∈ es, hp.get? q.1 = some q.2) (h0 : 0 ≤ f) (h8 : f % 8 = 0) {ras : List Addr} (hras : ras = es.map (·.1)) (hl : ras.length = 17) :
    ∀ p r, ([ras.getD 1 0, ras.getD 2 0, ras.getD 4 0] ++ ras.drop 8)[p]? = some r → ∃ bl : List Bool, hp.IsList r (bl.map Value.bool).toArray ∧ bl.length = 12 ∧ bl.take p = (bits (imgY a0 a1 a2 a3 a4 a5 f)).take p ∧
      ((bl.getD p false != (bits (imgY a0 a1 a2 a3 a4 a5 f)).getD p false) = (if p = 0 then decide ((a1 + a2 + a3 + a4 + a5) % 2 = 1) else decide (a1 % 2 = 1))) := by
  intro p r hr
  obtain ⟨hp12, rfl⟩ := turned_at hl hr
  obtain ⟨x, hx, u, v⟩ := turn_ok (a0 := a0) (a1 := a1) (a2 := a2) (a3 := a3) (a4 := a4) (a5 := a5) h0 h8 hp12
  refine ⟨bits (imgY a0 a1 a2 a3 a4 a5 x), ?_, bits_len _, u, v⟩
  rw [hras]
  exact hes.isList hg (by rw [List.getElem?_map, hx]; rfl)
theorem image_prem {es : List (Addr × Obj)} {a0 a1 a2 a3 a4 a5 f : Int} (hes : REs es ((modesL f).map (imgY a0 a1 a2 a3 a4 a5))) {hp : Heap} (hg : ∀ q ∈ es, hp.get? q.1 = some q.2) {ras : List Addr} (hras : ras = es.map (·.1)) : hp.IsList (ras.getD 0 0) ((bits (imgY a0 a1 a2 a3 a4 a5 f)).map Value.bool).toArray := by
  rw [hras]
  refine hes.isList hg ?_
  rw [List.getElem?_map, mode_low (j := 0) (by decide)]
  show some (imgY a0 a1 a2 a3 a4 a5 (f + 0)) = _
  rw [Int.add_zero]
/-- a mark: the walk is past the rows -/
structure Later : Prop where
/-- a mark: the walk is past the modes -/
structure Soon : Prop where
/-- others' rights as a number -/
noncomputable def pw (y : Int) (i : Nat) : List Int := ((List.range i).filter (bitB y)).map fun (j : Nat) => (2 : Int) ^ j
theorem pw_true {y : Int} {i : Nat} (h : bitB y i = true) : pw y (i + 1) = pw y i ++ [2 ^ i] := by
  unfold pw; rw [List.range_succ, List.filter_append, List.map_append]; simp [h]
theorem pw_false {y : Int} {i : Nat} (h : bitB y i = false) : pw y (i + 1) = pw y i := by
  unfold pw; rw [List.range_succ, List.filter_append, List.map_append]; simp [h]
theorem mod_two (y m : Int) : y % (2 * m) = y % 2 + 2 * (y / 2 % m) := by
  rw [Int.emod_def, Int.emod_def y 2, Int.emod_def (y / 2) m, ← Int.ediv_ediv_of_nonneg (by decide), Int.mul_sub, ← Int.mul_assoc]
  exact Int.sub_eq_iff_eq_add.mpr (by rw [Int.add_assoc, Int.sub_add_cancel, Int.sub_add_cancel])
theorem mod8 (y : Int) : y % 8 = y % 2 + 2 * (y / 2 % 2) + 4 * (y / 4 % 2) := by
  have a : y % 8 = _ := mod_two y 4
  have b : y / 2 % 4 = _ := mod_two (y / 2) 2
  rw [a, b, Int.ediv_ediv_of_nonneg (by decide), Int.mul_add, ← Int.mul_assoc, Int.add_assoc]; rfl
theorem bit_val (x : Int) : x % 2 = if decide (x % 2 = 1) = true then 1 else 0 := by
  rcases mod2 x with h | h <;> rw [h] <;> rfl
theorem pw_sum (y : Int) : (pw y 3).sum = y % 8 := by
  have c0 : y % 2 = if bitB y 0 = true then 1 else 0 := by have := bit_val y; unfold bitB; rw [show y / 2 ^ 0 = y from Int.ediv_one y]; exact this
  have c1 : y / 2 % 2 = if bitB y 1 = true then 1 else 0 := bit_val _
  have c2 : y / 4 % 2 = if bitB y 2 = true then 1 else 0 := bit_val _
  rw [mod8, c0, c1, c2]
  show (((([0, 1, 2] : List Nat).filter (bitB y)).map fun (j : Nat) => (2 : Int) ^ j)).sum = _
  simp only [List.filter]
  cases bitB y 0 <;> cases bitB y 1 <;> cases bitB y 2 <;> rfl
theorem oth_at {a0 a1 a2 a3 a4 a5 : Int} {ys : List Value} (hl : ys.length = 8) (h : ∀ i (h : i < ys.length), ∃ t, ys[i] = Value.int ((othL a0 a1 a2 a3 a4 a5).getD i 0) t) : IntsAre ys (othL a0 a1 a2 a3 a4 a5) := by
  have key : ∀ (n : Nat) (f : Nat → Int) (ys : List Value), ys.length = n → (∀ i (h : i < ys.length), ∃ t, ys[i] = Value.int (f i) t) → IntsAre ys ((List.range n).map f) := by
    intro n
    induction n with
    | zero => intro f ys hl _; rw [List.length_eq_zero_iff.mp hl]; exact .nil
    | succ n ih =>
      intro f ys hl h
      cases ys with
      | nil => simp at hl
      | cons z r =>
        obtain ⟨t, e⟩ := h 0 (by simp)
        have e' : z = Value.int (f 0) t := e
        have := ih (fun i => f (i + 1)) r (by simpa using hl) fun i hi => h (i + 1) (by simpa using hi)
        rw [List.range_succ_eq_map, List.map_cons, List.map_map, e']
        exact .cons _ t this
  have e := key 8 (fun i => (othL a0 a1 a2 a3 a4 a5).getD i 0) ys hl h
  have e2 : (List.range 8).map (fun i => (othL a0 a1 a2 a3 a4 a5).getD i 0) = othL a0 a1 a2 a3 a4 a5 := rfl
  rw [e2] at e; exact e
theorem oth_val {a0 a1 a2 a3 a4 a5 f : Int} (h8 : f % 8 = 0) {i : Nat} (hi : i < 8) {y : Int} (hy : ((modesL f).map (imgY a0 a1 a2 a3 a4 a5))[i]? = some y) : (pw y 3).sum = (othL a0 a1 a2 a3 a4 a5).getD i 0 := by
  rw [List.getElem?_map, mode_low hi] at hy
  have : imgY a0 a1 a2 a3 a4 a5 (f + (i : Int)) = y := by simpa using hy
  rw [pw_sum, ← this, oth_mode h8 hi]
  unfold othL
  rw [List.getD_eq_getElem?_getD, List.getElem?_map, List.getElem?_range hi]; rfl
end

section
open PySem PySem.W PyProof.Rows
set_option Elab.async false
set_option maxRecDepth 100000

theorem off_new {g h : Heap} {L I C D : Addr} {oI oC oD : Obj} {ps ps₂ : Array Value} {ex ex₂ B : List (Addr × Obj)} (N : News g L h ((I, oI) :: (C, oC) :: (D, oD) :: (107, tabObj ps) :: (ex ++ B))) (off : LCg.Off3 I C D ((107, tabObj ps) :: (ex ++ B)))
    (hex : ∀ p ∈ ex₂, p.1 ≠ 107 ∧ (p ∈ ex ∨ h.get? p.1 = none)) : LCg.Off3 I C D ((107, tabObj ps₂) :: (ex₂ ++ B)) := by
  have o := off.mem
  refine LCg.Off3.of fun q hq => ?_
  rcases List.mem_cons.mp hq with rfl | hq
  · exact o (107, tabObj ps) (.head _)
  · rcases List.mem_append.mp hq with hq | hq
    · rcases (hex q hq).2 with h1 | h1
      · exact o q (.tail _ (List.mem_append_left _ h1))
      · refine ⟨fun e => ?_, fun e => ?_, fun e => ?_⟩
        · have := (N (I, oI) (.head _)).1; rw [← e, h1] at this; cases this
        · have := (N (C, oC) (.tail _ (.head _))).1; rw [← e, h1] at this; cases this
        · have := (N (D, oD) (.tail _ (.tail _ (.head _)))).1; rw [← e, h1] at this; cases this
    · exact o q (.tail _ (List.mem_append_right _ hq))
theorem news_new {g h h' : Heap} {L I C D : Addr} {oI oC oD : Obj} {ps ps₂ : Array Value} {ex ex₂ B : List (Addr × Obj)} (N : News g L h ((I, oI) :: (C, oC) :: (D, oD) :: (107, tabObj ps) :: (ex ++ B))) (off : LCg.Off3 I C D ((107, tabObj ps) :: (ex ++ B)))
    (X : ExtB h h') (hB : ∀ p ∈ B, p.1 ≠ 107) (hL : L ≠ 107) (hg : g.get? 107 = none) (h7 : h'.get? 107 = some (tabObj ps₂)) (Nx : News g L h' ex₂) : News g L h' ((I, oI) :: (C, oC) :: (D, oD) :: (107, tabObj ps₂) :: (ex₂ ++ B)) := by
  have o := off.mem (107, tabObj ps) (.head _)
  refine news_cons (X _ _ (Ne.symm o.1) (N _ (.head _)).1) (N _ (.head _)).2.1 (N _ (.head _)).2.2 ?_
  refine news_cons (X _ _ (Ne.symm o.2.1) (N _ (.tail _ (.head _))).1) (N _ (.tail _ (.head _))).2.1 (N _ (.tail _ (.head _))).2.2 ?_
  refine news_cons (X _ _ (Ne.symm o.2.2) (N _ (.tail _ (.tail _ (.head _)))).1) (N _ (.tail _ (.tail _ (.head _)))).2.1 (N _ (.tail _ (.tail _ (.head _)))).2.2 ?_
  refine news_cons h7 (Ne.symm hL) hg (news_app Nx fun q hq => ?_)
  have := N q (.tail _ (.tail _ (.tail _ (.tail _ (List.mem_append_right _ hq)))))
  exact ⟨X _ _ (hB q hq) this.1, this.2⟩
theorem bnd_le {k lo b : Int} {n : Nat} (h : k < lo + ((n : Nat) : Int)) (hb : lo + ((n : Nat) : Int) ≤ b) : k ≤ b := Int.le_of_lt (Int.lt_of_lt_of_le h hb)
local macro_rules | `(tactic| l_bnd) => `(tactic| k_dflt (exact bnd_le (by assumption) (by decide)))
theorem cast8 (n : Nat) : (((n : Nat) : Int) == 8) = (n == 8) := by
  rw [Bool.eq_iff_iff]; simp; omega
local macro_rules | `(tactic| walk_at "storeName") => `(tactic| (dsimp only; walk_at "storeName"))
local macro_rules | `(tactic| walk_at "exec Assign cons ListComp") => `(tactic| refine hold_mk ?_)
local macro_rules | `(tactic| walk_at "CompSrc") => `(tactic| ((rename Soon => hSn); refine hold_mk ?_))
local macro_rules | `(tactic| walk_at "CompEnd") => `(tactic| ((rename Soon => hSn); refine hold_mk ?_))
local macro_rules | `(tactic| walk_at "call ref") => `(tactic| refine hold_call (l := [112, 105, 117, 124, 129, 136, 143, 150, 157]) (by decide) ?_)
local macro_rules | `(tactic| walk_at "eval ListComp") => `(tactic| ((rename Soon => hSn); refine hold_mk ?_))
local macro_rules | `(tactic| walk_at "eval Name") => `(tactic| k_dflt (refine comp_cell (by assumption) (by assumption) rfl ?_))
local macro_rules | `(tactic| walk_at "compareOp NotEq ref ref") => `(tactic| refine hold_mk ?_)
local macro_rules | `(tactic| walk_at "subscriptTail") => `(tactic| refine hold_item ?_)
local macro_rules | `(tactic| walk_at "binaryOp Add ref ref") => `(tactic| ((rename Later => hLt); refine hold_mk ?_))
local macro_rules | `(tactic| walk_at "FinA") => `(tactic| ((rename Later => hLt); refine hold_mk ?_))
local macro_rules | `(tactic| walk_at "CompSrcT") => `(tactic| refine hold_mk ?_)
local macro_rules | `(tactic| walk_at "CellSrc") => `(tactic| refine hold_mk ?_)
local macro_rules | `(tactic| walk_at "call type:set cons nil") => `(tactic| refine hold_mk ?_)
local macro_rules | `(tactic| walk_at "call builtin:len") => `(tactic| ((rename Obj.SetObjOf _ _ _ _ => hso); refine hold_mk ?_))
set_option maxHeartbeats 4000000 in
theorem agree_con (w : World) (p : PySem.Program) (loose : List Str) (mean : ExcName → Option Value) (mg mb : Str → Option Value) (f : Int) (t : Tok) (l : Addr) (vs : List Value) (a0 a1 a2 a3 a4 a5 : Int) (s : Shared)
    (hl : s.heap.IsList l vs.toArray) (hl7 : l ≠ 107) (hi : IntsAre vs [a0, a1, a2, a3, a4, a5]) (hb : Small [a0, a1, a2, a3, a4, a5]) (hf : 0 ≤ f ∧ f < 65536) (hf8 : f % 8 = 0) :
    Near 8 w p loose mean mg mb 162 [Value.ref l, Value.int f t] s (fun h v => v = Value.bool true) := by
  w_top off
  unfold Near
  k_fill
  intro dp un gd cn cs a ccd cl outer A₀ base h₀ L m Q E kCallerB kCallerF kCallerX kCallerT hk hd hu h107 hC7 hL7 hT7 kRet
  obtain ⟨g0, gens, drawn, toks, os⟩ := s
  dsimp only at kCallerF kRet hl hT7 ⊢
  obtain ⟨ps, hP, hps⟩ := hT7
  refine' enter_hideC (binds := [(Str.ofString "weights", Value.ref l), (Str.ofString "first", Value.int f t)]) ?k1 ?k2 ?k3 ?k5 ?kA ?kF ?kK ?k6 ?k7 ?k8 ?k9 ?kB ?kD h107 hC7 hL7 hP ?kR ?_ ?c2 ?c3 ?c4
  ( (case kA => exact rfl); (case kF => exact rfl); (case kK => assumption); (case k1 => k_asm); (case k2 => k_asm); (case k3 => k_asm); (case k5 => k_asm); (case k6 => k_is); (case k7 => k_is); (case k8 => ktr_room); (case k9 => exact BindsTo.of_eq rfl); (case kB => exact rfl); (case kD => decide +kernel); (case c2 => exact rfl); (case c3 => exact rfl); (case c4 => exact rfl); (case kR => assumption))
  intro g L' h' tk' cells' hX hg7 hC7' F' N' Y' B' X' T' hlt hle
  replace hlt := ltN hlt
  have hL7' : L' ≠ 107 := Nat.ne_of_gt hlt
  k_cells Y'
  rename_i oF oW dF dW
  have hdW : oW.data = Data.cell (some (Value.ref l)) := dW
  dsimp only at F' N' B' X' T' hX ⊢
  have hlg : g.IsList l vs.toArray := by obtain ⟨o, e, r⟩ := hl; exact ⟨o, hX _ _ hl7 e, r⟩
  have hTR : TabRel g ps [] := tabRel_start hX hps
  simp only [List.cons_append, List.nil_append] at N'
  clear kCallerB kCallerF kCallerX kCallerT kRet h107 hC7 hL7
  k_unmd
  k_fold
  k_steps
  unfold Hold
  rename_i Dm msV hA hms lA hB F1 N1
  have hSoon : Soon := Soon.mk
  replace hms : IntsAre msV (modesL f) := hms
  have hMSb := modes_lt hf.1 hf.2 hf8
  have hMSl : (modesL f).length = 17 := by rw [modesL_eq]; rfl
  generalize hMS : modesL f = MS at *
  have hmsl : msV.length = 17 := by rw [hms.length]; exact hMSl
  have N2 : News g L' hB [(107, tabObj ps), (Dm, W.listOf msV.toArray 0), (L' + 1 + 1, oF), (L' + 1, oW)] := fun q hq => N1 q (by
    simp only [List.mem_cons, List.not_mem_nil, or_false] at hq
    rcases hq with rfl | rfl | rfl | rfl <;> k_mem)
  have hB7 : ∀ q ∈ [(Dm, W.listOf msV.toArray 0), (L' + 1 + 1, oF), (L' + 1, oW)], q.1 ≠ 107 := by
    intro q hq
    simp only [List.mem_cons, List.not_mem_nil, or_false] at hq
    rcases hq with rfl | rfl | rfl
    · exact neN (by dsimp only; omega)
    · exact neN (by dsimp only; omega)
    · exact neN (by dsimp only; omega)
  clear N1
  try dsimp only
  refine LCg.Assign_ListComp_U (F₀ := F1) (by rfl) (by with_unfolding_all rfl) (by rfl) (by decide) (by rfl) (by decide) (by rfl) (by rfl) (by rfl) ?_
  k_steps
  unfold Hold
  refine LCg.CompSrc.ledger (by rfl) F1 N2 (show (Dm, _) ∈ _ by k_mem) (by rw [List.size_toArray, hmsl]; decide) ?_
  intro g'
  refine comp_invD (fun i ys nw => ∃ ps₁ ex, nw = (107, tabObj ps₁) :: (ex ++ [(Dm, W.listOf msV.toArray 0), (L' + 1 + 1, oF), (L' + 1, oW)]) ∧ TabRel g ps₁ ex ∧ RowsAre ys ((MS.take i).map (imgY a0 a1 a2 a3 a4 a5))) ⟨ps, [], rfl, hTR, .nil⟩ ?_ ?_
  · rintro i ys nw v I oI C oC D m₂ h tk9 E' hilt ⟨ps₁, ex, rfl, hR, hrow⟩ hv hC hx9 F9 N9 off ne
    obtain ⟨x, tx, rfl, hxi⟩ := IntsAre.at hms i v (by simpa using hv)
    have hxb := hMSb x (List.mem_of_getElem? hxi)
    have hcW := News.get N9 (show (L' + 1, oW) ∈ _ from .tail _ (.tail _ (.tail _ (.tail _ (List.mem_append_right _ (.tail _ (.tail _ (.head _))))))))
    k_steps
    unfold Hold
    try dsimp only
    refine image_con w p loose mean mg mb x tx l vs a0 a1 a2 a3 a4 a5 _ (Fr.lst F9 hlg) hl7 (by assumption) hxb _ _ _ _ _ _ _ _ _ _ _ _ _ _ _ _ B' F9 X' T' rfl ?_ ?_ hg7 hC7' hL7' (tabOk_of F9 (News.get N9 (.tail _ (.tail _ (.tail _ (.head _))))) (fun q hq => News.get N9 (.tail _ (.tail _ (.tail _ (.tail _ (List.mem_append_left _ hq)))))) hR) ?_
    · show dp + 1 + 4 + 20 < recursionLimit; omega
    · show un + 3 + 8 * 4 + 200 < cLine; omega
    rintro r h2 tk2 hX2 _ ⟨hS2, t2, rfl⟩
    dsimp only at hX2 hS2
    rw [img_eq hb hxb.1 hxb.2]
    obtain ⟨ps₂, ex₂, hR2, h1072, Nx2, hex2⟩ := tab_after F9 (News.get N9 (.tail _ (.tail _ (.tail _ (.head _))))) (fun q hq => N9 q (.tail _ (.tail _ (.tail _ (.tail _ (List.mem_append_left _ hq)))))) hR hX2 hS2
    have F3 := fr_ext F9 hX2 hL7' hg7
    have N3 := news_new N9 off hX2 hB7 hL7' hg7 h1072 Nx2
    have off3 := off_new (ps₂ := ps₂) N9 off hex2
    clear F9 N9 Nx2 hX2 hS2 off
    try dsimp only
    k_steps
    unfold Hold
    try dsimp only
    have hyb := img_lt (a0 := a0) (a1 := a1) (a2 := a2) (a3 := a3) (a4 := a4) (a5 := a5) hxb.1 hxb.2
    refine filemode_con w p loose mean mg mb _ _ _ hyb _ _ _ _ _ _ _ _ _ _ _ _ _ _ _ _ B' F3 X' T' rfl ?_ ?_ ?_
    · show dp + 1 + 2 + 20 < recursionLimit; omega
    · show un + 3 + 8 * 2 + 200 < cLine; omega
    rintro r h4 tk4 hX4 ⟨t4, rfl⟩
    dsimp only at hX4
    rw [fm_row hyb.1 hyb.2]
    have F4 := F3.keeps hX4
    have N4 := N3.grown hX4
    clear F3 N3 hX4
    try dsimp only
    k_steps
    unfold Hold
    refine LCg.CompEnd.intro F4 N4 _ (fun q hq => hq) off3 (.inr ⟨_, .tail _ (List.mem_append_right _ (.head _)), rfl, _, rfl⟩) ⟨ps₂, ex₂, rfl, hR2, ?_⟩
    rw [List.take_add_one, hxi, List.map_append]
    exact hrow.snoc _ _
  · rintro ys nw ⟨ps₁, ex, rfl, hR, hrow⟩
    rw [List.size_toArray, hmsl, ← hMSl, List.take_length] at hrow
    clear F1 N2
    k_steps
    unfold Hold
    rename_i Dr hC tkC F5 N5 off5
    refine LCg.ListComp_U (F₀ := F5) (by rfl) (by decide) (by rfl) (by decide) (by rfl) ?_
    k_steps
    unfold Hold
    refine LCg.CompSrc.ledger (by rfl) F5 N5 (show (Dm, _) ∈ _ from .tail _ (.tail _ (List.mem_append_right _ (.head _)))) (by rw [List.size_toArray, hmsl]; decide) ?_
    intro g''
    refine comp_fixD (fun i v => ∃ t, v = Value.str (rowS (imgY a0 a1 a2 a3 a4 a5 (MS.getD i 0))) t) ?_ ?_
    · intro i zs v I oI C oC D m₂ h tk9 E' hilt hv hC hx9 F9 N9 off ne
      obtain ⟨x, tx, rfl, hxi⟩ := IntsAre.at hms i v (by simpa using hv)
      have hxb := hMSb x (List.mem_of_getElem? hxi)
      have hcW := News.get N9 (show (L' + 1, oW) ∈ _ from .tail _ (.tail _ (.tail _ (.tail _ (.tail _ (List.mem_append_right _ (.tail _ (.tail _ (.head _)))))))))
      k_steps
      unfold Hold
      try dsimp only
      refine plain_con w p loose mean mg mb x tx l vs a0 a1 a2 a3 a4 a5 _ (Fr.lst F9 hlg) (by assumption) hb hxb _ _ _ _ _ _ _ _ _ _ _ _ _ _ _ _ B' F9 X' T' rfl ?_ ?_ ?_
      · show dp + 1 + 1 + 20 < recursionLimit; omega
      · show un + 3 + 8 * 1 + 200 < cLine; omega
      rintro r h2 tk2 hX2 ⟨t2, rfl⟩
      dsimp only at hX2
      rw [plain_eq]
      have F3 := F9.keeps hX2
      have N3 := N9.grown hX2
      clear F9 N9 hcW hX2
      try dsimp only
      k_steps
      unfold Hold
      try dsimp only
      have hyb := img_lt (a0 := a0) (a1 := a1) (a2 := a2) (a3 := a3) (a4 := a4) (a5 := a5) hxb.1 hxb.2
      refine row_con w p loose mean mg mb _ _ _ hyb _ _ _ _ _ _ _ _ _ _ _ _ _ _ _ _ B' F3 X' T' rfl ?_ ?_ ?_
      · show dp + 1 + 1 + 20 < recursionLimit; omega
      · show un + 3 + 8 * 1 + 200 < cLine; omega
      rintro r h4 tk4 hX4 ⟨t4, rfl⟩
      dsimp only at hX4
      have F4 := F3.keeps hX4
      have N4 := N3.grown hX4
      clear F3 N3 hX4
      try dsimp only
      k_steps
      try unfold Hold
      refine LCg.CompEnd.intro F4 N4 _ (fun q hq => hq) off (.inr ⟨_, .tail _ (.tail _ (List.mem_append_right _ (.head _))), rfl, _, rfl⟩) ⟨rfl, t4, ?_⟩
      rw [List.getD_eq_getElem?_getD, hxi]; rfl
    · intro zs hzl hzf
      k_steps
      unfold Hold
      try dsimp only
      (rename Fr _ _ _ _ => F6)
      (rename News _ _ _ _ => N6)
      have hz := rows_of (fun i => imgY a0 a1 a2 a3 a4 a5 (MS.getD i 0)) hzl hzf
      have hz' : RowsAre zs (MS.map (imgY a0 a1 a2 a3 a4 a5)) := by
        have e : (List.range msV.toArray.size).map (fun i => imgY a0 a1 a2 a3 a4 a5 (MS.getD i 0)) = MS.map (imgY a0 a1 a2 a3 a4 a5) := by
          refine List.ext_getElem (by simp [hmsl, hMSl]) fun i h1 h2 => ?_
          have h3 : i < MS.length := by simpa using h2
          simp [List.getD_eq_getElem?_getD, h3]
        exact e ▸ hz
      refine ne_dataH (reads_newData ⟨_, News.get N6 (.tail _ (.head _)), rfl, _, rfl⟩ hrow.carried) (reads_newData ⟨_, News.get N6 (.head _), rfl, _, rfl⟩ hz'.carried) (shaped_strs _) (shaped_strs _) (by ke_room) ?_
      rw [eqv_strs]
      try dsimp only [Bool.not_true]
      k_steps
      unfold Hold
      try dsimp only
      have N7 : News g L' _ ((L' + 1, oW) :: (Dr, LCg.lst ys) :: (107, tabObj ps₁) :: (ex ++ [(Dm, W.listOf msV.toArray 0), (L' + 1 + 1, oF), (L' + 1, oW)])) := fun q hq => N6 q (by
        rcases List.mem_cons.mp hq with rfl | hq
        · exact .tail _ (.tail _ (.tail _ (List.mem_append_right _ (.tail _ (.tail _ (.head _))))))
        · exact .tail _ hq)
      have hm107 : (107, tabObj ps₁) ∈ (107, tabObj ps₁) :: (ex ++ [(Dm, W.listOf msV.toArray 0), (L' + 1 + 1, oF), (L' + 1, oW)]) := .head _
      have hmex : ∀ q ∈ ex, q ∈ (107, tabObj ps₁) :: (ex ++ [(Dm, W.listOf msV.toArray 0), (L' + 1 + 1, oF), (L' + 1, oW)]) := fun q hq => .tail _ (List.mem_append_left _ hq)
      generalize hR0 : (107, tabObj ps₁) :: (ex ++ [(Dm, W.listOf msV.toArray 0), (L' + 1 + 1, oF), (L' + 1, oW)]) = R0 at N7 hm107 hmex
      have hysl : ys.length = 17 := by
        rw [hrow.length, List.length_map, hMSl]
      clear N6 hz hz' hzf hzl hR0 N5 F5 off5
      refine LCg.Assign_ListComp_U (F₀ := F6) (by rfl) (by with_unfolding_all rfl) (by rfl) (by decide) (by rfl) (by decide) (by rfl) (by rfl) (by rfl) ?_
      k_steps
      unfold Hold
      refine LCg.CompSrc.ledger (by rfl) F6 N7 (show (Dr, _) ∈ _ from .tail _ (.head _)) (by rw [List.size_toArray, hysl]; decide) ?_
      intro g3
      refine comp_invD (fun i ys' nw => ∃ es, nw = es ++ ((L' + 1, oW) :: (Dr, LCg.lst ys) :: R0) ∧ ys' = es.map (fun e => Value.ref e.1) ∧ REs es ((MS.map (imgY a0 a1 a2 a3 a4 a5)).take i)) ⟨[], rfl, rfl, .nil⟩ ?_ ?_
      · rintro i ys' nw v I oI C oC D m₂ h tk9 E' hilt ⟨es, rfl, rfl, hes9⟩ hv hC hx9 F9 N9 off ne
        obtain ⟨y, ty, hyi, rfl⟩ := hrow.at (i := i) (by simpa using hv)
        k_steps
        unfold Hold
        try dsimp only
        refine rights_con w p loose mean mg mb y ty _ _ _ _ _ _ _ _ _ _ _ _ _ _ _ _ _ B' F9 X' T' rfl ?_ ?_ ?_
        · show dp + 1 + 1 + 20 < recursionLimit; omega
        · show un + 3 + 8 * 1 + 200 < cLine; omega
        rintro r h2 tk2 hX2 ⟨lv, rfl, hfr, o, ho, hcls, n, hdat⟩
        dsimp only at hX2 hfr ho
        have F3 := F9.keeps hX2
        have hne7 : ∀ b ob, h.get? b = some ob → b ≠ lv := fun b ob e q => by rw [q, hfr] at e; cases e
        have hlL : lv ≠ L' := by obtain ⟨oL, _, _, eL, _⟩ := F9.ns; exact fun q => hne7 _ _ eL q.symm
        have hg0 : g.get? lv = none := by
          cases q : g.get? lv with
          | none => rfl
          | some oq => exact absurd rfl (hne7 _ _ (F9.keep _ _ q))
        have N3 := news_cons ho hlL hg0 (N9.grown hX2)
        have off3 : LCg.Off3 I C D ((es ++ [(lv, o)]) ++ ((L' + 1, oW) :: (Dr, LCg.lst ys) :: R0)) := LCg.Off3.of fun q hq => by
          rcases List.mem_append.mp hq with hq | hq
          · rcases List.mem_append.mp hq with hq | hq
            · exact off.mem q (List.mem_append_left _ hq)
            · rw [List.mem_singleton.mp hq]
              exact ⟨Ne.symm (hne7 _ _ (N9 (I, oI) (.head _)).1), Ne.symm (hne7 _ _ (N9 (C, oC) (.tail _ (.head _))).1), Ne.symm (hne7 _ _ (N9 (D, _) (.tail _ (.tail _ (.head _)))).1)⟩
          · exact off.mem q (List.mem_append_right _ hq)
        clear F9 N9 hX2
        try dsimp only
        k_steps
        unfold Hold
        refine LCg.CompEnd.intro F3 N3 ((es ++ [(lv, o)]) ++ ((L' + 1, oW) :: (Dr, LCg.lst ys) :: R0)) ?_ off3 (.inr ⟨_, List.mem_append_right _ (.tail _ (.head _)), rfl, _, rfl⟩) ⟨_, rfl, ?_, ?_⟩
        · intro q hq
          rcases List.mem_cons.mp hq with rfl | hq
          · exact .tail _ (.head _)
          rcases List.mem_cons.mp hq with rfl | hq
          · exact .tail _ (.tail _ (.head _))
          rcases List.mem_cons.mp hq with rfl | hq
          · exact .tail _ (.tail _ (.tail _ (.head _)))
          rcases List.mem_append.mp hq with hq | hq
          · rcases List.mem_append.mp hq with hq | hq
            · exact .tail _ (.tail _ (.tail _ (.tail _ (List.mem_append_left _ hq))))
            · rw [List.mem_singleton.mp hq]; exact .head _
          · exact .tail _ (.tail _ (.tail _ (.tail _ (List.mem_append_right _ hq))))
        · rw [List.map_append]; rfl
        · rw [List.take_add_one, hyi]
          exact hes9.snoc ⟨hcls, n, hdat⟩
      · rintro ys' nw ⟨es, rfl, rfl, hes⟩
        rw [List.size_toArray, hysl, List.take_of_length_le (by rw [List.length_map, hMSl]; decide)] at hes
        clear F6 N7
        have hLater : Later := Later.mk
        obtain ⟨ras, hras⟩ : ∃ ras, ras = es.map (·.1) := ⟨_, rfl⟩
        have hrl : ras.length = 17 := by rw [hras, List.length_map, hes.length, List.length_map, hMSl]
        have hrv : es.map (fun e => Value.ref e.1) = ras.map Value.ref := by rw [hras, List.map_map]; rfl
        rw [hrv]
        k_steps
        unfold Hold
        intro DD hE tkE F8 N8' _
        have N8 : News g L' hE ((DD, LCg.lst (ras.map Value.ref)) :: (L' + 1, oW) :: (es ++ ((Dr, LCg.lst ys) :: R0))) := fun q hq => N8' q (by
          rcases List.mem_cons.mp hq with rfl | hq
          · exact .head _
          rcases List.mem_cons.mp hq with rfl | hq
          · exact .tail _ (List.mem_append_right _ (.head _))
          rcases List.mem_append.mp hq with hq | hq
          · exact .tail _ (List.mem_append_left _ hq)
          · exact .tail _ (List.mem_append_right _ (.tail _ hq)))
        have hmes : ∀ q ∈ es, q ∈ es ++ ((Dr, LCg.lst ys) :: R0) := fun q hq => List.mem_append_left _ hq
        replace hm107 : (107, tabObj ps₁) ∈ es ++ ((Dr, LCg.lst ys) :: R0) := List.mem_append_right _ (.tail _ hm107)
        replace hmex : ∀ q ∈ ex, q ∈ es ++ ((Dr, LCg.lst ys) :: R0) := fun q hq => List.mem_append_right _ (.tail _ (hmex q hq))
        generalize es ++ ((Dr, LCg.lst ys) :: R0) = R1 at N8 hmes hm107 hmex
        clear N8'
        try dsimp only
        k_steps
        unfold Hold
        refine item_listL (l := ras.map Value.ref) (x := .ref (ras.getD 0 0)) ⟨_, News.get N8 (.head _), rfl, _, rfl⟩ (by decide) (by decide) (ref_at (by omega)) ?_
        try dsimp only
        k_steps
        unfold Hold
        try dsimp only
        refine item_listL (l := ras.map Value.ref) (x := .ref (ras.getD 1 0)) ⟨_, News.get N8 (.head _), rfl, _, rfl⟩ (by decide) (by decide) (ref_at (by omega)) ?_
        try dsimp only
        k_steps
        unfold Hold
        try dsimp only
        refine item_listL (l := ras.map Value.ref) (x := .ref (ras.getD 2 0)) ⟨_, News.get N8 (.head _), rfl, _, rfl⟩ (by decide) (by decide) (ref_at (by omega)) ?_
        try dsimp only
        k_steps
        unfold Hold
        try dsimp only
        refine item_listL (l := ras.map Value.ref) (x := .ref (ras.getD 4 0)) ⟨_, News.get N8 (.head _), rfl, _, rfl⟩ (by decide) (by decide) (ref_at (by omega)) ?_
        try dsimp only
        k_steps
        unfold Hold
        try dsimp only
        (rename Fr _ _ _ _ => Fa)
        (rename News _ _ _ _ => Na)
        dsimp only at Na
        have hsl : slicePick (ras.map Value.ref).toArray (some 8) none none = ((ras.drop 8).map Value.ref).toArray := by
          rw [show (8 : Int) = ((8 : Nat) : Int) from rfl, slicePick_from', List.map_drop]
        rw [hsl] at Na
        refine PyProof.Rows.add_lists (vs := [.ref (ras.getD 1 0), .ref (ras.getD 2 0), .ref (ras.getD 4 0)]) (ws := (ras.drop 8).map Value.ref) Fa Na ⟨_, News.get Na (.tail _ (.head _)), rfl, _, rfl⟩ ⟨_, News.get Na (.head _), rfl, _, rfl⟩ ?_ (by rw [List.length_map, List.length_drop, hrl]; exact (by decide : 3 + (17 - 8) ≤ sizeLine))
        intro hS FS NS'
        dsimp only at NS' ⊢
        have hTu : hS.IsList _ (([ras.getD 1 0, ras.getD 2 0, ras.getD 4 0] ++ ras.drop 8).map Value.ref).toArray := ⟨_, News.get NS' (.head _), rfl, _, by rw [List.map_append]; rfl⟩
        have NS : News g L' hS ((DD, LCg.lst (ras.map Value.ref)) :: (L' + 1, oW) :: R1) := fun q hq => NS' q (.tail _ (.tail _ (.tail _ hq)))
        clear NS' Na Fa hsl
        try clear N8
        try clear F8
        k_steps
        unfold Hold
        try dsimp only
        have hes' : REs es ((modesL f).map (imgY a0 a1 a2 a3 a4 a5)) := hMS ▸ hes
        have hgS : ∀ q ∈ es, hS.get? q.1 = some q.2 := fun q hq => News.get NS (.tail _ (.tail _ (hmes q hq)))
        refine changes_con w p loose mean mg mb (ras.getD 0 0) _ (bits (imgY a0 a1 a2 a3 a4 a5 f)) _ l vs a0 a1 a2 a3 a4 a5 _ (Fr.lst FS hlg) (by assumption) (image_prem hes' hgS hras) (bits_len _) hTu (by simp [hrl]) (changes_prem hes' hgS hf.1 hf8 hras hrl) _ _ _ _ _ _ _ _ _ _ _ _ _ _ _ _ B' FS X' T' rfl ?_ ?_ ?_
        · show dp + 1 + 1 + 20 < recursionLimit; omega
        · show un + 3 + 8 * 1 + 200 < cLine; omega
        rintro r h2 tk2 hX2 rfl
        dsimp only at hX2
        have F9 := FS.keeps hX2
        have N9 := NS.grown hX2
        clear FS NS hX2 hTu hgS
        try dsimp only
        k_steps
        unfold Hold
        try dsimp only
        refine Assign_cell (fun i v => ∃ t, v = Value.int ((othL a0 a1 a2 a3 a4 a5).getD i 0) t) F9 (by rfl) (by with_unfolding_all rfl) (by rfl) (by rfl) (by decide) (fun n => rfl) (fun h => rfl) (by rfl) (by rfl) (by rfl) ?_
        k_steps
        unfold Hold
        unfold CellSrc
        (rename Fr _ _ _ _ => Fs)
        (rename News _ _ _ _ => Ns)
        dsimp only at Ns ⊢
        have hsl : slicePick (ras.map Value.ref).toArray none (some 8) none = ((ras.take 8).map Value.ref).toArray := by
          rw [show (8 : Int) = ((8 : Nat) : Int) from rfl, slicePick_upto', List.map_take]
        rw [hsl] at Ns
        refine ⟨_, _, _, rfl, by rfl, Fs, Ns, .inr ⟨_, .head _, rfl, _, rfl⟩, ?_, ?_, ?_⟩
        · rw [List.size_toArray, List.length_map, List.length_take, hrl]; decide
        · clear Fs Ns F9 N9
          intro i v C K oK h tk news' E' hv hdK F9 N9 hmK hsub
          have hi8 : i < 8 := by
            have := (Array.getElem?_eq_some_iff.mp hv).1
            simp at this; omega
          have hv' : v = Value.ref (ras.getD i 0) := by
            rw [List.getElem?_toArray, List.getElem?_map, List.getElem?_take_of_lt hi8] at hv
            rw [List.getD_eq_getElem?_getD]
            rw [List.getElem?_eq_getElem (show i < ras.length by omega)] at hv ⊢
            exact (Option.some.inj hv).symm
          subst hv'
          have hcK := News.get N9 hmK
          have hyi : ((modesL f).map (imgY a0 a1 a2 a3 a4 a5))[i]? = some (imgY a0 a1 a2 a3 a4 a5 (f + (i : Int))) := by rw [List.getElem?_map, mode_low hi8]; rfl
          have hov := oth_val hf8 hi8 hyi
          generalize imgY a0 a1 a2 a3 a4 a5 (f + (i : Int)) = y at hyi hov
          rw [← hov]
          have hmes' : ∀ q ∈ es, q ∈ news' := fun q hq => hsub q (.tail _ (.tail _ (.tail _ (hmes q hq))))
          clear hsub
          k_steps
          unfold Hold
          (rename Fr _ _ _ _ => Fi)
          (rename News _ _ _ _ => Ni)
          refine LCt.ListComp_T (F₀ := Fi) (by rfl) (by decide) (by rfl) (by decide) (by rfl) ?_
          k_steps
          unfold Hold
          (rename Fr _ _ _ _ => Fr1)
          (rename News _ _ _ _ => Nr1)
          refine LCt.CompSrcT.range (n := 3) (by rfl) Fr1 Nr1 (by assumption) (by decide) (by rfl) (by decide) ?_
          intro g4
          refine compT_inv (fun i ys => IntsAre ys (pw y i)) .nil ?_ ?_
          · intro j zs v I oI C' oC D m₂ h9 tk9 E9 hj hzs hv9 hC hx9 F9 N9 off ne
            obtain ⟨t9, rfl⟩ := hv9
            have hcK' := News.get N9 (.tail _ (.tail _ (.tail _ hmK)))
            have hlj : h9.IsList (ras.getD i 0) (bitsV y).toArray := by
              rw [bitsV_bits, hras]
              exact hes'.isList (fun q hq => News.get N9 (.tail _ (.tail _ (.tail _ (hmes' q hq))))) hyi
            have hbj : (bitsV y)[(0 + (j : Int)).toNat]? = some (Value.bool (bitB y j)) := by
              rw [show (0 + (j : Int)).toNat = j by omega]
              unfold bitsV
              rw [List.getElem?_map, List.getElem?_range (by omega)]; rfl
            clear Fr1 Nr1
            cases hb : bitB y j
            · rw [hb] at hbj
              k_steps
              unfold Hold
              refine item_listL (l := bitsV y) (x := .bool false) hlj (by omega) (by omega) hbj ?_
              try dsimp only
              k_steps
              unfold Hold
              (rename Fr _ _ _ _ => Fe)
              (rename News _ _ _ _ => Ne)
              refine LCg.CompEnd.intro Fe Ne _ (fun q hq => hq) off trivial ⟨rfl, ?_⟩
              rw [pw_false hb]; exact hzs
            · rw [hb] at hbj
              k_steps
              unfold Hold
              refine item_listL (l := bitsV y) (x := .bool true) hlj (by omega) (by omega) hbj ?_
              try dsimp only
              k_steps
              unfold Hold
              (rename Fr _ _ _ _ => Fe)
              (rename News _ _ _ _ => Ne)
              refine LCg.CompEnd.intro Fe Ne _ (fun q hq => hq) off trivial ⟨rfl, ?_⟩
              rw [pw_true hb]
              refine IntsAre.append hzs ?_
              rw [show (0 + (j : Int)).toNat = j by omega]
              exact .cons _ _ .nil
          · intro zs hzs
            k_steps
            · (rename Fr _ _ _ _ => Fz)
              exact Fz
            · (rename News _ _ _ _ => Nz)
              exact fun q hq => Nz q (.tail _ hq)
        · clear Fs Ns
          intro DO hO tkO ys' hyl hyf FO NO'
          have hOI := oth_at (by rw [hyl, List.size_toArray, List.length_map, List.length_take, hrl]; rfl) hyf
          have NO : News g L' hO ((DO, LCg.lst ys') :: (L' + 1, oW) :: R1) := fun q hq => NO' q (by
            rcases List.mem_cons.mp hq with rfl | hq
            · exact .head _
            · exact .tail _ (.tail _ (.tail _ hq)))
          clear NO' N9 F9 hyf
          try dsimp only
          k_steps
          unfold Hold
          refine set_here FO NO rfl ⟨_, News.get NO (.head _), rfl, _, rfl⟩ hOI (oth_len ..) ?_
          intro DS hSe tkS oS FS NS hso
          try dsimp only
          clear NO FO
          k_steps
          unfold Hold
          (rename Obj.SetObjOf _ _ _ _ => hso2)
          have hml : metLen (othL a0 a1 a2 a3 a4 a5) ≤ 8 := firstMet_length_le _ _
          have hok := oth_ok a0 a1 a2 a3 a4 a5
          refine len_sl1 (own := []) NS hso2 (by show ((metLen (othL a0 a1 a2 a3 a4 a5) : Nat) : Int) < 2 ^ 63; omega) ?_
          have N10 : News g L' hSe ((DO, LCg.lst ys') :: (L' + 1, oW) :: R1) := fun q hq => NS q (.tail _ hq)
          clear NS hso2
          try dsimp only
          k_steps
          unfold Hold
          try dsimp only
          have e1 : (((firstMet (fun i => (othL a0 a1 a2 a3 a4 a5).getD i 0) 8).length : Int) == 8) = mixB a1 a2 a3 a4 a5 := by
            rw [← hok.1]
            exact cast8 (metLen (othL a0 a1 a2 a3 a4 a5))
          rw [e1]
          have hl1 := Fr.lst FS hlg
          refine mixes_con w p loose mean mg mb l vs a0 a1 a2 a3 a4 a5 _ hl1 (by assumption) _ _ _ _ _ _ _ _ _ _ _ _ _ _ _ _ B' FS X' T' rfl ?_ ?_ ?_
          · show dp + 1 + 1 + 20 < recursionLimit; omega
          · show un + 3 + 8 * 1 + 200 < cLine; omega
          rintro r h2 tk2 hX2 rfl
          dsimp only at hX2
          have F11 := FS.keeps hX2
          have N11 := N10.grown hX2
          clear FS N10 hX2 hl1 e1
          generalize mixB a1 a2 a3 a4 a5 = bM
          have hbm : (bM != bM) = false := by cases bM <;> rfl
          try dsimp only
          k_steps
          unfold Hold
          try dsimp only
          have hlO : h2.IsList DO ys'.toArray := ⟨_, News.get N11 (.head _), rfl, _, rfl⟩
          refine ring_con w p loose mean mg mb DO ys' (othL a0 a1 a2 a3 a4 a5) _ hlO hOI (oth_len ..) (oth_lt a0 a1 a2 a3 a4 a5) _ _ _ _ _ _ _ _ _ _ _ _ _ _ _ _ B' F11 X' T' rfl ?_ ?_ ?_
          · show dp + 1 + 1 + 20 < recursionLimit; omega
          · show un + 3 + 8 * 1 + 200 < cLine; omega
          rintro r h3 tk3 hX3 ⟨t3, rfl⟩
          dsimp only at hX3
          have F12 := F11.keeps hX3
          have N12 := N11.grown hX3
          clear F11 N11 hX3 hlO
          try dsimp only
          k_steps
          unfold Hold
          try dsimp only
          have e2 : (((ringLen (othL a0 a1 a2 a3 a4 a5) : Nat) : Int) == 8) = circB a0 a1 a2 a3 a4 a5 := by rw [← hok.2]; exact cast8 _
          rw [e2]
          have hl1 := Fr.lst F12 hlg
          refine circles_con w p loose mean mg mb l vs a0 a1 a2 a3 a4 a5 _ hl1 (by assumption) _ _ _ _ _ _ _ _ _ _ _ _ _ _ _ _ B' F12 X' T' rfl ?_ ?_ ?_
          · show dp + 1 + 1 + 20 < recursionLimit; omega
          · show un + 3 + 8 * 1 + 200 < cLine; omega
          rintro r h4 tk4 hX4 rfl
          dsimp only at hX4
          have F13 := F12.keeps hX4
          have N13 := N12.grown hX4
          clear F12 N12 hX4 hl1 e2
          generalize circB a0 a1 a2 a3 a4 a5 = bC
          have hbc : (bC == bC) = true := by cases bC <;> rfl
          try dsimp only
          k_steps
          exact DoneB.mk F13 (tabOk_of F13 (News.get N13 (.tail _ (.tail _ hm107))) (fun q hq => News.get N13 (.tail _ (.tail _ (hmex q hq)))) hR) (congrArg Value.bool hbc)
end

section
open PySem PySem.W PyProof.Rows
set_option Elab.async false
set_option maxRecDepth 100000

theorem ints_step {ws : List Value} {ms : List Int} {n : Nat} (h : IntsAre ws ms) (hn : ms.length = n + 1) : ∃ m t ws' ms', ws = Value.int m t :: ws' ∧ IntsAre ws' ms' ∧ ms'.length = n := by
  cases h with
  | nil => cases hn
  | cons m t r => exact ⟨m, t, _, _, rfl, r, Nat.succ.inj hn⟩
theorem ints_done {ws : List Value} {ms : List Int} (h : IntsAre ws ms) (hn : ms.length = 0) : ws = [] := by
  cases h with
  | nil => rfl
  | cons m t r => cases hn
theorem seven_items {ws : List Value} {ms : List Int} (h : IntsAre ws ms) (hn : ms.length = 7) : ∃ m0 m1 m2 m3 m4 m5 m6 t0 t1 t2 t3 t4 t5 t6, ws = [Value.int m0 t0, .int m1 t1, .int m2 t2, .int m3 t3, .int m4 t4, .int m5 t5, .int m6 t6] := by
  obtain ⟨m0, t0, w0, n0, rfl, h0, e0⟩ := ints_step h hn
  obtain ⟨m1, t1, w1, n1, rfl, h1, e1⟩ := ints_step h0 e0
  obtain ⟨m2, t2, w2, n2, rfl, h2, e2⟩ := ints_step h1 e1
  obtain ⟨m3, t3, w3, n3, rfl, h3, e3⟩ := ints_step h2 e2
  obtain ⟨m4, t4, w4, n4, rfl, h4, e4⟩ := ints_step h3 e3
  obtain ⟨m5, t5, w5, n5, rfl, h5, e5⟩ := ints_step h4 e4
  obtain ⟨m6, t6, w6, n6, rfl, h6, e6⟩ := ints_step h5 e5
  obtain rfl := ints_done h6 e6
  exact ⟨m0, m1, m2, m3, m4, m5, m6, t0, t1, t2, t3, t4, t5, t6, rfl⟩
/-- a new list onto the ledger -/
theorem news_list {g h h2 : Heap} {L l' : Addr} {m : Str → Option Value} {news : List (Addr × Obj)} {its : Array Value} (F : Fr g L h m) (N : News g L h news) (X : Ext h h2) (hfr : h.get? l' = none) (hl : h2.IsList l' its) :
    ∃ dd n sl, News g L h2 ((l', ({ cls := .type "list", dict := dd, data := .seq its n, slots := sl } : Obj)) :: news) := by
  obtain ⟨⟨cls, dd, data, sl⟩, ho, hc, n, hdat⟩ := hl
  dsimp only at hc hdat
  subst hc hdat
  refine ⟨dd, n, sl, news_cons ho ?_ ?_ (N.grown X)⟩
  · obtain ⟨oL, _, _, eL, _⟩ := F.ns
    intro q; rw [q, eL] at hfr; cases hfr
  · cases q : g.get? l' with
    | none => rfl
    | some oq => rw [F.keep _ _ q] at hfr; cases hfr
local macro_rules | `(tactic| walk_at "call ref") => `(tactic| refine hold_call (l := [167, 162]) (by decide) ?_)
local macro_rules | `(tactic| walk_at "eval ListComp") => `(tactic| refine hold_mk ?_)
local macro_rules | `(tactic| walk_at "CompSrc") => `(tactic| refine hold_mk ?_)
theorem small6 (a b c d e f : Int) : Small [a % 4096, b % 4096, c % 4096, d % 4096, e % 4096, f % 4096] := by
  intro i
  rcases i with _ | _ | _ | _ | _ | _ | i
  · show 0 ≤ a % 4096 ∧ a % 4096 < 4096; omega
  · show 0 ≤ b % 4096 ∧ b % 4096 < 4096; omega
  · show 0 ≤ c % 4096 ∧ c % 4096 < 4096; omega
  · show 0 ≤ d % 4096 ∧ d % 4096 < 4096; omega
  · show 0 ≤ e % 4096 ∧ e % 4096 < 4096; omega
  · show 0 ≤ f % 4096 ∧ f % 4096 < 4096; omega
  · show (0 : Int) ≤ 0 ∧ (0 : Int) < 4096; omega
set_option maxHeartbeats 8000000 in
theorem law_holds : PySem.Challenge.rw_ny0121_01.Holds := hd (by
  w_top off
  k_go0
  k_steps
  unfold Hold
  try dsimp only
  (rename Fr _ _ _ _ => F1)
  (rename News _ _ _ _ => N1)
  (rename Below _ _ _ _ => B1)
  (rename Frag.In _ _ => X1)
  (rename Top _ _ _ _ _ _ => T1)
  (rename IntsAre _ _ => hI1)
  (rename ¬ (_ < _) => hc1)
  refine LCg.ListComp_U (F₀ := F1) (by rfl) (by decide) (by rfl) (by decide) (by rfl) ?_
  k_steps
  unfold Hold
  try dsimp only
  refine seven_con _ _ _ _ _ _ _ _ _ _ (Fr.lst F1 lifted) hI1 (by omega) _ _ _ _ _ _ _ _ _ _ _ _ _ _ _ _ B1 F1 X1 T1 rfl ?_ ?_ ?_
  · exact Nat.le_of_ble_eq_true rfl
  · exact Nat.le_of_ble_eq_true rfl
  rintro r h2 tk2 hX2 ⟨l', ws, ms, rfl, hfr, hl2, hws, hms⟩
  dsimp only at hX2 hfr
  obtain ⟨m0, m1, m2, m3, m4, m5, m6, t0, t1, t2, t3, t4, t5, t6, rfl⟩ := seven_items hws hms
  obtain ⟨dd, n, sl, N2⟩ := news_list F1 N1 hX2 hfr hl2
  have F2 := F1.keeps hX2
  clear hX2 hfr hl2 hws hms F1 N1
  try dsimp only
  k_steps
  unfold Hold
  try dsimp only
  (rename Fr _ _ _ _ => F3)
  (rename News _ _ _ _ => N3)
  refine LCg.CompSrc.ledger (by rfl) F3 N3 (.head _) (by exact (by decide : 6 ≤ sizeLine)) ?_
  intro g'
  refine comp_fixD (fun i v => ∃ t, v = Value.int (([m0, m1, m2, m3, m4, m5] : List Int).getD i 0 % 4096) t) ?_ ?_
  · intro i ys v I oI C oC D m₂ h tk E' hi hv hC hx F9 N9 off ne
    obtain ⟨k, t, rfl, hk⟩ := IntsAre.at (show IntsAre [.int m0 t0, .int m1 t1, .int m2 t2, .int m3 t3, .int m4 t4, .int m5 t5] [m0, m1, m2, m3, m4, m5] from .cons _ _ (.cons _ _ (.cons _ _ (.cons _ _ (.cons _ _ (.cons _ _ .nil)))))) i v (by simpa using hv)
    simp only [LCg.Off3, and_true] at off
    clear F3 N3
    k_steps
    refine ⟨rfl, _, congrArg (fun x => Value.int x _) ?_⟩
    rw [List.getD_eq_getElem?_getD, hk]
    first | exact Int.fmod_eq_emod_of_nonneg _ (by decide) | rfl
  · intro ys hyl hyf
    have hIy := ints_range 6 (fun i => ([m0, m1, m2, m3, m4, m5] : List Int).getD i 0 % 4096) ys hyl hyf
    replace hIy : IntsAre ys [m0 % 4096, m1 % 4096, m2 % 4096, m3 % 4096, m4 % 4096, m5 % 4096] := hIy
    clear F3 N3 hyf
    k_steps
    unfold Hold
    try dsimp only
    (rename Fr _ _ _ _ => F4)
    (rename News _ _ _ _ => N4)
    refine seven_con _ _ _ _ _ _ _ _ _ _ (Fr.lst F4 lifted) hI1 (by omega) _ _ _ _ _ _ _ _ _ _ _ _ _ _ _ _ B1 F4 X1 T1 rfl ?_ ?_ ?_
    · exact Nat.le_of_ble_eq_true rfl
    · exact Nat.le_of_ble_eq_true rfl
    rintro r h5 tk5 hX5 ⟨l5, ws, ms, rfl, hfr, hl5, hws, hms⟩
    dsimp only at hX5 hfr
    obtain ⟨n0, n1, n2, n3, n4, n5, n6, u0, u1, u2, u3, u4, u5, u6, rfl⟩ := seven_items hws hms
    have N4' : News _ _ _ [(_, LCg.lst ys), (107, tabObj #[])] := fun q hq => N4 q (by
      rcases List.mem_cons.mp hq with rfl | hq
      · exact .head _
      · rw [List.mem_singleton.mp hq]; exact .tail _ (.tail _ (.tail _ (.head _))))
    obtain ⟨dd5, n5', sl5, N5⟩ := news_list F4 N4' hX5 hfr hl5
    have F5 := F4.keeps hX5
    clear hX5 hfr hl5 hws hms F4 N4 N4'
    try dsimp only
    k_steps
    unfold Hold
    try dsimp only
    (rename Fr _ _ _ _ => F6)
    (rename News _ _ _ _ => N6)
    dsimp only at F6 N6
    have hN7 := N6 (107, tabObj #[]) (by k_mem)
    have hD := News.get N6 (show (_, LCg.lst ys) ∈ _ by k_mem)
    refine agree_con _ _ _ _ _ _ _ _ _ ys _ _ _ _ _ _ _ ⟨_, hD, rfl, _, rfl⟩ ?_ hIy (small6 m0 m1 m2 m3 m4 m5) ?_ ?_ _ _ _ _ _ _ _ _ _ _ _ _ _ _ _ _ B1 F6 X1 T1 rfl ?_ ?_ hN7.2.2 codeHd (Ne.symm hN7.2.1) ⟨#[], hN7.1, .inl rfl⟩ ?_
    · intro q
      rw [q, hN7.1] at hD
      cases hD
    · rw [Int.fmod_eq_emod_of_nonneg _ (by decide : (0 : Int) ≤ 65536), Int.fmod_eq_emod_of_nonneg _ (by decide : (0 : Int) ≤ 8)]
      omega
    · rw [Int.fmod_eq_emod_of_nonneg _ (by decide : (0 : Int) ≤ 65536), Int.fmod_eq_emod_of_nonneg _ (by decide : (0 : Int) ≤ 8)]
      omega
    · exact Nat.le_of_ble_eq_true rfl
    · exact Nat.le_of_ble_eq_true rfl
    rintro r h9 tk9 hX9 ⟨ps9, hP9, _⟩ rfl
    dsimp only at hX9
    have F7 := fr_ext F6 hX9 (Ne.symm hN7.2.1) hN7.2.2
    have N7 : News _ _ h9 [(107, tabObj ps9)] := fun q hq => by
      rw [List.mem_singleton.mp hq]; exact ⟨hP9, hN7.2.1, hN7.2.2⟩
    clear F6 N6 hX9 hD
    try dsimp only
    k_steps)
end
end Mine

theorem PySem.Challenge.cw_ny0121_01_holds : PySem.Challenge.rw_ny0121_01.Holds := by
  exact Mine.law_holds
