import PyProof.Rows.All
import Wide.All
import OpenK.AllK
import Wide.FinOn
import PySem.Challenge.RW_xg0009_01
open PySem PySem.W PySem.Calls PySem.Spec PyProof.Rows PyProof.V
set_option Elab.async false
local macro_rules | `(tactic| walk_at $s:str) => `(tactic| k_extra $s)
namespace Mine
set_option maxRecDepth 100000 in
set_option maxHeartbeats 8000000 in
open_top hd for PySem.Challenge.rw_xg0009_01
end Mine
set_option maxRecDepth 100000
namespace Mine

abbrev Kp (h h' : Heap) : Prop := ∀ b o, h.get? b = some o → h'.get? b = some o
abbrev AX (dp un : Nat) (gd : Option (List Code)) (env : Env) (outer : List Env) : Around := { handled := none, depth := dp, frames := some (env :: outer), guards := gd, units := un }
def retOf : Flow → Value
  | .ret v => v
  | _ => .none

/-- a frame's names, in order -/
def mp : List (Str × Option Value) → Str → Option Value
  | [] => fun _ => none
  | (x, v) :: r => fun z => if z = x then v else mp r z
theorem mp_eq {m m' : Str → Option Value} (ks : List Str) (h : ∀ k ∈ ks, m k = m' k) (h' : ∀ z, (∀ k ∈ ks, z ≠ k) → m z = m' z) : m = m' := by
  funext z
  by_cases q : z ∈ ks
  · exact h z q
  · exact h' z fun k hk e => q (e ▸ hk)
theorem mp_off {ps : List (Str × Option Value)} {z : Str} (h : ∀ p ∈ ps, z ≠ p.1) : mp ps z = none := by
  induction ps with
  | nil => rfl
  | cons p r ih =>
    obtain ⟨x, v⟩ := p
    show (if z = x then v else mp r z) = none
    rw [if_neg (h (x, v) List.mem_cons_self)]
    exact ih fun q hq => h q (List.mem_cons_of_mem _ hq)
def AllK (m : Str → Option Value) : List (Str × Option Value) → Prop
  | [] => True
  | (x, v) :: r => m x = v ∧ AllK m r
def NeAll (z : Str) : List (Str × Option Value) → Prop
  | [] => True
  | (x, _) :: r => z ≠ x ∧ NeAll z r
theorem mp_ext {m : Str → Option Value} {ps : List (Str × Option Value)} (h : AllK m ps) (h' : ∀ z, NeAll z ps → m z = none) : m = mp ps := by
  have key : ∀ (qs : List (Str × Option Value)), AllK m qs → ∀ z, (NeAll z qs → m z = none) → m z = mp qs z := by
    intro qs
    induction qs with
    | nil => intro _ z hz; exact hz trivial
    | cons q r ih =>
      obtain ⟨x, v⟩ := q
      rintro ⟨h1, h2⟩ z hz
      show m z = if z = x then v else mp r z
      by_cases e : z = x
      · rw [if_pos e, e]; exact h1
      · rw [if_neg e]; exact ih h2 z fun q => hz ⟨e, q⟩
  funext z
  exact key ps h z (h' z)
theorem look_mp (binds : List (Str × Value)) : (fun y => binds.lookup y) = mp (binds.map fun p => (p.1, some p.2)) := by
  induction binds with
  | nil => rfl
  | cons p r ih =>
    funext y
    have := congrFun ih y
    obtain ⟨x, v⟩ := p
    show (match y == x with | true => some v | false => r.lookup y) = if y = x then some v else mp (r.map fun p => (p.1, some p.2)) y
    by_cases e : y = x
    · subst e; simp
    · have e' : (y == x) = false := by simpa using e
      rw [e', if_neg e]
      exact this

/-- what a def's end must bring -/
def Back (g : Heap) (L' : Addr) (Q : Value → Shared → Prop) (fl : Flow) (s' : Shared) : Prop := (∃ m', Fr g L' s'.heap m') ∧ Q (retOf fl) s'
theorem Back.intro {g : Heap} {L' : Addr} {m' : Str → Option Value} {Q : Value → Shared → Prop} {fl : Flow} {s' : Shared} (F : Fr g L' s'.heap m') (h : Q (retOf fl) s') : Back g L' Q fl s' := ⟨⟨m', F⟩, h⟩
theorem frKp {g h h₀ : Heap} {L' : Addr} {m' : Str → Option Value} (F : Fr g L' h m') (k : Kp h₀ g) : Kp h₀ h := fun b o e => F.keep b o (k b o e)

structure Cx (w : World) (p : Program) (loose : List Str) (mean : ExcName → Option Value) (mg mb : Str → Option Value) (k : Nat) (A : Around) (h : Heap) : Prop where
  ex : ∃ (dp un : Nat) (gd : Option (List Code)) (env : Env) (outer : List Env) (A₀ : Around) (base h₀ : Heap) (L : Addr) (m : Str → Option Value),
    A = AX dp un gd env outer ∧ dp + k < recursionLimit ∧ un + 8 * k < cLine ∧ env.frame = some L ∧ env.scope.kind = .function ∧
    Below A₀ base outer h₀ ∧ Fr h₀ L h m ∧ (Mine.hd.heap_39 w.params).In h₀ ∧ Top p loose mean mg mb h₀

section
variable {prog : Program} {w : World} {p : Program} {loose : List Str} {mean : ExcName → Option Value} {mg mb : Str → Option Value} {k : Nat} {A : Around} {s : Shared} {Q E : Value → Shared → Prop}

theorem Cx.keeps {h h' : Heap} (C : Cx w p loose mean mg mb k A h) (e : Kp h h') : Cx w p loose mean mg mb k A h' := by
  obtain ⟨dp, un, gd, env, outer, A₀, base, h₀, L, m, hA, h1, h2, h3, h4, B, F, X, T⟩ := C.ex
  exact ⟨dp, un, gd, env, outer, A₀, base, h₀, L, m, hA, h1, h2, h3, h4, B, F.keeps e, X, T⟩

theorem Cx.of {dp un : Nat} {gd : Option (List Code)} {env : Env} {outer : List Env} {A₀ : Around} {base h₀ h : Heap} {L : Addr} {m : Str → Option Value}
    (B : Below A₀ base outer h₀) (F : Fr h₀ L h m) (X : (Mine.hd.heap_39 w.params).In h₀) (T : Top p loose mean mg mb h₀) (h3 : env.frame = some L) (h4 : env.scope.kind = .function) (h1 : dp + k < recursionLimit) (h2 : un + 8 * k < cLine) :
    Cx w p loose mean mg mb k (AX dp un gd env outer) h := ⟨dp, un, gd, env, outer, A₀, base, h₀, L, m, rfl, h1, h2, h3, h4, B, F, X, T⟩

/-- a mark at which the walk halts -/
def Hold (P : Prop) : Prop := P
theorem Hold.out {P : Prop} (h : Hold P) : P := h

theorem enter_pure {ps : List (Str × Option Value)} {name qual : Str} {params : Arguments} {body : List Stmt} {scope : Scope} {dV kV doc pm cdv ct oc : Value} {an od : Option Addr} {osl : Array (Option Value)} {f : Addr} {args : List Value} {binds : List (Str × Value)}
    (C : Cx w p loose mean mg mb (k + 1) A s.heap)
    (ho : (Mine.hd.heap_39 w.params).lookup f = some ⟨oc, od, .func (fnOf name qual params body scope dV kV doc pm an cdv ct), osl⟩) (hcd : codeIn (Mine.hd.heap_39 w.params) cdv qual = true)
    (hps : (binds.reverse.map fun p => (p.1, some p.2)) = ps) (hbind : bindArgs (fnOf name qual params body scope dV kV doc pm an cdv ct) ⟨args, []⟩ = pure binds) (hloc : ∀ y ∈ binds, scope.names.lookup y.1 = some .local)
    (hco : scope.isCoroutine = false) (hgen : scope.isGenerator = false) (hk : scope.kind = .function) (hcell : ∀ x ∈ scope.names, x.2 ≠ .cell)
    (h : ∀ (g : Heap) (L' : Addr) (h₁ : Heap) (tk₁ dp un : Nat) (gd : Option (List Code)) (env : Env) (outer : List Env), Kp s.heap g → Fr g L' h₁ (mp ps) → News g L' h₁ [] → (Mine.hd.heap_39 w.params).In g → Top p loose mean mg mb g →
      (∀ h' m', Fr g L' h' m' → Cx w p loose mean mg mb k (AX (dp + 1) (un + 3) gd (envOf qual scope L' f cdv) (env :: outer)) h') →
      wpAny (model prog w) (AX (dp + 1) (un + 3) gd (envOf qual scope L' f cdv) (env :: outer)) (execs body (envOf qual scope L' f cdv))
        (Back g L' Q) (fun _ _ => False) { s with heap := h₁, toks := tk₁ }) :
    wpAny (model prog w) A (call (.ref f) args) Q E s := by
  subst hps
  obtain ⟨dp, un, gd, env, outer, A₀, base, h₀, L, m, rfl, h1, h2, h3, h4, B, F, X, T⟩ := C.ex
  refine wpAny_call ?_
  refine code_defG (binds := binds) (news := []) B F X News.nil T rfl h3 h4 ho hcd (show dp < recursionLimit by omega) (BindsTo.of_eq hbind) hloc ?_ hco hgen hk hcell
  intro g L' h₁ FG F' N' B' X' T' sub
  have hk' : Kp s.heap g := fun b o e => sub b o e (by simp)
  refine wpAny_mono (h g L' h₁ _ dp un gd env outer hk' (look_mp binds.reverse ▸ F') N' X' T' (fun h' m' Fm => Cx.of B' Fm X' T' rfl hk (by omega) (by omega))) (fun fl s' q => ?_) fun _ _ x => x.elim
  obtain ⟨⟨m', Fm⟩, q⟩ := q
  exact leaveK_ Fm News.nil fun _ _ => by cases fl <;> exact q

theorem enter_cell {ps : List (Str × Option Value)} {cx : Str} {name qual : Str} {params : Arguments} {body : List Stmt} {scope : Scope} {dV kV doc pm cdv ct oc : Value} {an od : Option Addr} {osl : Array (Option Value)} {f : Addr} {args : List Value} {binds : List (Str × Value)}
    (C : Cx w p loose mean mg mb (k + 1) A s.heap)
    (ho : (Mine.hd.heap_39 w.params).lookup f = some ⟨oc, od, .func (fnOf name qual params body scope dV kV doc pm an cdv ct), osl⟩) (hcd : codeIn (Mine.hd.heap_39 w.params) cdv qual = true)
    (hps : ∀ L', (bindL (envOfC qual scope L' f cdv).kindOf binds fun _ => none) = mp ps) (hcs : ∀ n, cellsFrom n scope.names [] = [(cx, n)]) (hcn : ∀ L', bindC (envOfC qual scope L' f cdv).kindOf binds (fun _ => none) cx = none)
    (hbind : bindArgs (fnOf name qual params body scope dV kV doc pm an cdv ct) ⟨args, []⟩ = pure binds) (hkind : (binds.all fun y => scope.names.lookup y.1 == some .local) = true)
    (hco : scope.isCoroutine = false) (hgen : scope.isGenerator = false) (hk : scope.kind = .function)
    (h : ∀ (g : Heap) (L' : Addr) (h₁ : Heap) (tk₁ dp un : Nat) (gd : Option (List Code)) (env : Env) (outer : List Env) (o : Obj), Kp s.heap g → Fr g L' h₁ (mp ps) → News g L' h₁ [(L' + 1, o)] → o.data = .cell none → (Mine.hd.heap_39 w.params).In g → Top p loose mean mg mb g →
      (∀ h' m', Fr g L' h' m' → Cx w p loose mean mg mb k (AX (dp + 1) (un + 3) gd (envX qual scope L' f cdv [(cx, L' + 1)]) (env :: outer)) h') →
      wpAny (model prog w) (AX (dp + 1) (un + 3) gd (envX qual scope L' f cdv [(cx, L' + 1)]) (env :: outer)) (execs body (envX qual scope L' f cdv [(cx, L' + 1)]))
        (Back g L' Q) (fun _ _ => False) { s with heap := h₁, toks := tk₁ }) :
    wpAny (model prog w) A (call (.ref f) args) Q E s := by
  obtain ⟨dp, un, gd, env, outer, A₀, base, h₀, L, m, rfl, h1, h2, h3, h4, B, F, X, T⟩ := C.ex
  refine wpAny_call ?_
  obtain ⟨FG, BG, st, lv⟩ := groundX (R := fun r s' => match r with | .ok (.ret v) => Q v s' | .ok _ => False | .error e => E e s') (A := AX dp un gd env outer) (news := []) B F News.nil rfl h3 h4
  have XG : (Mine.hd.heap_39 w.params).In s.heap := X.keeps F.keep
  refine codeAny_call_function (fd := fnOf name qual params body scope dV kV doc pm an cdv ct) (show dp < recursionLimit by omega) (XG _ _ ho) rfl hco hgen rfl (codeRec_of XG hcd) (BindsTo.of_eq hbind _ _ _ _ ?_)
  refine wpAny_newFunctionEnv_cells hk (fun y hy => .inl ?_) fun env' he s' x => ?_
  · have := List.all_eq_true.mp hkind y hy
    simpa using this
  subst he
  refine ⟨(T.nolimit.keeps F.keep).keeps x.toInCall.keep, codeAny_func ?_⟩
  obtain ⟨h₁, tk, rfl, _⟩ := x.done
  have hk₁ := x.toInCall.keep
  have hcell := x.cell cx (s.heap.objs.size + 1) (by show (cellsFrom (s.heap.objs.size + 1) scope.names []).lookup cx = _; rw [hcs]; simp)
  obtain ⟨o, ho', hod⟩ := hcell
  have eC : envOfC qual scope s.heap.objs.size f cdv = envX qual scope s.heap.objs.size f cdv [(cx, s.heap.objs.size + 1)] := by
    show envX qual scope s.heap.objs.size f cdv (cellsFrom (s.heap.objs.size + 1) scope.names []) = _
    rw [hcs]
  have hF : Fr s.heap s.heap.objs.size h₁ (mp ps) := by
    have := x.toInCall.ns
    refine ⟨?_, fun b o e => hk₁ b o e, Nat.le_refl _⟩
    rw [← hps s.heap.objs.size]
    exact this
  have hN : News s.heap s.heap.objs.size h₁ [(s.heap.objs.size + 1, o)] := fun p hp => by
    rw [List.mem_singleton.mp hp]
    refine ⟨ho', Nat.succ_ne_self _, ?_⟩
    cases q : s.heap.get? (s.heap.objs.size + 1) with
    | none => rfl
    | some o' => exact absurd (Heap.lt_size q) (Nat.not_lt.mpr (Nat.le_succ _))
  have hb := h s.heap s.heap.objs.size h₁ tk dp un gd env outer o (fun _ _ e => e) hF hN (hod.trans (congrArg Data.cell (hcn s.heap.objs.size))) XG (T.keeps F.keep) (fun h' m' Fm => Cx.of BG Fm XG (T.keeps F.keep) rfl hk (by omega) (by omega))
  rw [← eC] at hb
  refine wpAny_mono hb (fun fl s' q => ?_) fun _ _ x => x.elim
  obtain ⟨⟨m', Fm⟩, q⟩ := q
  refine lv _ _ ⟨_, _, [], Fm, News.nil, fun _ _ => ?_⟩
  cases fl <;> exact q
end

theorem fmod_nat (y m : Nat) : Int.fmod (y : Int) (m : Int) = ((y % m : Nat) : Int) := by
  rw [Int.fmod_eq_emod_of_nonneg _ (Int.natCast_nonneg m)]; rfl
theorem fdiv_nat (y m : Nat) : Int.fdiv (y : Int) (m : Int) = ((y / m : Nat) : Int) := by
  rw [Int.fdiv_eq_ediv_of_nonneg _ (Int.natCast_nonneg m)]; rfl
theorem whileEnd {h₀ : Heap} {L : Addr} {s : Shared} {J : Nat → (Str → Option Value) → List (Addr × Obj) → Prop} {Q : Flow → Shared → Prop} {n n' : Nat} {h' : Heap} {tk : Nat} {m₂ : Str → Option Value} {news₂ : List (Addr × Obj)}
    (F : Fr h₀ L h' m₂) (N : News h₀ L h' news₂) (hlt : n' < n) (hJ : J n' m₂ news₂) : WhileStep2 h₀ L s J Q n .next { s with heap := h', toks := tk } := ⟨h', tk, m₂, news₂, n', rfl, F, N, hlt, hJ⟩

section
variable {prog : Program} {w : World} {A : Around} {E : Value → Shared → Prop} {s : Shared} {env : Env} {h₀ : Heap} {target : Expr} {body : List Stmt} {Q : Flow → Shared → Prop}

def TurnEnd (h₀ : Heap) (L : Addr) (s₁ : Shared) (I : Addr) (oI : Obj) (Jn : (Str → Option Value) → List (Addr × Obj) → Prop) (s₂ : Shared) : Prop :=
  ∃ h' tk m' nw, s₂ = { s₁ with heap := h', toks := tk } ∧ Fr h₀ L h' m' ∧ News h₀ L h' ((I, oI) :: nw) ∧ (∀ p ∈ nw, p.1 ≠ I) ∧ Jn m' nw
theorem TurnEnd.intro {L : Addr} {s₁ : Shared} {I : Addr} {oI : Obj} {Jn : (Str → Option Value) → List (Addr × Obj) → Prop} {h' : Heap} {tk : Nat} {m' : Str → Option Value} {all : List (Addr × Obj)} (nw : List (Addr × Obj))
    (F : Fr h₀ L h' m') (N : News h₀ L h' all) (hI : (I, oI) ∈ all) (hs : ∀ p ∈ nw, p ∈ all) (off : ∀ p ∈ nw, p.1 ≠ I) (hJ : Jn m' nw) : TurnEnd h₀ L s₁ I oI Jn { s₁ with heap := h', toks := tk } :=
  ⟨h', tk, m', nw, rfl, F, fun p hp => by
    rcases List.mem_cons.mp hp with rfl | hp
    · exact N _ hI
    · exact N _ (hs p hp), off, hJ⟩
def TurnPost (h₀ : Heap) (L : Addr) (s₁ : Shared) (I : Addr) (oI : Obj) (Jn : (Str → Option Value) → List (Addr × Obj) → Prop) (Q : Flow → Shared → Prop) (f : Flow) (s₂ : Shared) : Prop :=
  match f with
  | .ret v => Q (.ret v) s₂
  | .brk => Q .next s₂
  | _ => TurnEnd h₀ L s₁ I oI Jn s₂

theorem turns_inv {I : Addr} {fp : List Addr} {n : Nat} {P Md : Nat → Value → Heap → Prop} {St : Nat → Heap → Prop} {m₀ : Str → Option Value} {news keep : List (Addr × Obj)} {hp : Heap} {tk0 : Nat}
    (W : KTurns prog w A target I fp [I] n P Md St) (hI0 : h₀.get? I = none) (hio : ∀ i h, St i h → ∃ o, h.get? I = some o)
    (hfp : ∀ b ∈ fp, b = I ∨ (∃ o, h₀.get? b = some o) ∨ ∃ o, (b, o) ∈ keep) (hL : env.locals ∉ fp) (hnw : ∀ p ∈ news, p.1 ≠ I) (hst : St 0 hp)
    (F : Fr h₀ env.locals hp m₀) (N : News h₀ env.locals hp news)
    (J : Nat → (Str → Option Value) → List (Addr × Obj) → Prop) (h0 : J 0 m₀ news) (hkeep : ∀ i m nw, J i m nw → ∀ p ∈ keep, p ∈ nw)
    (step : ∀ i v m₁ news₁ h₁ tk₁ oI, i < n → P i v h₁ → J i m₁ news₁ → Fr h₀ env.locals h₁ m₁ → News h₀ env.locals h₁ ((I, oI) :: news₁) → (∀ p ∈ news₁, p.1 ≠ I) →
      wpAny (model prog w) A (assign target env v) (fun _ s₂ => wpAny (model prog w) A (execs body env) (TurnPost h₀ env.locals { s with heap := h₁, toks := tk₁ } I oI (J (i + 1)) Q) E s₂) E { s with heap := h₁, toks := tk₁ })
    (done : ∀ h tk m nw, J n m nw → Fr h₀ env.locals h m → News h₀ env.locals h nw → (∀ p ∈ nw, p.1 ≠ I) → Q .next { s with heap := h, toks := tk }) :
    TurnsAt prog w A h₀ env target body Q E (.ref I) { s with heap := hp, toks := tk0 } := by
  have hIfp : I ∈ fp := W.sub I (List.mem_singleton.mpr rfl)
  have ne1 : ∀ {l : List (Addr × Obj)}, (∀ p ∈ l, p.1 ∉ [I]) → ∀ p ∈ l, p.1 ≠ I := fun h p hp e => h p hp (List.mem_singleton.mpr e)
  refine ⟨I, fp, [I], n, P, Md, St, m₀, news, J, rfl, W, hL, fun b hb => by rw [List.mem_singleton.mp hb]; exact hI0, fun p hp hb => hnw p hp (List.mem_singleton.mp hb), hst, F, N, h0, ?_, ?_⟩
  · intro i v m₁ news₁ h₁ tk₁ own hin hPi hJ hoff hown hget hall hst₁ F₁ N₁
    obtain ⟨oI, hoI⟩ := hio _ _ hst₁
    have hown1 : (I, oI) ∈ own := hall I hIfp hI0 oI hoI
    have N₂ : News h₀ env.locals h₁ ((I, oI) :: news₁) := fun p hp => by
      rcases List.mem_cons.mp hp with rfl | hp
      · exact N₁ _ (List.mem_append_left _ hown1)
      · exact N₁ _ (List.mem_append_right _ hp)
    have fin : ∀ s₃, TurnEnd h₀ env.locals { s with heap := h₁, toks := tk₁ } I oI (J (i + 1)) s₃ → LoopStepU h₀ env.locals [I] own (J (i + 1)) { s with heap := h₁, toks := tk₁ } .next s₃ := by
      rintro s₃ ⟨h', tk, m', nw, e, F', N', ho, hJ'⟩
      refine ⟨rfl, h', tk, m', nw, e, F', ?_, fun p hp hb => ho p hp (List.mem_singleton.mp hb), hJ'⟩
      rintro ⟨pa, po⟩ hp
      rcases List.mem_append.mp hp with hp | hp
      · have h2 : h₁.get? pa = some po := hget _ hp
        rcases hfp pa (hown _ hp) with h3 | ⟨o, h3⟩ | ⟨o, h3⟩
        · subst h3
          have h4 : oI = po := Option.some.inj (hoI.symm.trans h2)
          subst h4
          exact N' _ List.mem_cons_self
        · exact absurd h3 (by rw [(N₁ _ (List.mem_append_left _ hp)).2.2]; intro q; cases q)
        · have h4 : h₁.get? pa = some o := (N₁ _ (List.mem_append_right _ (hkeep _ _ _ hJ _ h3))).1
          have h6 : o = po := Option.some.inj (h4.symm.trans h2)
          subst h6
          exact N' _ (List.mem_cons_of_mem _ (hkeep _ _ _ hJ' _ h3))
      · exact N' _ (List.mem_cons_of_mem _ hp)
    refine wpAny_mono (step i v m₁ news₁ h₁ tk₁ oI hin hPi hJ F₁ N₂ (ne1 hoff)) (fun _ s₂ h₂ => wpAny_mono h₂ (fun f s₃ p => ?_) fun _ _ e => e) fun _ _ e => e
    cases f with
    | ret v => exact .ret p
    | brk => exact .brk p
    | next => exact .next (fin _ p)
    | cont => exact .cont (fin _ p)
  · intro h' tk m' news' F' N' hoff hJ
    exact done h' tk m' news' hJ F' N' (ne1 hoff)
end
end Mine
namespace Mine
section
variable {prog : Program} {w : World} {A : Around} {E : Value → Shared → Prop} {s : Shared} {env : Env} {h₀ : Heap} {target : Expr} {body : List Stmt} {Q : Flow → Shared → Prop} {K : Type} [DecidableEq K] {knd : KeyKind prog w K}

/-- where an object lies: kept below the frame, or in the ledger's kept part -/
def Src (h₀ : Heap) (keep : List (Addr × Obj)) (d : Addr) : Prop := (∃ o, h₀.get? d = some o) ∨ ∃ o, (d, o) ∈ keep

theorem Src.ne {keep news : List (Addr × Obj)} {d L : Addr} {h : Heap} {m : Str → Option Value} (x : Src h₀ keep d) (F : Fr h₀ L h m) (N : News h₀ L h news) (hk : ∀ p ∈ keep, p ∈ news) : L ≠ d := by
  rcases x with ⟨o, e⟩ | ⟨o, hm⟩
  · exact Nat.ne_of_gt (Nat.lt_of_lt_of_le (Heap.lt_size e) F.above)
  · exact Ne.symm (N _ (hk _ hm)).2.1
theorem Src.lt {keep news : List (Addr × Obj)} {d L : Addr} {h : Heap} {m : Str → Option Value} (x : Src h₀ keep d) (F : Fr h₀ L h m) (N : News h₀ L h news) (hk : ∀ p ∈ keep, p ∈ news) : d < h.objs.size := by
  rcases x with ⟨o, e⟩ | ⟨o, hm⟩
  · exact Heap.lt_size (F.keep _ _ e)
  · exact Heap.lt_size (N _ (hk _ hm)).1

/-- the shape of a turn -/
abbrev Turn (prog : Program) (w : World) (A : Around) (h₀ : Heap) (env : Env) (target : Expr) (body : List Stmt) (Q : Flow → Shared → Prop) (E : Value → Shared → Prop) (s : Shared)
    (J J' : (Str → Option Value) → List (Addr × Obj) → Prop) (v : Value) : Prop :=
  ∀ m₁ news₁ h₁ tk₁ I oI, J m₁ news₁ → Fr h₀ env.locals h₁ m₁ → News h₀ env.locals h₁ ((I, oI) :: news₁) → (∀ p ∈ news₁, p.1 ≠ I) →
      wpAny (model prog w) A (assign target env v) (fun _ s₂ => wpAny (model prog w) A (execs body env) (TurnPost h₀ env.locals { s with heap := h₁, toks := tk₁ } I oI J' Q) E s₂) E { s with heap := h₁, toks := tk₁ }

theorem iter_vals {vw d : Addr} {kvs : List (K × Value)} {ep : Nat} {m₀ : Str → Option Value} {news keep : List (Addr × Obj)}
    (hh : A.handled = none) (F : Fr h₀ env.locals s.heap m₀) (N : News h₀ env.locals s.heap news) (hv : s.heap.IsValuesView vw d) (hat : s.heap.DictAt knd d kvs ep) (hs : Src h₀ keep d)
    (J : Nat → (Str → Option Value) → List (Addr × Obj) → Prop) (h0 : J 0 m₀ news) (hkeep : ∀ i m nw, J i m nw → ∀ p ∈ keep, p ∈ nw)
    (step : ∀ i k v, kvs[i]? = some (k, v) → Turn prog w A h₀ env target body Q E s (J i) (J (i + 1)) v)
    (done : ∀ h tk m nw, J kvs.length m nw → Fr h₀ env.locals h m → News h₀ env.locals h nw → Q .next { s with heap := h, toks := tk }) :
    wpAny (model prog w) A (pyIter (.ref vw)) (fun it s₂ => TurnsAt prog w A h₀ env target body Q E it s₂) E s := by
  have hne : d ≠ s.heap.objs.size := Nat.ne_of_lt hat.lt_size
  have hk0 := hkeep _ _ _ h0
  refine wpAny_pyIter_values hv hat ?_
  refine turns_inv (tk0 := s.toks) (keep := keep) (KTurns.ofWalks (Walks.dictValues (knd := knd) hh s.heap.objs.size d hne kvs ep) fun i v s Q E st q => letGo_valiter st.1 q) (next_is_new F) ?_ ?_ ?_ ?_ ?_
    (F.push _) (fun p hp => ⟨Heap.get?_push_of_some _ (N p hp).1, (N p hp).2⟩) J h0 hkeep ?_ ?_
  · rintro i h ⟨⟨oi, g, _⟩, _⟩
    exact ⟨oi, g⟩
  · intro b hb
    have hb' : b = s.heap.objs.size ∨ b = d := by simpa using hb
    rcases hb' with e | e
    · exact .inl e
    · subst e; exact .inr hs
  · intro hI
    have hb' : env.locals = s.heap.objs.size ∨ env.locals = d := by simpa using hI
    rcases hb' with e | e
    · exact absurd F.ns.lt (e ▸ Nat.lt_irrefl _)
    · exact hs.ne F N hk0 e
  · intro p hp; exact Nat.ne_of_lt (Heap.lt_size (N p hp).1)
  · exact ⟨⟨_, Heap.get?_push_size _ rfl, rfl, rfl⟩, hat.push _⟩
  · rintro i v m₁ news₁ h₁ tk₁ oI hi ⟨k, hx⟩ hJ F₁ N₁ off
    exact step i k v hx m₁ news₁ h₁ tk₁ _ oI hJ F₁ N₁ off
  · intro h tk m nw hJ F' N' _
    exact done h tk m nw hJ F' N'

theorem iter_items {elts : List Expr} {kk : Nat} {pos : Pos} {vw d : Addr} {kvs : List (K × Value)} {ep : Nat} {m₀ : Str → Option Value} {news keep : List (Addr × Obj)}
    (hh : A.handled = none) (F : Fr h₀ env.locals s.heap m₀) (N : News h₀ env.locals s.heap news) (hv : ∃ ov, s.heap.get? vw = some ov ∧ ov.cls = .type "dict_items" ∧ ov.data = .fields #[.ref d]) (hat : s.heap.DictAt knd d kvs ep) (hs : Src h₀ keep d)
    (J : Nat → (Str → Option Value) → List (Addr × Obj) → Prop) (h0 : J 0 m₀ news) (hkeep : ∀ i m nw, J i m nw → ∀ p ∈ keep, p ∈ nw)
    (step : ∀ i k x key T m₁ news₁ h₁ tk₁ I oI, kvs[i]? = some (k, x) → knd.is k key = true → h₁.IsTuple T #[key, x] → J i m₁ news₁ → Fr h₀ env.locals h₁ m₁ → News h₀ env.locals h₁ ((I, oI) :: news₁) → (∀ p ∈ news₁, p.1 ≠ I) →
      wpAny (model prog w) A (assign (.Tuple elts kk pos) env (.ref T)) (fun _ s₂ => wpAny (model prog w) A (execs body env) (TurnPost h₀ env.locals { s with heap := h₁, toks := tk₁ } I oI (J (i + 1)) Q) E s₂) E { s with heap := h₁, toks := tk₁ })
    (done : ∀ h tk m nw, J kvs.length m nw → Fr h₀ env.locals h m → News h₀ env.locals h nw → Q .next { s with heap := h, toks := tk }) :
    wpAny (model prog w) A (pyIter (.ref vw)) (fun it s₂ => TurnsAt prog w A h₀ env (.Tuple elts kk pos) body Q E it s₂) E s := by
  have hne : d ≠ s.heap.objs.size := Nat.ne_of_lt hat.lt_size
  have hk0 := hkeep _ _ _ h0
  refine wpAny_pyIter_items hv hat ?_
  refine turns_inv (tk0 := s.toks) (keep := keep) (kti_itemsTurns (knd := knd) hh s.heap.objs.size d hne kvs ep) (next_is_new F) ?_ ?_ ?_ ?_ ?_
    (F.push _) (fun p hp => ⟨Heap.get?_push_of_some _ (N p hp).1, (N p hp).2⟩) J h0 hkeep ?_ ?_
  · rintro i h ⟨⟨ok, ov, he⟩, _⟩
    exact ⟨_, he⟩
  · intro b hb
    have hb' : b = s.heap.objs.size ∨ b = d := by simpa using hb
    rcases hb' with e | e
    · exact .inl e
    · subst e; exact .inr hs
  · intro hI
    have hb' : env.locals = s.heap.objs.size ∨ env.locals = d := by simpa using hI
    rcases hb' with e | e
    · exact absurd F.ns.lt (e ▸ Nat.lt_irrefl _)
    · exact hs.ne F N hk0 e
  · intro p hp; exact Nat.ne_of_lt (Heap.lt_size (N p hp).1)
  · exact ⟨⟨.none, .none, Heap.get?_push_size _ rfl⟩, hat.push _⟩
  · rintro i v m₁ news₁ h₁ tk₁ oI hi ⟨T, key, k, x, rfl, hx, hk, hT⟩ hJ F₁ N₁ off
    exact step i k x key T m₁ news₁ h₁ tk₁ _ oI hx hk hT hJ F₁ N₁ off
  · intro h tk m nw hJ F' N' _
    exact done h tk m nw hJ F' N'

theorem iter_list {ax : Addr} {items : Array Value} {m₀ : Str → Option Value} {news keep : List (Addr × Obj)}
    (hh : A.handled = none) (F : Fr h₀ env.locals s.heap m₀) (N : News h₀ env.locals s.heap news) (hl : s.heap.IsList ax items) (hs : Src h₀ keep ax)
    (J : Nat → (Str → Option Value) → List (Addr × Obj) → Prop) (h0 : J 0 m₀ news) (hkeep : ∀ i m nw, J i m nw → ∀ p ∈ keep, p ∈ nw)
    (step : ∀ i v, items[i]? = some v → Turn prog w A h₀ env target body Q E s (J i) (J (i + 1)) v)
    (done : ∀ h tk m nw, J items.size m nw → Fr h₀ env.locals h m → News h₀ env.locals h nw → Q .next { s with heap := h, toks := tk }) :
    wpAny (model prog w) A (pyIter (.ref ax)) (fun it s₂ => TurnsAt prog w A h₀ env target body Q E it s₂) E s := by
  have hk0 := hkeep _ _ _ h0
  have hlt : ax < s.heap.objs.size := hs.lt F N hk0
  have hne : ax ≠ s.heap.objs.size := Nat.ne_of_lt hlt
  refine wpAny_pyIter_list hl ?_
  refine turns_inv (tk0 := s.toks) (keep := keep) (KTurns.ofWalks (Walks.list hh s.heap.objs.size ax hne items) fun i v s Q E st q => letGo_listiter st.1 q) (next_is_new F) ?_ ?_ ?_ ?_ ?_
    (F.push _) (fun p hp => ⟨Heap.get?_push_of_some _ (N p hp).1, (N p hp).2⟩) J h0 hkeep ?_ ?_
  · rintro i h ⟨⟨oi, g, _⟩, _⟩
    exact ⟨oi, g⟩
  · intro b hb
    have hb' : b = s.heap.objs.size ∨ b = ax := by simpa using hb
    rcases hb' with e | e
    · exact .inl e
    · subst e; exact .inr hs
  · intro hI
    have hb' : env.locals = s.heap.objs.size ∨ env.locals = ax := by simpa using hI
    rcases hb' with e | e
    · exact absurd F.ns.lt (e ▸ Nat.lt_irrefl _)
    · exact hs.ne F N hk0 e
  · intro p hp; exact Nat.ne_of_lt (Heap.lt_size (N p hp).1)
  · exact ⟨⟨_, Heap.get?_push_size _ rfl, rfl, rfl⟩, hl.at fun o e => Heap.get?_push_of_some _ e⟩
  · rintro i v m₁ news₁ h₁ tk₁ oI hi hx hJ F₁ N₁ off
    exact step i v hx m₁ news₁ h₁ tk₁ _ oI hJ F₁ N₁ off
  · intro h tk m nw hJ F' N' _
    exact done h tk m nw hJ F' N'

theorem letGo_rangeiter {A : Around} {E : Value → Shared → Prop} {target : Expr} {I : Addr} {a b c : Int} {v : Value} {Q' : Unit → Shared → Prop} {s' : Shared} (hit : IsRangeIter s'.heap I a b c) (h : Q' () s') :
    wpAny (model prog w) A (letOwnedTupleGo target (.ref I) v) Q' E s' := by
  have ho : s'.heap.get? I = some _ := hit
  unfold letOwnedTupleGo
  cases target <;> first
    | exact wpAny_pure h
    | (cases v <;> first
        | exact wpAny_pure h
        | (refine wpAny_bind (wpAny_load ho ?_)
           exact wpAny_pure h))

theorem iter_range {r : Addr} {a b : Int} {t u v : Tok} {n : Nat} {m₀ : Str → Option Value} {news : List (Addr × Obj)}
    (hh : A.handled = none) (F : Fr h₀ env.locals s.heap m₀) (N : News h₀ env.locals s.heap news) (hr : IsRange s.heap r a b 1 t u v) (hsm : Builtin.Range.small a b 1 = true) (hn : Builtin.Range.rangeSize a b 1 = ((n : Nat) : Int))
    (J : Nat → (Str → Option Value) → List (Addr × Obj) → Prop) (h0 : J 0 m₀ news)
    (step : ∀ i t, i < n → Turn prog w A h₀ env target body Q E s (J i) (J (i + 1)) (.int (a + (i : Int)) t))
    (done : ∀ h tk m nw, J n m nw → Fr h₀ env.locals h m → News h₀ env.locals h nw → Q .next { s with heap := h, toks := tk }) :
    wpAny (model prog w) A (pyIter (.ref r)) (fun it s₂ => TurnsAt prog w A h₀ env target body Q E it s₂) E s := by
  refine wpAny_pyIter_range hr hsm ?_
  refine turns_inv (tk0 := s.toks) (keep := []) (KTurns.ofWalks (LCg.range_walks (I := s.heap.objs.size) hh a n) fun i v s Q E st q => letGo_rangeiter st q) (next_is_new F) ?_ ?_ ?_ ?_ ?_
    (F.push _) (fun p hp => ⟨Heap.get?_push_of_some _ (N p hp).1, (N p hp).2⟩) J h0 (fun _ _ _ _ p hp => nomatch hp) ?_ ?_
  · rintro i h st
    exact ⟨_, st⟩
  · intro b hb
    exact .inl (List.mem_singleton.mp hb)
  · intro hI
    exact absurd F.ns.lt (List.mem_singleton.mp hI ▸ Nat.lt_irrefl _)
  · intro p hp; exact Nat.ne_of_lt (Heap.lt_size (N p hp).1)
  · show IsRangeIter _ _ _ _ _
    rw [hn]
    simpa using Heap.get?_push_size _ rfl
  · rintro i v m₁ news₁ h₁ tk₁ oI hi ⟨t, rfl⟩ hJ F₁ N₁ off
    exact step i t hi m₁ news₁ h₁ tk₁ _ oI hJ F₁ N₁ off
  · intro h tk m nw hJ F' N' _
    exact done h tk m nw hJ F' N'
theorem letGo_bytesiter {A : Around} {E : Value → Shared → Prop} {target : Expr} {I : Addr} {b : Array UInt8} {t : Tok} {i : Nat} {v : Value} {Q' : Unit → Shared → Prop} {s' : Shared} (hit : KBw.IsBytesIter s'.heap I b t i) (h : Q' () s') :
    wpAny (model prog w) A (letOwnedTupleGo target (.ref I) v) Q' E s' := by
  obtain ⟨o, ho, hc, hd⟩ := hit
  unfold letOwnedTupleGo
  cases target <;> first
    | exact wpAny_pure h
    | (cases v <;> first
        | exact wpAny_pure h
        | (refine wpAny_bind (wpAny_load ho ?_)
           rw [hc, hd]
           exact wpAny_pure h))

theorem iter_bytes {b : Array UInt8} {tb : Tok} {m₀ : Str → Option Value} {news : List (Addr × Obj)}
    (hh : A.handled = none) (F : Fr h₀ env.locals s.heap m₀) (N : News h₀ env.locals s.heap news)
    (J : Nat → (Str → Option Value) → List (Addr × Obj) → Prop) (h0 : J 0 m₀ news)
    (step : ∀ i (c : UInt8) t, b[i]? = some c → Turn prog w A h₀ env target body Q E s (J i) (J (i + 1)) (.int (c.toNat : Int) t))
    (done : ∀ h tk m nw, J b.size m nw → Fr h₀ env.locals h m → News h₀ env.locals h nw → Q .next { s with heap := h, toks := tk }) :
    wpAny (model prog w) A (pyIter (.bytes b tb)) (fun it s₂ => TurnsAt prog w A h₀ env target body Q E it s₂) E s := by
  refine KBw.pyIter_bytes ?_
  refine turns_inv (tk0 := s.toks) (keep := []) (KTurns.ofWalks (KBw.walks (prog := prog) (w := w) hh s.heap.objs.size b tb) fun i v s Q E st q => letGo_bytesiter st q) (next_is_new F) ?_ ?_ ?_ ?_ ?_
    (F.push _) (fun p hp => ⟨Heap.get?_push_of_some _ (N p hp).1, (N p hp).2⟩) J h0 (fun _ _ _ _ p hp => nomatch hp) ?_ ?_
  · rintro i h ⟨o, ho, _⟩
    exact ⟨o, ho⟩
  · intro b hb
    exact .inl (List.mem_singleton.mp hb)
  · intro hI
    exact absurd F.ns.lt (List.mem_singleton.mp hI ▸ Nat.lt_irrefl _)
  · intro p hp; exact Nat.ne_of_lt (Heap.lt_size (N p hp).1)
  · exact ⟨_, Heap.get?_push_size _ rfl, rfl, rfl⟩
  · rintro i v m₁ news₁ h₁ tk₁ oI hi ⟨c, u, hc, rfl⟩ hJ F₁ N₁ off
    exact step i c u hc m₁ news₁ h₁ tk₁ _ oI hJ F₁ N₁ off
  · intro h tk m nw hJ F' N' _
    exact done h tk m nw hJ F' N'
end
end Mine
namespace Mine
section
variable {prog : Program} {w : World} {A : Around} {E : Value → Shared → Prop} {s : Shared} {h₀ : Heap} {L d : Addr} {m : Str → Option Value} {news : List (Addr × Obj)} {K : Type} [DecidableEq K] {knd : KeyKind prog w K} {enc : K → PyData} {D : List (PyData × PyData)}
theorem call_values {Q : Value → Shared → Prop} (F : Fr h₀ L s.heap m) (N : News h₀ L s.heap news) (T : TabAt knd enc s.heap d D)
    (h : ∀ v h', Fr h₀ L h' m → News h₀ L h' ((v, { cls := .type "dict_values", data := .fields #[.ref d] }) :: news) → (∀ p ∈ news, p.1 < v) → h'.IsValuesView v d → Q (.ref v) { s with heap := h' }) :
    wpAny (model prog w) A (call (.builtin "dict.values") [.ref d]) Q E s := by
  obtain ⟨lo, kvs, hD, _⟩ := T
  exact call_meetsIn PySem.F.slot_dict_values hD.typeIs PySem.F.entry_dict_values (PySem.F.args_dict_values_1 _) (meets_dict_values knd d lo)
    ⟨⟨kvs, hD⟩, h _ _ (F.push _) (News.push F N _) (fun q hq => Heap.lt_size (N q hq).1) ⟨_, Heap.get?_push_size _ rfl, rfl, rfl⟩⟩
theorem call_items {Q : Value → Shared → Prop} (F : Fr h₀ L s.heap m) (N : News h₀ L s.heap news) (T : TabAt knd enc s.heap d D)
    (h : ∀ v h', Fr h₀ L h' m → News h₀ L h' ((v, { cls := .type "dict_items", data := .fields #[.ref d] }) :: news) → (∀ p ∈ news, p.1 < v) → (∃ ov, h'.get? v = some ov ∧ ov.cls = .type "dict_items" ∧ ov.data = .fields #[.ref d]) → Q (.ref v) { s with heap := h' }) :
    wpAny (model prog w) A (call (.builtin "dict.items") [.ref d]) Q E s := by
  obtain ⟨lo, kvs, hD, _⟩ := T
  exact call_meetsIn PySem.F.slot_dict_items hD.typeIs PySem.F.entry_dict_items (PySem.F.args_dict_items_1 _) (meets_dict_items knd d lo)
    ⟨⟨kvs, hD⟩, h _ _ (F.push _) (News.push F N _) (fun q hq => Heap.lt_size (N q hq).1) ⟨_, Heap.get?_push_size _ rfl, rfl, rfl⟩⟩
/-- the pairs of a dict of ints, as they lie -/
theorem ints_at {kvs : List (Int × Value)} {c : List (Int × Int)} (hf : FlatPairs PyData.int kvs (kdfD c)) {i : Nat} {k : Int} {v : Value} (hx : kvs[i]? = some (k, v)) : ∃ p t, c[i]? = some p ∧ p.1 = k ∧ v = .int p.2 t := by
  obtain ⟨dv, hD, hfl⟩ := hf.at hx
  unfold kdfD at hD
  rw [List.getElem?_map] at hD
  cases hc : c[i]? with
  | none => rw [hc] at hD; cases hD
  | some p =>
    rw [hc] at hD
    have e := Option.some.inj hD
    obtain ⟨e1, e2⟩ := Prod.mk.inj e
    subst e2
    obtain ⟨t, ht⟩ := PyProof.V.Flat.int_inv hfl
    exact ⟨p, t, rfl, PyData.int.inj e1, ht⟩
theorem ints_len {kvs : List (Int × Value)} {c : List (Int × Int)} (hf : FlatPairs PyData.int kvs (kdfD c)) : kvs.length = c.length := by
  have := hf.length
  rw [kdfD_length] at this
  exact this.symm
end
end Mine
namespace Mine
section
variable {prog : Program} {w : World} {A : Around} {h₀ : Heap} {L : Addr} {m : Str → Option Value} {env : Env} {elt : PySem.Expr} {x : Str} {scope : Scope} {cl : List (Str × Addr)} {s : Shared} {S : List (Addr × Obj) → Prop} {P : Nat → Value → Prop} {Fin : List Value → List (Addr × Obj) → Prop} {news : List (Addr × Obj)}
/-- an element made -/
def CEl (news : List (Addr × Obj)) (G : Value → Prop) (y : Value) (news' : List (Addr × Obj)) : Prop := news' = news ∧ G y
theorem CEl.intro {news : List (Addr × Obj)} {G : Value → Prop} {y : Value} (h : G y) : CEl news G y news := ⟨rfl, h⟩
theorem cend {I C D : Addr} {oI oC oD : Obj} {s₁ : Shared} {h' : Heap} {tk : Nat} {y : Value} {G : Value → Prop} (F : Fr h₀ L h' m) (N : News h₀ L h' ((I, oI) :: (C, oC) :: (D, oD) :: news)) (off : LCg.Off3 I C D news) (hS : S news) (hG : G y) :
    LCg.CompEnd h₀ L m s₁ I oI C oC D oD S (fun y news' => CEl news G y news') y { s₁ with heap := h', toks := tk } := LCg.CompEnd.intro F N news (fun _ hp => hp) off hS (CEl.intro hG)
theorem comp_rest {n : Nat} (G : Nat → Value → Prop)
    (turn : ∀ i v I oI C oC D m₂ ys h tk (E' : Value → Shared → Prop), i < n → P i v → LCg.NsObj oC m₂ → m₂ x = some v → Fr h₀ L h m → News h₀ L h ((I, oI) :: (C, oC) :: (D, LCg.lst ys) :: news) → LCg.Off3 I C D news → ((@Ne Nat I C) ∧ (@Ne Nat I D) ∧ (@Ne Nat C D)) →
      wpAny (model prog w) A (eval elt (compEnvC scope cl C env)) (LCg.CompEnd h₀ L m { s with heap := h, toks := tk } I oI C oC D (LCg.lst ys) S (fun y news' => CEl news (G i) y news')) E' { s with heap := h, toks := tk })
    (fin : ∀ ys, ys.length = n → (∀ i y, ys[i]? = some y → G i y) → Fin ys news) : LCg.CompRest prog w A h₀ L m env elt x scope cl s S P Fin n 0 [] news := by
  have key : ∀ (j i : Nat) (ys : List Value), i + j = n → ys.length = i → (∀ i y, ys[i]? = some y → G i y) → LCg.CompRest prog w A h₀ L m env elt x scope cl s S P Fin j i ys news := by
    intro j
    induction j with
    | zero =>
      intro i ys hi hl hy
      exact LCg.CompRest.zero (fin ys (by omega) hy)
    | succ j ih =>
      intro i ys hi hl hy
      refine LCg.CompRest.succ ?_
      intro v I oI C oC D m₂ h tk E' hv hC hx F N off ne
      refine wpAny_mono (turn i v I oI C oC D m₂ ys h tk E' (by omega) hv hC hx F N off ne) (fun y s₂ hq => ?_) fun _ _ e => e
      obtain ⟨h', tk', nw, e, F', N', off', hS, hn, hG⟩ := hq
      rw [hn] at N' off' hS
      refine ⟨h', tk', news, e, F', N', off', hS, ?_⟩
      refine ih (i + 1) _ (by omega) (by rw [List.length_append, hl]; rfl) ?_
      intro i' y' hy'
      rcases Nat.lt_trichotomy i' ys.length with q | q | q
      · rw [List.getElem?_append_left q] at hy'
        exact hy i' y' hy'
      · subst q
        rw [List.getElem?_append_right (Nat.le_refl _), Nat.sub_self] at hy'
        cases hy'
        rw [hl]; exact hG
      · rw [List.getElem?_append_right (Nat.le_of_lt q)] at hy'
        have : i' - ys.length ≠ 0 := by omega
        obtain ⟨q', hq'⟩ : ∃ q', i' - ys.length = q' + 1 := ⟨i' - ys.length - 1, by omega⟩
        rw [hq'] at hy'
        cases hy'
  exact key n 0 [] (by omega) rfl (fun i y h => by cases h)

theorem strsAre_of {ys : List Value} {xs : List Str} (hl : ys.length = xs.length) (h : ∀ (i : Nat) (y : Value), ys[i]? = some y → ∃ z t, xs[i]? = some z ∧ y = Value.str z t) : StrsAre ys xs := by
  induction ys generalizing xs with
  | nil => cases xs with
    | nil => exact .nil
    | cons x xs => cases hl
  | cons y ys ih => cases xs with
    | nil => cases hl
    | cons x xs =>
      obtain ⟨z, t, hz, rfl⟩ := h 0 y rfl
      cases hz
      exact .cons _ _ (ih (Nat.succ.inj hl) fun i y hy => h (i + 1) y hy)
theorem strsAre_values {ys : List Value} {xs : List Str} (h : StrsAre ys xs) : ∃ l : List (Str × Tok), ys = strValues l ∧ l.map (·.1) = xs := by
  induction h with
  | nil => exact ⟨[], rfl, rfl⟩
  | cons y t _ ih =>
    obtain ⟨l, e1, e2⟩ := ih
    exact ⟨(y, t) :: l, by rw [e1]; rfl, by rw [← e2]; rfl⟩
end
end Mine
namespace Mine
theorem kf : PySem.Challenge.rw_xg0009_01 = PySem.Challenge.rw_xg0009_01 ∧ Mine.hd.heap_39 = Mine.hd.heap_39 := by
  k_fill; exact ⟨rfl, rfl⟩
section
variable {prog : Program} {w : World} {p : Program} {loose : List Str} {mean : ExcName → Option Value} {mg mb : Str → Option Value} {k : Nat} {A : Around} {s : Shared} {Q E : Value → Shared → Prop}
local macro_rules | `(tactic| walk_at "mapoff") => `(tactic| (rintro z ⟨h1, h2, h3, -⟩; simp only [mp, List.map_cons, List.map_nil, List.reverse_cons, List.reverse_nil, List.nil_append, List.cons_append, if_neg h1, if_neg h2, if_neg h3]))
set_option maxHeartbeats 4000000 in
theorem count_calls_spec {d : Addr} {c : List (Int × Int)}
    (C : Cx w p loose mean mg mb (k + 1) A s.heap) (hT : IntTab prog w s.heap d (kdfD c))
    (hret : ∀ t h' tk', Kp s.heap h' → Q (.int ((c.map (·.2)).sum) t) { s with heap := h', toks := tk' }) :
    wpAny (model prog w) A (call (.ref 45) [.ref d]) Q E s := by
  refine enter_pure (ps := [(Str.ofString "callers", some (.ref d))]) (binds := [(Str.ofString "callers", .ref d)]) C (by k_is) (by k_is) rfl rfl (locs rfl) rfl rfl rfl (by decide) ?_
  intro g L' h₁ tk₁ dp un gd env outer kg F N X T cx
  have hT' : IntTab prog w g d (kdfD c) := hT.keep kg
  k_with_none
  k_with "exec For Name Call cons nil" => ((rename Fr _ _ _ _ => lF'); (with_unfolding_all refine For_turns lF' ?_))
  k_with "getMethod ref" => ((rename Fr _ _ _ _ => lF'); (refine getMethod_tab PySem.F.slot_dict_values PySem.F.type_dict_values (hT'.keep lF'.keep) ?_))
  k_steps
  rename Fr _ _ _ _ => F1
  rename News _ _ _ _ => N1
  refine call_values F1 N1 (hT'.keep F1.keep) ?_
  intro v h2 F2 N2 l2 hv
  obtain ⟨lo, kvs, hD, hf⟩ := id hT'
  obtain ⟨ep, hat⟩ := hD.dictAt
  refine iter_vals (keep := []) rfl F2 N2 hv (hat.at (F2.keep d)) (.inl (by obtain ⟨o, _, _, ho, _⟩ := hD; exact ⟨o, ho⟩))
    (fun i m nw => ∃ S t u, m = mp [(Str.ofString "nc", some (.int S t)), (Str.ofString "calls", u), (Str.ofString "callers", some (.ref d))] ∧ S = ((c.take i).map (·.2)).sum) ?_ ?_ ?_ ?_
  · with_unfolding_all refine ⟨_, _, _, mp_ext ⟨rfl, rfl, rfl, trivial⟩ ?_, rfl⟩
    walk_at "mapoff"
  · intro i m nw hJ p hp; exact nomatch hp
  · rintro i kk v hx m₁ news₁ h₁ tk₁ I oI ⟨S, t, u, rfl, rfl⟩ F₁ N₁ off
    obtain ⟨q, tq, hq, rfl, rfl⟩ := ints_at hf hx
    k_with_none
    k_steps
    rename_i h' tk h'' F' N'
    refine TurnEnd.intro news₁ F' N' List.mem_cons_self (fun p hp => List.mem_cons_of_mem _ hp) off ?_
    with_unfolding_all refine ⟨_, _, _, mp_ext ⟨rfl, rfl, rfl, trivial⟩ ?_, ?_⟩
    · walk_at "mapoff"
    rw [List.take_add_one, hq]
    simp only [Option.toList_some, List.map_append, List.map_cons, List.map_nil, List.sum_append, List.sum_cons, List.sum_nil, Int.add_zero]
  · rintro h tk m nw ⟨S, t, u, rfl, rfl⟩ F₁ N₁
    k_with_none
    k_steps
    rw [ints_len hf, List.take_length]
    exact Back.intro F₁ (hret _ _ _ (frKp F₁ kg))
end
end Mine
namespace Mine
theorem kf2 : PySem.Challenge.rw_xg0009_01 = PySem.Challenge.rw_xg0009_01 ∧ Mine.hd.heap_39 = Mine.hd.heap_39 := by
  k_fill; exact ⟨rfl, rfl⟩
def cpc (c : List (Int × Int)) (c₀ : List (Int × Int)) : List (Int × Int) := c.foldl (fun acc p => kdfPut acc p.1 p.2) c₀
def adc (c : List (Int × Int)) (c₀ : List (Int × Int)) : List (Int × Int) := c.foldl (fun acc p => kdfPut acc p.1 (if kdfHas acc p.1 then kdfLook acc p.1 0 + p.2 else p.2)) c₀
section
variable {prog : Program} {w : World} {p : Program} {loose : List Str} {mean : ExcName → Option Value} {mg mb : Str → Option Value} {k : Nat} {A : Around} {s : Shared} {Q E : Value → Shared → Prop}
theorem cpc_snoc {c : List (Int × Int)} {i : Nat} {q : Int × Int} (h : c[i]? = some q) (c₀ : List (Int × Int)) : cpc (c.take (i + 1)) c₀ = kdfPut (cpc (c.take i) c₀) q.1 q.2 := by
  unfold cpc
  rw [List.take_add_one, h, List.foldl_append]
  rfl
theorem adc_snoc {c : List (Int × Int)} {i : Nat} {q : Int × Int} (h : c[i]? = some q) (c₀ : List (Int × Int)) : adc (c.take (i + 1)) c₀ = kdfPut (adc (c.take i) c₀) q.1 (if kdfHas (adc (c.take i) c₀) q.1 then kdfLook (adc (c.take i) c₀) q.1 0 + q.2 else q.2) := by
  unfold adc
  rw [List.take_add_one, h, List.foldl_append]
  rfl
local macro_rules | `(tactic| walk_at "mapoff") => `(tactic| (rintro z ⟨h1, h2, h3, h4, h5, -⟩; simp only [mp, List.map_cons, List.map_nil, List.reverse_cons, List.reverse_nil, List.nil_append, List.cons_append, if_neg h1, if_neg h2, if_neg h3, if_neg h4, if_neg h5]))
set_option maxHeartbeats 4000000 in
theorem add_callers_spec {d e : Addr} {c1 c2 : List (Int × Int)}
    (C : Cx w p loose mean mg mb (k + 1) A s.heap) (hT : IntTab prog w s.heap d (kdfD c1)) (hU : IntTab prog w s.heap e (kdfD c2)) (hl : c1.length + c2.length ≤ 1000)
    (hret : ∀ r h' tk', Kp s.heap h' → s.heap.get? r = none → IntTab prog w h' r (kdfD (adc c2 (cpc c1 []))) → Q (.ref r) { s with heap := h', toks := tk' }) :
    wpAny (model prog w) A (call (.ref 38) [.ref d, .ref e]) Q E s := by
  refine enter_pure (ps := [(Str.ofString "source", some (.ref e)), (Str.ofString "target", some (.ref d))]) (binds := [(Str.ofString "target", .ref d), (Str.ofString "source", .ref e)]) C (by k_is) (by k_is) rfl rfl (locs rfl) rfl rfl rfl (by decide) ?_
  intro g L' h₁ tk₁ dp un gd env outer kg F N X T cx
  have hT' : IntTab prog w g d (kdfD c1) := hT.keep kg
  have hU' : IntTab prog w g e (kdfD c2) := hU.keep kg
  k_with_none
  k_with "exec For Tuple Call" => ((rename Fr _ _ _ _ => lF'); (with_unfolding_all refine For_turns lF' ?_))
  k_with "getMethod ref" => ((rename Fr _ _ _ _ => lF'); first | (refine getMethod_tab PySem.F.slot_dict_items PySem.F.type_dict_items (hT'.keep lF'.keep) ?_) | (refine getMethod_tab PySem.F.slot_dict_items PySem.F.type_dict_items (hU'.keep lF'.keep) ?_))
  k_steps
  rename Fr _ _ _ _ => F1
  rename News _ _ _ _ => N1
  rename Obj => on
  rename Addr => dn
  rename Obj.IsDictOf (intKind prog w) on [] => hi1
  rename FlatPairs PyData.int [] [] => hf1
  rename (dn == sysModules) = false => lo1
  refine call_items F1 N1 (hT'.keep F1.keep) ?_
  intro v h2 F2 N2 l2 hv
  obtain ⟨lo, kvs, hD, hf⟩ := id hT'
  obtain ⟨ep, hat⟩ := hD.dictAt
  refine iter_items (keep := []) rfl F2 (fun p hp => N2 p (List.mem_cons_of_mem _ hp)) hv (hat.at (F2.keep d)) (.inl (by obtain ⟨o, _, _, ho, _⟩ := hD; exact ⟨o, ho⟩))
    (fun i m nw => ∃ o kv u t, m = mp [(Str.ofString "caller", u), (Str.ofString "func", t), (Str.ofString "new_callers", some (.ref dn)), (Str.ofString "target", some (.ref d)), (Str.ofString "source", some (.ref e))] ∧ nw = [(dn, o)] ∧
      o.IsDictOf (intKind prog w) kv ∧ FlatPairs PyData.int kv (kdfD (cpc (c1.take i) [])) ∧ (cpc (c1.take i) []).length ≤ i) ?_ ?_ ?_ ?_
  · with_unfolding_all refine ⟨on, _, _, _, mp_ext ⟨rfl, rfl, rfl, rfl, rfl, trivial⟩ ?_, rfl, hi1, ?_, Nat.le_refl _⟩
    · walk_at "mapoff"
    · exact hf1
  · intro i m nw hJ p hp; exact nomatch hp
  · rintro i kk x key T m₁ news₁ h₁ tk₁ I oI hx hkey hTup ⟨o, kv, u, t, rfl, rfl, hdo, hfp, hle⟩ F₁ N₁ off
    obtain ⟨q, tq, hq, rfl, rfl⟩ := ints_at hf hx
    obtain ⟨tk3, rfl⟩ := Value.isInt_shape hkey
    have hlt : i < c1.length := (List.getElem?_eq_some_iff.mp hq).1
    k_with_none
    k_steps
    rename_i F3 N3
    refine kdf_setItem F3 N3 (.tail (Ne.symm (off _ List.mem_cons_self)) (.head (fun p hp => nomatch hp))) hdo hfp (by omega) ?_
    intro h4 o4 kv4 F4 N4 hd4 hf4
    dsimp only at N4 ⊢
    k_steps
    refine TurnEnd.intro [(dn, o4)] F4 N4 List.mem_cons_self (fun p hp => List.mem_cons_of_mem _ hp) (fun p hp => by rw [List.mem_singleton.mp hp]; exact off (dn, o) List.mem_cons_self) ?_
    with_unfolding_all refine ⟨o4, _, _, _, mp_ext ⟨rfl, rfl, rfl, rfl, rfl, trivial⟩ ?_, rfl, hd4, ?_, ?_⟩
    · walk_at "mapoff"
    · rw [cpc_snoc hq]; exact hf4
    · rw [cpc_snoc hq]; exact Nat.le_trans (kdfPut_len _ _ _) (Nat.succ_le_succ hle)
  · rintro h tk m nw ⟨o, kv, u, t, rfl, rfl, hdo, hfp, hle⟩ F₁ N₁
    rw [ints_len hf, List.take_length] at hfp hle
    k_with_none
    k_with "exec For Tuple Call" => ((rename Fr _ _ _ _ => lF'); (with_unfolding_all refine For_turns lF' ?_))
    k_with "getMethod ref" => ((rename Fr _ _ _ _ => lF'); (refine getMethod_tab PySem.F.slot_dict_items PySem.F.type_dict_items (hU'.keep lF'.keep) ?_))
    k_steps
    rename Fr _ _ _ _ => F5
    rename News _ _ _ _ => N5
    refine call_items F5 N5 (hU'.keep F5.keep) ?_
    intro v6 h6 F6 N6 l6 hv6
    obtain ⟨lo2, kvs2, hD2, hf2⟩ := id hU'
    obtain ⟨ep2, hat2⟩ := hD2.dictAt
    refine iter_items (keep := []) rfl F6 (fun p hp => N6 p (List.mem_cons_of_mem _ hp)) hv6 (hat2.at (F6.keep e)) (.inl (by obtain ⟨o, _, _, ho, _⟩ := hD2; exact ⟨o, ho⟩))
      (fun i m nw => ∃ o kv u t, m = mp [(Str.ofString "caller", u), (Str.ofString "func", t), (Str.ofString "new_callers", some (.ref dn)), (Str.ofString "target", some (.ref d)), (Str.ofString "source", some (.ref e))] ∧ nw = [(dn, o)] ∧
        o.IsDictOf (intKind prog w) kv ∧ FlatPairs PyData.int kv (kdfD (adc (c2.take i) (cpc c1 []))) ∧ (adc (c2.take i) (cpc c1 [])).length ≤ c1.length + i) ?_ ?_ ?_ ?_
    · exact ⟨o, kv, u, t, rfl, rfl, hdo, hfp, hle⟩
    · intro i m nw hJ p hp; exact nomatch hp
    · rintro i kk x key T m₁ news₁ h₁ tk₁ I oI hx hkey hTup ⟨o, kv, u, t, rfl, rfl, hdo, hfp, hle⟩ F₁ N₁ off
      obtain ⟨q, tq, hq, rfl, rfl⟩ := ints_at hf2 hx
      obtain ⟨tk3, rfl⟩ := Value.isInt_shape hkey
      have hlt : i < c2.length := (List.getElem?_eq_some_iff.mp hq).1
      k_with_none
      k_steps
      · rename kdfHas _ _ = true => hhas
        rename Fr _ _ _ _ => F3
        rename News _ _ _ _ => N3
        have T3 : IntTab prog w _ dn (kdfD (adc (List.take i c2) (cpc c1 []))) := ⟨lo1, kv, Heap.dictOf_iff.mpr ⟨o, (N3 _ (List.mem_cons_of_mem _ List.mem_cons_self)).1, hdo⟩, hfp⟩
        refine getItem_tab PyProof.V.same_int (intKind_is _ _ _ _) T3 (kdfD_item hhas) ?_
        intro v3 hv3
        obtain ⟨tv3, rfl⟩ := PyProof.V.Flat.int_inv hv3
        k_steps
        refine kdf_setItem F3 N3 (.tail (Ne.symm (off _ List.mem_cons_self)) (.head (fun p hp => nomatch hp))) hdo hfp (by omega) ?_
        intro h4 o4 kv4 F4 N4 hd4 hf4
        dsimp only at N4 ⊢
        k_steps
        refine TurnEnd.intro [(dn, o4)] F4 N4 List.mem_cons_self (fun p hp => List.mem_cons_of_mem _ hp) (fun p hp => by rw [List.mem_singleton.mp hp]; exact off (dn, o) List.mem_cons_self) ?_
        with_unfolding_all refine ⟨o4, _, _, _, mp_ext ⟨rfl, rfl, rfl, rfl, rfl, trivial⟩ ?_, rfl, hd4, ?_, ?_⟩
        · walk_at "mapoff"
        · rw [adc_snoc hq, hhas]; exact hf4
        · rw [adc_snoc hq]; exact Nat.le_trans (kdfPut_len _ _ _) (by omega)
      · rename kdfHas _ _ = false => hhas
        rename Fr _ _ _ _ => F3
        rename News _ _ _ _ => N3
        refine kdf_setItem F3 N3 (.tail (Ne.symm (off _ List.mem_cons_self)) (.head (fun p hp => nomatch hp))) hdo hfp (by omega) ?_
        intro h4 o4 kv4 F4 N4 hd4 hf4
        dsimp only at N4 ⊢
        k_steps
        refine TurnEnd.intro [(dn, o4)] F4 N4 List.mem_cons_self (fun p hp => List.mem_cons_of_mem _ hp) (fun p hp => by rw [List.mem_singleton.mp hp]; exact off (dn, o) List.mem_cons_self) ?_
        with_unfolding_all refine ⟨o4, _, _, _, mp_ext ⟨rfl, rfl, rfl, rfl, rfl, trivial⟩ ?_, rfl, hd4, ?_, ?_⟩
        · walk_at "mapoff"
        · rw [adc_snoc hq, hhas]; exact hf4
        · rw [adc_snoc hq]; exact Nat.le_trans (kdfPut_len _ _ _) (by omega)
    · rintro h tk m nw ⟨o, kv, u, t, rfl, rfl, hdo, hfp, hle⟩ F₁ N₁
      rw [ints_len hf2, List.take_length] at hfp hle
      k_with_none
      k_steps
      refine Back.intro F₁ (hret dn _ _ (frKp F₁ kg) ?_ ⟨lo1, kv, Heap.dictOf_iff.mpr ⟨o, (N₁ _ List.mem_cons_self).1, hdo⟩, hfp⟩)
      cases e1 : s.heap.get? dn with
      | none => rfl
      | some o9 => have := (N₁ _ List.mem_cons_self).2.2; rw [kg _ _ e1] at this; cases this
end
end Mine
namespace Mine
theorem kf3 : PySem.Challenge.rw_xg0009_01 = PySem.Challenge.rw_xg0009_01 ∧ Mine.hd.heap_39 = Mine.hd.heap_39 := by
  k_fill; exact ⟨rfl, rfl⟩
section
variable {prog : Program} {w : World} {p : Program} {loose : List Str} {mean : ExcName → Option Value} {mg mb : Str → Option Value} {k : Nat} {A : Around} {s : Shared} {Q E : Value → Shared → Prop}
def twosF : Nat → Nat → Nat → Nat
  | 0, _, a => a
  | n + 1, z, a => if z % 2 = 0 then twosF n (z / 2) (a + 1) else a
set_option maxHeartbeats 4000000 in
theorem twos_spec {n₀ z : Nat} {t : Tok}
    (C : Cx w p loose mean mg mb (k + 1) A s.heap) (hz : 0 < z) (hn : z < 2 ^ n₀)
    (hret : ∀ t h' tk', Kp s.heap h' → Q (.int (twosF n₀ z 0 : Nat) t) { s with heap := h', toks := tk' }) :
    wpAny (model prog w) A (call (.ref 125) [.int z t]) Q E s := by
  refine enter_pure (ps := [(Str.ofString "size", some (.int z t))]) (binds := [(Str.ofString "size", .int z t)]) C (by k_is) (by k_is) rfl rfl (locs rfl) rfl rfl rfl (by decide) ?_
  intro g L' h₁ tk₁ dp un gd env outer kg F N X T cx
  k_with_none
  k_with "exec While Compare" => (refine Hold.out ?_)
  k_with "exec While Compare cons nil" => (refine Hold.out ?_)
  k_steps
  unfold Hold
  rename Fr _ _ _ _ => F1
  rename News _ _ _ _ => N1
  refine While_inv2 (fun n m nx => ∃ (y a : Nat) (y' a' : Int) (t u : Tok), m = mp [(Str.ofString "twos", some (.int a' t)), (Str.ofString "size", some (.int y' u))] ∧ a' = a ∧ y' = y ∧ nx = [] ∧ 0 < y ∧ y < 2 ^ n ∧ twosF n y a = twosF n₀ z 0) (n₀ := n₀) F1 N1 ?_ ?_
  · with_unfolding_all refine ⟨z, 0, _, _, _, _, mp_ext ⟨rfl, rfl, trivial⟩ ?_, rfl, rfl, rfl, hz, hn, rfl⟩
    rintro z ⟨h1, h2, -⟩; simp only [mp, if_neg h1, if_neg h2]
  · rintro n m₁ nx h₁ tk₁ F₁ N₁ ⟨y, a, y', a', t, u, rfl, rfl, rfl, rfl, hy, hlt, hR⟩
    k_with_none
    k_steps
    · rename Int.fmod _ _ = 0 => hev
      rename Fr _ _ _ _ => F2
      rename News _ _ _ _ => N2
      obtain _ | n' := n
      · omega
      have hev' : y % 2 = 0 := by
        have := (fmod_nat y 2).symm.trans hev
        omega
      refine whileEnd F2 N2 (Nat.lt_succ_self _) ?_
      with_unfolding_all refine ⟨y / 2, a + 1, _, _, _, _, mp_ext ⟨rfl, rfl, trivial⟩ ?_, rfl, fdiv_nat y 2, rfl, by omega, by omega, ?_⟩
      · rintro z ⟨h1, h2, -⟩; simp only [mp, if_neg h1, if_neg h2]
      · rw [← hR]; show _ = if y % 2 = 0 then _ else _
        rw [if_pos hev']
    · rename Int.fmod _ _ ≠ 0 => hev
      obtain _ | n' := n
      · omega
      have hev' : ¬ y % 2 = 0 := fun q => hev ((fmod_nat y 2).trans (by rw [q]; rfl))
      have : twosF (n' + 1) y a = a := by show (if y % 2 = 0 then _ else _) = _; rw [if_neg hev']
      rw [this] at hR
      subst hR
      exact Back.intro F₁ (hret _ _ _ (frKp F₁ kg))
end
end Mine
namespace Mine
theorem kf4 : PySem.Challenge.rw_xg0009_01 = PySem.Challenge.rw_xg0009_01 ∧ Mine.hd.heap_39 = Mine.hd.heap_39 := by
  k_fill; exact ⟨rfl, rfl⟩
section
variable {prog : Program} {w : World} {p : Program} {loose : List Str} {mean : ExcName → Option Value} {mg mb : Str → Option Value} {k : Nat} {A : Around} {s : Shared} {Q E : Value → Shared → Prop}
def numL (l : List Int) : Int := l.foldl (fun a o => 16 * a + o - 65) 0
theorem numL_snoc {l : List Int} {i : Nat} {o : Int} (h : l[i]? = some o) : numL (l.take (i + 1)) = 16 * numL (l.take i) + o - 65 := by
  unfold numL
  rw [List.take_add_one, h, List.foldl_append]
  rfl
set_option maxHeartbeats 4000000 in
theorem number_spec {b : Array UInt8} {tb : Tok} 
    (C : Cx w p loose mean mg mb (k + 1) A s.heap) 
    (hret : ∀ t h' tk', Kp s.heap h' → Q (.int (numL (KBw.bInts b)) t) { s with heap := h', toks := tk' }) :
    wpAny (model prog w) A (call (.ref 132) [.bytes b tb]) Q E s := by
  refine enter_pure (ps := [(Str.ofString "word", some (.bytes b tb))]) (binds := [(Str.ofString "word", .bytes b tb)]) C (by k_is) (by k_is) rfl rfl (locs rfl) rfl rfl rfl (by decide) ?_
  intro g L' h₁ tk₁ dp un gd env outer kg F N X T cx
  k_with_none
  k_with "exec For Name Name cons nil" => ((rename Fr _ _ _ _ => lF'); (with_unfolding_all refine For_turns lF' ?_))
  k_with "pyIter bytes" => (refine Hold.out ?_)
  k_steps
  unfold Hold
  rename Fr _ _ _ _ => F1
  rename News _ _ _ _ => N1
  refine iter_bytes rfl F1 N1 (fun i m nw => ∃ S t u, m = mp [(Str.ofString "number", some (.int S t)), (Str.ofString "octet", u), (Str.ofString "word", some (.bytes b tb))] ∧ nw = [] ∧ S = numL ((KBw.bInts b).take i)) ?_ ?_ ?_
  · with_unfolding_all refine ⟨_, _, _, mp_ext ⟨rfl, rfl, rfl, trivial⟩ ?_, rfl, rfl⟩
    rintro z ⟨h1, h2, h3, -⟩; simp only [mp, if_neg h1, if_neg h2, if_neg h3]
  · rintro i c t1 hc m₁ news₁ h₁ tk₁ I oI ⟨S, t, u, rfl, rfl, hS⟩ F₁ N₁ off
    k_with_none
    k_steps
    rename Fr _ _ _ _ => F2
    rename News _ _ _ _ => N2
    refine TurnEnd.intro [] F2 N2 List.mem_cons_self (fun p hp => nomatch hp) (fun p hp => nomatch hp) ?_
    with_unfolding_all refine ⟨_, _, _, mp_ext ⟨rfl, rfl, rfl, trivial⟩ ?_, rfl, ?_⟩
    · rintro z ⟨h1, h2, h3, -⟩; simp only [mp, if_neg h1, if_neg h2, if_neg h3]
    · rw [numL_snoc (KBw.ints_get hc), hS]
  · rintro h tk m nw ⟨S, t, u, rfl, rfl, hS⟩ F₁ N₁
    rw [← KBw.ints_length, List.take_length] at hS
    k_with_none
    k_steps
    subst hS
    exact Back.intro F₁ (hret _ _ _ (frKp F₁ kg))
/-- how many 65's stand at the end, from the i-th on -/
def tailF (ks : List Int) : Nat → Nat → Nat
  | 0, i => i
  | n + 1, i => if (i : Int) < (ks.length : Int) ∧ ks.getD (-1 - (i : Int) + (ks.length : Int)).toNat 0 = 65 then tailF ks n (i + 1) else i
def lastD (ks : List Int) (i : Nat) : Int :=
  (List.take (clipAt ks.length ((ks.length : Int) - (i : Int)) - clipAt ks.length ((ks.length : Int) - (i : Int) - 1)) (List.drop (clipAt ks.length ((ks.length : Int) - (i : Int) - 1)) ks)).sum - 65
def tailV (ks : List Int) (i : Nat) : Int := 16 ^ (i : Int).toNat * Builtin.bitAnd (lastD ks i) (-lastD ks i)
theorem bits16 : ∀ i : Nat, i ≤ 8 → Builtin.Int.intBits ((16 : Int) ^ (i : Int).toNat) ≤ 64 := by
  intro i hi
  have : ∀ j : Fin 9, Builtin.Int.intBits ((16 : Int) ^ ((j.val : Nat) : Int).toNat) ≤ 64 := by decide +kernel
  exact this ⟨i, by omega⟩
set_option maxHeartbeats 4000000 in
theorem tail_spec {b : Array UInt8} {tb : Tok} {ks : List Int}
    (C : Cx w p loose mean mg mb (k + 1) A s.heap) (hb : KBw.bInts b = ks) (hl : ks.length ≤ 8)
    (hret : ∀ t h' tk', Kp s.heap h' → Q (.int (tailV ks (tailF ks ks.length 0)) t) { s with heap := h', toks := tk' }) :
    wpAny (model prog w) A (call (.ref 139) [.bytes b tb]) Q E s := by
  refine enter_pure (ps := [(Str.ofString "word", some (.bytes b tb))]) (binds := [(Str.ofString "word", .bytes b tb)]) C (by k_is) (by k_is) rfl rfl (locs rfl) rfl rfl rfl (by decide) ?_
  intro g L' h₁ tk₁ dp un gd env outer kg F N X T cx
  k_with_none
  k_with "exec While BoolOp" => (refine Hold.out ?_)
  k_steps
  unfold Hold
  rename Fr _ _ _ _ => F1
  rename News _ _ _ _ => N1
  refine While_inv2 (fun n m nx => ∃ (i : Nat) (i' : Int) (t : Tok), m = mp [(Str.ofString "tail", some (.int i' t)), (Str.ofString "word", some (.bytes b tb))] ∧ i' = i ∧ nx = [] ∧ i + n = ks.length ∧ tailF ks n i = tailF ks ks.length 0) (n₀ := ks.length) F1 N1 ?_ ?_
  · with_unfolding_all refine ⟨0, _, _, mp_ext ⟨rfl, rfl, trivial⟩ ?_, rfl, rfl, Nat.zero_add _, rfl⟩
    rintro z ⟨h1, h2, -⟩; simp only [mp, if_neg h1, if_neg h2]
  · rintro n m₁ nx h₁ tk₁ F₁ N₁ ⟨i, i', t, rfl, rfl, rfl, hin, hR⟩
    k_with_none
    k_steps
    · rename Fr _ _ _ _ => F2
      rename News _ _ _ _ => N2
      rename List.getD _ _ _ = 65 => h65
      obtain _ | n' := n
      · omega
      refine whileEnd F2 N2 (Nat.lt_succ_self _) ?_
      with_unfolding_all refine ⟨i + 1, _, _, mp_ext ⟨rfl, rfl, trivial⟩ ?_, rfl, rfl, by omega, ?_⟩
      · rintro z ⟨h1, h2, -⟩; simp only [mp, if_neg h1, if_neg h2]
      · rw [← hR]; show _ = if _ then _ else _
        rw [if_pos ⟨by assumption, h65⟩]
    · rename ¬ (List.getD _ _ _ = 65) => h65
      rename Fr _ _ _ _ => F2
      have hi : tailF ks n i = i := by
        cases n with
        | zero => rfl
        | succ n => show (if _ then _ else _) = _; rw [if_neg (fun q => h65 q.2)]
      rw [hR] at hi
      refine mul_int ?_ (IntMulOk.of_left (bits16 _ (by omega)))
      refine Back.intro F2 ?_
      rw [hi] at hret
      exact hret _ _ _ (frKp F2 kg)
    · rename ¬ ((_ : Int) < _) => hlt
      rename Fr _ _ _ _ => F2
      have hi : tailF ks n i = i := by
        cases n with
        | zero => rfl
        | succ n => show (if _ then _ else _) = _; rw [if_neg (fun q => hlt q.1)]
      rw [hR] at hi
      refine mul_int ?_ (IntMulOk.of_left (bits16 _ (by omega)))
      refine Back.intro F2 ?_
      rw [hi] at hret
      exact hret _ _ _ (frKp F2 kg)
end
end Mine
namespace Mine
theorem kf5 : PySem.Challenge.rw_xg0009_01 = PySem.Challenge.rw_xg0009_01 ∧ Mine.hd.heap_39 = Mine.hd.heap_39 := by
  k_fill; exact ⟨rfl, rfl⟩
section
variable {prog : Program} {w : World} {p : Program} {loose : List Str} {mean : ExcName → Option Value} {mg mb : Str → Option Value} {k : Nat} {A : Around} {s : Shared} {Q E : Value → Shared → Prop}
def apF : Nat → Nat → List Int → List Int
  | 0, _, acc => acc
  | f + 1, n, acc => if n = 0 then acc else apF f (n / 16) ((65 + ((n % 16 : Nat) : Int)) :: acc)
theorem ap_cut (y : Nat) : List.take (clipAt [65, 66, 67, 68, 69, 70, 71, 72, 73, 74, 75, 76, 77, 78, 79, (80 : Int)].length (Int.fmod (y : Int) 16 + 1) - clipAt [65, 66, 67, 68, 69, 70, 71, 72, 73, 74, 75, 76, 77, 78, 79, (80 : Int)].length (Int.fmod (y : Int) 16))
    (List.drop (clipAt [65, 66, 67, 68, 69, 70, 71, 72, 73, 74, 75, 76, 77, 78, 79, (80 : Int)].length (Int.fmod (y : Int) 16)) [65, 66, 67, 68, 69, 70, 71, 72, 73, 74, 75, 76, 77, 78, 79, (80 : Int)]) = [65 + ((y % 16 : Nat) : Int)] := by
  have em : Int.fmod (y : Int) 16 = ((y % 16 : Nat) : Int) := fmod_nat y 16
  rw [em]
  have key : ∀ r : Fin 16, List.take (clipAt [65, 66, 67, 68, 69, 70, 71, 72, 73, 74, 75, 76, 77, 78, 79, (80 : Int)].length (((r.val : Nat) : Int) + 1) - clipAt [65, 66, 67, 68, 69, 70, 71, 72, 73, 74, 75, 76, 77, 78, 79, (80 : Int)].length ((r.val : Nat) : Int))
    (List.drop (clipAt [65, 66, 67, 68, 69, 70, 71, 72, 73, 74, 75, 76, 77, 78, 79, (80 : Int)].length ((r.val : Nat) : Int)) [65, 66, 67, 68, 69, 70, 71, 72, 73, 74, 75, 76, 77, 78, 79, (80 : Int)]) = [65 + ((r.val : Nat) : Int)] := by decide +kernel
  exact key ⟨y % 16, Nat.mod_lt _ (by decide)⟩
set_option maxHeartbeats 4000000 in
theorem ap_spec {n₀ z : Nat} {t : Tok}
    (C : Cx w p loose mean mg mb (k + 1) A s.heap) (hn : z < 16 ^ n₀) (h8 : n₀ ≤ 8)
    (hret : ∀ b t h' tk', KBw.bInts b = apF n₀ z [] → Kp s.heap h' → Q (.bytes b t) { s with heap := h', toks := tk' }) :
    wpAny (model prog w) A (call (.ref 84) [.int z t]) Q E s := by
  refine enter_pure (ps := [(Str.ofString "num", some (.int z t))]) (binds := [(Str.ofString "num", .int z t)]) C (by k_is) (by k_is) rfl rfl (locs rfl) rfl rfl rfl (by decide) ?_
  intro g L' h₁ tk₁ dp un gd env outer kg F N X T cx
  k_with_none
  k_with "exec While Name" => (refine Hold.out ?_)
  k_with "exec While Name cons nil" => (refine Hold.out ?_)
  k_steps
  unfold Hold
  rename Fr _ _ _ _ => F1
  rename News _ _ _ _ => N1
  have habs : (if (z : Int) < 0 then -(z : Int) else z) = z := if_neg (by omega)
  rw [habs] at F1
  refine While_inv2 (fun n m nx => ∃ (y : Nat) (y' : Int) (b AB : Array UInt8) (tn tv ta : Tok) (u : Option Value) (acc : List Int), m = mp [(Str.ofString "val", some (.bytes b tv)), (Str.ofString "mod", u), (Str.ofString "num", some (.int y' tn)), (Str.ofString "AP", some (.bytes AB ta))] ∧ y' = y ∧ nx = [] ∧ KBw.bInts b = acc ∧ KBw.bInts AB = [65, 66, 67, 68, 69, 70, 71, 72, 73, 74, 75, 76, 77, 78, 79, 80] ∧ acc.length + n = n₀ ∧ y < 16 ^ n ∧ apF n y acc = apF n₀ z []) (n₀ := n₀) F1 N1 ?_ ?_
  · with_unfolding_all refine ⟨z, _, _, _, _, _, _, _, [], mp_ext ⟨rfl, rfl, rfl, rfl, trivial⟩ ?_, rfl, rfl, rfl, rfl, Nat.zero_add _, hn, rfl⟩
    rintro z ⟨h1, h2, h3, h4, -⟩; simp only [mp, if_neg h1, if_neg h2, if_neg h3, if_neg h4]
  · rintro n m₁ nx h₁ tk₁ F₁ N₁ ⟨y, y', b, AB, tn, tv, ta, u, acc, rfl, rfl, rfl, hb, hAB, hl, hlt, hR⟩
    have hal : acc.length ≤ 8 := by omega
    have em : Int.fmod (y : Int) 16 = ((y % 16 : Nat) : Int) := fmod_nat y 16
    have ed : Int.fdiv (y : Int) 16 = ((y / 16 : Nat) : Int) := fdiv_nat y 16
    k_with_none
    k_steps
    · rename KBw.bInts (_ ++ _) = _ => hcat
      rename (y : Int) ≠ 0 => hy
      rename Fr _ _ _ _ => F2
      rw [ap_cut] at hcat
      obtain _ | n' := n
      · omega
      refine whileEnd (news₂ := []) F2 News.nil (Nat.lt_succ_self _) ?_
      have hy' : y ≠ 0 := by omega
      have hlt' : y / 16 < 16 ^ n' := by
        rw [Nat.pow_succ] at hlt
        omega
      with_unfolding_all refine ⟨y / 16, _, _, _, _, _, _, _, _, mp_ext ⟨rfl, rfl, rfl, rfl, trivial⟩ ?_, ed, rfl, hcat, hAB, ?_, hlt', ?_⟩
      · rintro z ⟨h1, h2, h3, h4, -⟩; simp only [mp, if_neg h1, if_neg h2, if_neg h3, if_neg h4]
      · simp only [List.length_append, List.length_cons, List.length_nil]; omega
      · rw [← hR]
        show _ = if y = 0 then _ else _
        rw [if_neg hy']
        rfl
    · rename (y : Int) = 0 => hy
      have hy' : y = 0 := by omega
      subst hy'
      have : apF n 0 acc = acc := by cases n <;> rfl
      rw [this] at hR
      exact Back.intro F₁ (hret _ _ _ _ (hb.trans hR) (frKp F₁ kg))
end
end Mine
namespace Mine
theorem kf6 : PySem.Challenge.rw_xg0009_01 = PySem.Challenge.rw_xg0009_01 ∧ Mine.hd.heap_39 = Mine.hd.heap_39 := by
  k_fill; exact ⟨rfl, rfl⟩
section
variable {prog : Program} {w : World} {p : Program} {loose : List Str} {mean : ExcName → Option Value} {mg mb : Str → Option Value} {k : Nat} {A : Around} {s : Shared} {Q E : Value → Shared → Prop}
def pF (x : Str) : Nat → Nat → Str → Str
  | 0, _, acc => acc
  | f + 1, i, acc =>
    if (i : Int) < (x.length : Int) then
      if (Txt.item x (i : Int) == Str.ofString "\"") = true then
        if (x.length : Int) ≤ (i : Int) + 1 then acc
        else if (Txt.item x ((i : Int) + 1) != Str.ofString "\"") = true then acc
        else pF x f (i + 2) (acc ++ Txt.item x (i : Int))
      else pF x f (i + 1) (acc ++ Txt.item x (i : Int))
    else acc
theorem pF_end {x : Str} {f i : Nat} {acc : Str} (h : ¬ (i : Int) < (x.length : Int)) : pF x f i acc = acc := by
  cases f with
  | zero => rfl
  | succ f => exact if_neg h
local macro_rules | `(tactic| walk_at "mapoff") => `(tactic| (rintro z ⟨h1, h2, h3, h4, h5, -⟩; simp only [mp, if_neg h1, if_neg h2, if_neg h3, if_neg h4, if_neg h5]))
set_option maxHeartbeats 4000000 in
theorem p257_spec {x : Str} {t : Tok} 
    (C : Cx w p loose mean mg mb (k + 1) A s.heap) (e1 : Txt.slice x none (some 3) = Str.ofString "257") (e2 : Txt.slice x (some 3) (some 5) = Str.ofString " \"") (hxl : x.length ≤ 105)
    (hret : ∀ t h' tk', Kp s.heap h' → Q (.str (pF x 105 5 (Str.ofString "")) t) { s with heap := h', toks := tk' }) :
    wpAny (model prog w) A (call (.ref 77) [.str x t]) Q E s := by
  refine enter_pure (ps := [(Str.ofString "resp", some (.str x t))]) (binds := [(Str.ofString "resp", .str x t)]) C (by k_is) (by k_is) rfl rfl (locs rfl) rfl rfl rfl (by decide) ?_
  intro g L' h₁ tk₁ dp un gd env outer kg F N X T cx
  k_with_none
  k_with "exec While Compare cons nil" => (refine Hold.out ?_)
  k_steps
  · rename (Txt.slice x (some 3) (some 5) != _) = true => hne
    rw [e2] at hne
    exact absurd hne (by decide +kernel)
  unfold Hold
  rename Fr _ _ _ _ => F1
  rename News _ _ _ _ => N1
  refine While_inv2 (fun n m nx => ∃ (i : Nat) (i' : Int) (acc : Str) (ti td tn : Tok) (u : Option Value), m = mp [(Str.ofString "i", some (.int i' ti)), (Str.ofString "c", u), (Str.ofString "dirname", some (.str acc td)), (Str.ofString "n", some (.int x.length tn)), (Str.ofString "resp", some (.str x t))] ∧ i' = i ∧ nx = [] ∧ acc.length ≤ i ∧ i ≤ 107 ∧ x.length ≤ i + n ∧ pF x n i acc = pF x 105 5 (Str.ofString "")) (n₀ := 105) F1 N1 ?_ ?_
  · with_unfolding_all refine ⟨5, _, _, _, _, _, _, mp_ext ⟨rfl, rfl, rfl, rfl, rfl, trivial⟩ ?_, rfl, rfl, ?_, by decide, by omega, rfl⟩
    · walk_at "mapoff"
    · decide
  · rintro n m₁ nx h₁ tk₁ F₁ N₁ ⟨i, i', acc, ti, td, tn, u, rfl, rfl, rfl, hal, hi7, hil, hR⟩
    have hacc : acc.length ≤ 107 := Nat.le_trans hal hi7
    obtain _ | n := n
    · k_with_none
      k_steps
      rw [pF_end (by omega)] at hR
      subst hR
      exact Back.intro F₁ (hret _ _ _ (frKp F₁ kg))
    k_with_none
    k_steps
    · rename (x.length : Int) ≤ _ => c2
      rename (_ == _) = true => c1
      rename Fr _ _ _ _ => F2
      have c0 : (i : Int) < x.length := by assumption
      have hr : pF x (n + 1) i acc = acc := by rw [pF, if_pos c0, if_pos c1, if_pos c2]
      rw [hr] at hR
      subst hR
      show wpAny _ _ _ _ _ _
      k_steps
      exact Back.intro F2 (hret _ _ _ (frKp F2 kg))
    · rename (_ != _) = true => c3
      rename ¬ ((x.length : Int) ≤ _) => c2
      rename (_ == _) = true => c1
      rename Fr _ _ _ _ => F2
      have c0 : (i : Int) < x.length := by assumption
      have hr : pF x (n + 1) i acc = acc := by rw [pF, if_pos c0, if_pos c1, if_neg c2, if_pos c3]
      rw [hr] at hR
      subst hR
      show wpAny _ _ _ _ _ _
      k_steps
      exact Back.intro F2 (hret _ _ _ (frKp F2 kg))
    · rename (_ == _) = true => c1
      rename (Txt.item x ((i : Int) + 1) != _) = false => c3
      rename ¬ ((x.length : Int) ≤ _) => c2
      rename Fr _ _ _ _ => F2
      rename News _ _ _ _ => N2
      have c0 : (i : Int) < x.length := by assumption
      have hr : pF x (n + 1) i acc = pF x n (i + 2) (acc ++ Txt.item x (i : Int)) := by rw [pF, if_pos c0, if_pos c1, if_neg c2, if_neg (by rw [c3]; decide)]
      rw [hr] at hR
      refine whileEnd F2 N2 (Nat.lt_succ_self _) ?_
      with_unfolding_all refine ⟨i + 2, _, _, _, _, _, _, mp_ext ⟨rfl, rfl, rfl, rfl, rfl, trivial⟩ ?_, by omega, rfl, by omega, by omega, by omega, hR⟩
      walk_at "mapoff"
    · rename (_ == _) = false => c1
      rename Fr _ _ _ _ => F2
      rename News _ _ _ _ => N2
      have c0 : (i : Int) < x.length := by assumption
      have hr : pF x (n + 1) i acc = pF x n (i + 1) (acc ++ Txt.item x (i : Int)) := by rw [pF, if_pos c0, if_neg (by rw [c1]; decide)]
      rw [hr] at hR
      refine whileEnd F2 N2 (Nat.lt_succ_self _) ?_
      with_unfolding_all refine ⟨i + 1, _, _, _, _, _, _, mp_ext ⟨rfl, rfl, rfl, rfl, rfl, trivial⟩ ?_, by omega, rfl, by omega, by omega, by omega, hR⟩
      walk_at "mapoff"
    · have c0 : ¬ (i : Int) < x.length := by assumption
      rw [pF_end c0] at hR
      subst hR
      exact Back.intro F₁ (hret _ _ _ (frKp F₁ kg))
end
end Mine
namespace Mine
theorem kf7 : PySem.Challenge.rw_xg0009_01 = PySem.Challenge.rw_xg0009_01 ∧ Mine.hd.heap_39 = Mine.hd.heap_39 := by
  k_fill; exact ⟨rfl, rfl⟩
section
variable {prog : Program} {w : World} {p : Program} {loose : List Str} {mean : ExcName → Option Value} {mg mb : Str → Option Value} {k : Nat} {A : Around} {s : Shared} {Q E : Value → Shared → Prop}
def spell (k : Int) : Str := if Int.fmod k 3 = 0 then Str.ofString "\n" else if Int.fmod k 3 = 1 then Str.ofString "\x0d" else Str.ofString "\x0d\n"
theorem spell_len (k : Int) : (spell k).length ≤ 2 := by
  unfold spell
  split
  · decide +kernel
  · split <;> decide +kernel
theorem spells_len (l : List Int) : ((l.map spell).map (·.length)).sum ≤ 2 * l.length := by
  induction l with
  | nil => exact Nat.le_refl _
  | cons a l ih =>
    have := spell_len a
    simp only [List.map_cons, List.sum_cons, List.length_cons]
    omega
set_option maxHeartbeats 4000000 in
theorem rowends_spec {l : Addr} {vs : List Value} {ns : List Int}
    (C : Cx w p loose mean mg mb (k + 1) A s.heap) (hl : s.heap.IsList l vs.toArray) (hi : IntsAre vs ns) (hlen : ns.length ≤ 63)
    (hret : ∀ t h' tk', Kp s.heap h' → Q (.str (Txt.join (Str.ofString "") ((ns.take 4).map spell) ++ Str.ofString "\n\x0d") t) { s with heap := h', toks := tk' }) :
    wpAny (model prog w) A (call (.ref 101) [.ref l]) Q E s := by
  refine enter_cell (ps := [(Str.ofString "script", some (.ref l))]) (cx := Str.ofString "spelled") (binds := [(Str.ofString "script", .ref l)]) C (by k_is) (by k_is) (fun _ => rfl) (fun _ => rfl) (fun _ => rfl) rfl rfl rfl rfl rfl ?_
  intro g L' h₁ tk₁ dp un gd env outer o kg F N hod X T cx
  have hl' : g.IsList l vs.toArray := hl.at fun o e => kg _ o e
  k_with_none
  k_with "CompSrc" => (refine Hold.out ?_)
  k_steps
  unfold Hold
  rename Fr _ _ _ _ => F1
  rename News _ _ _ _ => N1
  rename IntsAre _ (List.take 4 ns) => hi4
  refine LCg.CompSrc.ledger rfl F1 N1 List.mem_cons_self ?_ (fun g2 => comp_rest (fun i y => ∃ t, y = .str (((ns.take 4).map spell).getD i (Str.ofString "")) t) ?_ ?_)
  · rw [List.size_toArray, sizeLine_eq]
    have := hi4.length
    omega
  · intro i v I oI C oC D m₂ ys h2 tk2 E2 hlt hP hC hx F2 N2 off ne
    obtain ⟨k4, t4, rfl, hk4⟩ := IntsAre.at hi4 i v (by simpa using hP)
    have hsp : ((ns.take 4).map spell).getD i (Str.ofString "") = spell k4 := by
      rw [List.getD_eq_getElem?_getD, List.getElem?_map, hk4]; rfl
    k_steps
    all_goals (refine cend F2 N2 off (.inr ⟨_, List.mem_cons_self, rfl, _, rfl⟩) ?_; rw [hsp]; unfold spell)
    · rename Int.fmod k4 3 = 0 => e1
      rw [if_pos e1]; exact ⟨_, rfl⟩
    · rename Int.fmod k4 3 = 1 => e1
      rw [if_neg (by rw [e1]; decide), if_pos e1]; exact ⟨_, rfl⟩
    · rename Int.fmod k4 3 = 2 => e1
      rw [if_neg (by rw [e1]; decide), if_neg (by rw [e1]; decide)]; exact ⟨_, rfl⟩
  · intro ys hyl hys
    have hlen4 := hi4.length
    rw [List.size_toArray] at hyl
    have hst : StrsAre ys ((ns.take 4).map spell) := strsAre_of (by rw [List.length_map]; omega) fun i y hy => by
      obtain ⟨t, rfl⟩ := hys i y hy
      have hlt : i < ys.length := (List.getElem?_eq_some_iff.mp hy).1
      have hlt' : i < ((ns.take 4).map spell).length := by rw [List.length_map]; omega
      refine ⟨_, t, List.getElem?_eq_getElem hlt', ?_⟩
      rw [List.getD_eq_getElem?_getD, List.getElem?_eq_getElem hlt']; rfl
    k_steps
    rename News _ _ _ _ => N3
    rename Fr _ _ _ _ => F3
    obtain ⟨l3, hl3, hl4⟩ := strsAre_values hst
    refine SC.join (l := l3) (hl3 ▸ News.isList N3 List.mem_cons_self) hl4 ?_ ?_
    · refine joinOk_of ?_
      have h1 := spells_len (ns.take 4)
      have h2 : (Str.ofString "").length = 0 := by decide +kernel
      rw [h2]
      omega
    · intro t5 k5
      k_steps
      refine add_str (fun t6 k6 => ?_) ?_
      · exact Back.intro F3 (hret _ _ _ (frKp F3 kg))
      · have h1 := spells_len (ns.take 4)
        have h2 : (Str.ofString "").length = 0 := by decide +kernel
        have h3 : (Str.ofString "\n\x0d").length = 2 := by decide +kernel
        have h4 := StrLaws.join_length_le (Str.ofString "") ((ns.take 4).map spell)
        rw [h2] at h4
        rw [h3, sizeLine_eq]
        have h5 : (Txt.join (Str.ofString "") ((ns.take 4).map spell)).length = (Str.join (Str.ofString "") ((ns.take 4).map spell)).length := congrArg Str.length (StrLaws.glued_eq_join _ _)
        omega
end
end Mine
namespace Mine
open PySem.Builtin PySem.Builtin.Re

theorem plainAttrs_pat : PlainAttrs "re.Pattern" :=
  ⟨⟨"object.__getattribute__", by rw [typeLookup_type, builtinLookup_eq_fast]; kernel_rfl, by decide +kernel⟩, by rw [typeLookup_type, builtinLookup_eq_fast]; kernel_rfl⟩
theorem slot_pat_sub : Slot "re.Pattern" "sub" "re.Pattern.sub" :=
  .of (owner := "re.Pattern") (n := "sub") (by rw [typeLookup_type, builtinLookup_eq_fast]; kernel_rfl) (by decide +kernel) (by decide +kernel) (by decide +kernel)
    (by first | exact .inl (by decide +kernel) | exact .inr (by decide +kernel)) (by rw [isSubtype_type]; kernel_rfl)
theorem type_pat_sub : typeOf (.builtin "re.Pattern.sub") = pure (.type "method_descriptor") := by show builtinType _ = _; rw [builtinType_eq_fast]; kernel_rfl
theorem entry_pat_sub : entryFor table "re.Pattern.sub" = some Builtin.«re.Pattern.sub» := entryFor_of_tree (by kernel_rfl)
theorem entry_pat_loop : entryFor table "re.Pattern.sub.loop" = some Builtin.«re.Pattern.sub.loop» := entryFor_of_tree (by kernel_rfl)
theorem plain_pat_loop : plainId "re.Pattern.sub.loop" = true := by decide +kernel
theorem args_pat_sub (a b c : Value) : argsOk "re.Pattern.sub" ⟨[a, b, c], []⟩ := by unfold argsOk; kernel_rfl
theorem named_pat_sub (a b : Value) : reNamed "re.Pattern.sub" "sub" ["repl", "string", "count"] 2 [a, b] [] = pure [some a, some b, none] := by kernel_rfl
theorem no_call_str : typeLookup (.type "str") "__call__" = pure none := by rw [typeLookup_type, builtinLookup_eq_fast]; kernel_rfl

def patCode : Array Nat := #[14, 9, 4, 1, 2, 16, 10, 16, 13, 0, 7, 7, 16, 13, 16, 10, 15, 18, 5, 16, 10, 15, 13, 11, 16, 13, 5, 5, 0, 16, 10, 1, 15, 2, 0, 1]
def drv : Nat → Sre.M → Option Sre.M
  | 0, _ => none
  | f + 1, m => if (m.runFor reTurnSteps).outcome.isSome then some (m.runFor reTurnSteps) else drv f (m.runFor reTurnSteps)
def seek (x : Array Nat) (i : Nat) : Option Sre.M := drv 60 (Sre.forSearch patCode x 0 i x.size false)
/-- how many row ends are found one behind the other, to the very end -/
def subRun (x : Array Nat) : Nat → Nat → Option Nat
  | 0, _ => none
  | f + 1, i => match seek x i with
    | none => none
    | some m => match m.outcome with
      | some .matched => if m.start = i ∧ i < m.handed then (subRun x f m.handed).map (· + 1) else none
      | some .failed => if i = x.size then some 0 else none
      | _ => none

section
variable {M : Model} {A : Around} {E : Value → Shared → Prop} {s : Shared}
theorem wp_drive {Q : Sre.M → Shared → Prop} : ∀ (f n : Nat) (m m' : Sre.M), drv f m = some m' → f ≤ n → m'.outcome.isSome = true ∧ (Q m' s → wpAny M A (reDrive n m) Q E s)
  | 0, _, _, _, h, _ => by cases h
  | f + 1, 0, _, _, _, hn => absurd hn (Nat.not_succ_le_zero f)
  | f + 1, n + 1, m, m', h, hn => by
    unfold drv at h
    by_cases ho : (m.runFor reTurnSteps).outcome.isSome = true
    · rw [if_pos ho] at h
      cases h
      refine ⟨ho, fun hq => ?_⟩
      show wpAny M A (if (m.runFor reTurnSteps).outcome.isSome = true then pure (m.runFor reTurnSteps) else do rule "sre.turn"; reDrive n (m.runFor reTurnSteps)) Q E s
      rw [if_pos ho]
      exact wpAny_pure hq
    · rw [if_neg ho] at h
      have ih := wp_drive (Q := Q) f n _ _ h (Nat.le_of_succ_le_succ hn)
      refine ⟨ih.1, fun hq => ?_⟩
      show wpAny M A (if (m.runFor reTurnSteps).outcome.isSome = true then pure (m.runFor reTurnSteps) else do rule "sre.turn"; reDrive n (m.runFor reTurnSteps)) Q E s
      rw [if_neg ho]
      exact wpAny_bind (wpAny_rule (ih.2 hq))

theorem wp_runToEnd {Q : Option Sre.M → Shared → Prop} {m m' : Sre.M} (h : drv 60 m = some m') (b : Bool) (ho : m'.outcome = some (if b then .matched else .failed)) (hq : Q (if b then some m' else none) s) :
    wpAny M A (reRunToEnd m) Q E s := by
  unfold reRunToEnd
  refine wpAny_bind ((wp_drive 60 (2 ^ 64) m m' h (by decide)).2 ?_)
  refine wpAny_bind (wpAny_forIn_list _ (fun _ _ s' => s' = s) _ (fun i rest u s' e => ?_) (fun u s' e => ?_) _ _ rfl)
  · subst e
    by_cases hs : m'.seen.has i = true
    · rw [if_pos hs]; exact wpAny_bind (wpAny_rule (wpAny_pure rfl))
    · rw [if_neg hs]; exact wpAny_pure rfl
  · subst e
    rw [ho]
    cases b
    · exact wpAny_pure hq
    · exact wpAny_pure hq
end

/-- the pattern as it lies at the top -/
structure PatIn (h : Heap) : Prop where
  pat : ∃ (sl : Array (Option Value)) (p0 : Str) (t0 t1 : Tok), h.get? 89 = some ⟨.type "re.Pattern", none, .fields #[.str p0 t0, .int 32 t1, .int 0 0, .none, .none, .ref 88, .int 0 0], sl⟩
  codes : ∃ (sl : Array (Option Value)) (vs : Array Value), h.get? 88 = some ⟨.type "tuple", none, .seq vs 0, sl⟩ ∧ (vs.map reRawOf).map (·.toNat) = patCode
theorem PatIn.keep {h h' : Heap} (H : PatIn h) (k : ∀ b o, b = 88 ∨ b = 89 → h.get? b = some o → h'.get? b = some o) : PatIn h' := by
  obtain ⟨⟨sl, p0, t0, t1, h9⟩, sl8, vs, h8, hv⟩ := H
  exact ⟨⟨sl, p0, t0, t1, k _ _ (.inr rfl) h9⟩, sl8, vs, k _ _ (.inl rfl) h8, hv⟩
section
variable {prog : Program} {w : World} {A : Around} {E : Value → Shared → Prop} {s : Shared}
theorem wp_whole {x : Str} {t : Tok} {Q : ReTarget → Shared → Prop} (H : PatIn s.heap)
    (h : Q { pattern := .ref 89, string := .str x t, code := patCode, text := x.cps, kind := 0, groups := 0, pos := 0, lim := x.cps.size } s) :
    wpAny (model prog w) A (reWholeTarget (.ref 89) (.str x t)) Q E s := by
  obtain ⟨⟨sl, p0, t0, t1, h9⟩, sl8, vs, h8, hv⟩ := H
  unfold reWholeTarget
  refine wpAny_bind (wpAny_fieldsOf h9 rfl ?_)
  refine wpAny_bind ?_
  unfold reTextOf
  refine wpAny_bind (wpAny_pure (wpAny_pure ?_))
  show wpAny _ _ (reNoCollectionInside (.str x t) 0 >>= _) _ _ _
  refine wpAny_bind (wpAny_pure ?_)
  refine wpAny_bind ?_
  unfold reRawItems
  refine wpAny_bind (wpAny_seqItems h8 rfl (wpAny_pure (wpAny_pure ?_)))
  show Q { pattern := _, string := _, code := (vs.map reRawOf).map (·.toNat), text := _, kind := _, groups := _, pos := _, lim := _ } s
  rw [hv]
  exact h

def crlf : Str := ⟨#[13, 10]⟩
theorem sub_loop {x : Str} {t tr : Tok} {P : Addr} (hP8 : P ≠ 88) (hP9 : P ≠ 89) : ∀ (f i k n c : Nat) (s : Shared) (R : Result → Shared → Prop), subRun x.cps f i = some k → n + k ≤ 1000 → 0 < n + k → PatIn s.heap →
    s.heap.get? P = some { cls := .type "list", data := .seq (Array.replicate n (.str crlf tr)) c } →
    (∀ h' tk t', (∀ b o, b ≠ P → s.heap.get? b = some o → h'.get? b = some o) → R (.ok (.ret (.str (Txt.join Str.empty (List.replicate (n + k) crlf)) t'))) { s with heap := h', toks := tk }) →
    codeAny (model prog w) A (.builtin "re.Pattern.sub.loop" ⟨[.ref 89, .str x t, .str crlf tr, rawInt 0, rawInt 0, rawInt (n : Int), rawInt (i : Int), rawInt (i : Int), .bool false, .ref P, .bool false], []⟩) R s := by
  intro f
  induction f with
  | zero => intro i k n c s R h; cases h
  | succ f ih =>
    intro i k n c s R h hle hnk H hPo hR
    unfold subRun at h
    refine codeAny_builtin entry_pat_loop ?_
    rw [Around.under_plainId plain_pat_loop]
    unfold Builtin.«re.Pattern.sub.loop»
    show wpAny _ _ (reWholeTarget (.ref 89) (.str x t) >>= _) _ _ _
    refine wpAny_bind (wp_whole H ?_)
    show wpAny _ _ (reLiteralCannotBeTurned (.str crlf tr) >>= _) _ _ _
    refine wpAny_bind ?_
    unfold reLiteralCannotBeTurned
    refine wpAny_bind (wpAny_pure (wpAny_pure ?_))
    show wpAny _ _ (reRunToEnd (Sre.forSearch patCode x.cps 0 i x.cps.size false) >>= _) _ _ _
    cases hk : seek x.cps i with
    | none => rw [hk] at h; cases h
    | some m =>
      rw [hk] at h
      dsimp only at h
      cases ho : m.outcome with
      | none => rw [ho] at h; cases h
      | some oc =>
        rw [ho] at h
        cases oc with
        | stuck why => cases h
        | failed =>
          dsimp only at h
          by_cases hie : i = x.cps.size
          · rw [if_pos hie] at h
            cases h
            refine wpAny_bind (wp_runToEnd hk false ho ?_)
            show wpAny _ _ (if i < x.cps.size then _ else _) _ _ _
            rw [if_neg (by omega)]
            show wpAny _ _ (mkStr ⟨x.cps.extract 0 0⟩ >>= _) _ _ _
            have e0 : (⟨x.cps.extract 0 0⟩ : Str) = Str.empty := by
              show (Str.mk _) = Str.mk _
              congr 1
              simp
            rw [e0]
            refine wpAny_bind (wpAny_mkStr ?_ (by decide))
            show wpAny _ _ (seqItems? (.ref P) >>= _) _ _ _
            refine wpAny_bind (wpAny_seqItems hPo rfl ?_)
            show wpAny _ _ (if (Array.replicate n (Value.str crlf tr)).isEmpty = true then _ else _) _ _ _
            rw [if_neg (by simp; omega)]
            have hv : (Array.replicate n (Value.str crlf tr)) = (strValues (List.replicate n (crlf, tr))).toArray := by
              unfold strValues; rw [List.map_replicate, List.toArray_replicate]
            refine wpAny_bind (SC.join (l := List.replicate n (crlf, tr)) (texts := List.replicate n crlf) ⟨_, hPo, rfl, _, by rw [hv]⟩ (by rw [List.map_replicate]) ?_ ?_)
            · refine joinOk_of ?_
              rw [List.map_replicate, List.sum_replicate_nat, List.length_replicate, show crlf.length = 2 from by decide +kernel, show Str.empty.length = 0 from rfl]
              omega
            · intro t' k'
              show wpAny _ _ (ret _) _ _ _
              refine wpAny_pure ?_
              exact hR _ _ _ (fun _ _ _ e => e)
          · rw [if_neg hie] at h; cases h
        | matched =>
          dsimp only at h
          by_cases hm : m.start = i ∧ i < m.handed
          · rw [if_pos hm] at h
            refine wpAny_bind (wp_runToEnd hk true ho ?_)
            obtain ⟨hst, hlt⟩ := hm
            obtain ⟨k', hk', rfl⟩ : ∃ k', subRun x.cps f m.handed = some k' ∧ k' + 1 = k := by
              cases q : subRun x.cps f m.handed with
              | none => rw [q] at h; cases h
              | some k' => rw [q] at h; cases h; exact ⟨k', rfl, rfl⟩
            show wpAny _ _ (if i < m.start then _ else _) _ _ _
            rw [if_neg (by omega)]
            show wpAny _ _ (pure (Value.str crlf tr) >>= _) _ _ _
            refine wpAny_bind (wpAny_pure ?_)
            show wpAny _ _ (updateSeq P (·.push (.str crlf tr)) >>= _) _ _ _
            refine wpAny_bind (wpAny_updateSeq hPo rfl ?_ ?_ ?_)
            · show wpAny _ _ (pure (Fin.again _)) _ _ _
              refine wpAny_pure ⟨plainId_quiet plain_pat_loop _, ?_⟩
              have hmu : (m.handed == m.start) = false := by rw [hst]; exact beq_eq_false_iff_ne.mpr (by omega)
              rw [hmu]
              have hkeep : ∀ b o, b ≠ P → s.heap.get? b = some o → (s.heap.update P (Obj.mapSeq (·.push (Value.str crlf tr)))).get? b = some o := fun b o hb e => (Heap.get?_update_ne _ _ _ _ hb).trans e
              have := ih m.handed k' (n + 1) (c + 1) { s with heap := s.heap.update P (Obj.mapSeq (·.push (.str crlf tr))) } R hk' (by omega) (by omega) (H.keep fun b o hb e => hkeep b o (by rcases hb with rfl | rfl; exact Ne.symm hP8; exact Ne.symm hP9) e) ?_ ?_
              · exact this
              · rw [Heap.get?_update_self _ hPo rfl]
                have e : (Array.replicate n (Value.str crlf tr)).push (Value.str crlf tr) = Array.replicate (n + 1) (Value.str crlf tr) := Array.replicate_succ.symm
                show some (Obj.mk _ _ (Data.seq ((Array.replicate n (Value.str crlf tr)).push (Value.str crlf tr)) (if ((Array.replicate n (Value.str crlf tr)).push (Value.str crlf tr)).size == (Array.replicate n (Value.str crlf tr)).size then c else c + 1)) _) = _
                rw [e, Array.size_replicate, Array.size_replicate, if_neg (by simp)]
              · intro h' tk t' hk2
                have := hR h' tk t' fun b o hb e => hk2 b o hb (hkeep b o hb e)
                rw [show n + 1 + k' = n + (k' + 1) by omega]
                exact this
            · rw [Array.size_replicate, sizeLine_eq]; omega
            · show ((Array.replicate n (Value.str crlf tr)).push (Value.str crlf tr)).size ≤ _
              rw [Array.size_push, Array.size_replicate, sizeLine_eq]; omega
          · rw [if_neg hm] at h; cases h

theorem call_sub {x : Str} {t tr : Tok} {f k : Nat} {Q : Value → Shared → Prop} (H : PatIn s.heap) (hr : subRun x.cps f 0 = some k) (h0 : 0 < k) (hk : k ≤ 1000)
    (h : ∀ h' tk t', Kp s.heap h' → Q (.str (Txt.join Str.empty (List.replicate k crlf)) t') { s with heap := h', toks := tk }) :
    wpAny (model prog w) A (call (.builtin "re.Pattern.sub") [.ref 89, .str crlf tr, .str x t]) Q E s := by
  have hT : s.TypeIs (.ref 89) "re.Pattern" := by
    obtain ⟨⟨sl, p0, t0, t1, h9⟩, _⟩ := H
    exact ⟨_, h9, rfl⟩
  refine wpAny_call (codeAny_call_builtin slot_pat_sub.plain entry_pat_sub (slot_pat_sub.check _ _ _ _ _ _ _ _ hT (args_pat_sub _ _ _) ?_))
  unfold Builtin.«re.Pattern.sub» reSubstitute
  show wpAny _ _ (reNamed "re.Pattern.sub" "sub" ["repl", "string", "count"] 2 [.str crlf tr, .str x t] [] >>= _) _ _ _
  rw [named_pat_sub]
  refine wpAny_bind (wpAny_pure ?_)
  show wpAny _ _ (pure (0 : Int) >>= _) _ _ _
  refine wpAny_bind (wpAny_pure ?_)
  refine wpAny_bind (wpAny_specialOf (typeIs_str _ _ _) no_call_str ?_)
  show wpAny _ _ (asStr? (.str crlf tr) >>= _) _ _ _
  refine wpAny_bind (wpAny_pure ?_)
  show wpAny _ _ ((pure (!(crlf.cps.contains 92)) : Sem Bool) >>= _) _ _ _
  refine wpAny_bind (wpAny_pure ?_)
  show wpAny _ _ (if (!(crlf.cps.contains 92)) = true then (pure (Value.str crlf tr, 0) >>= _) else _) _ _ _
  rw [if_pos (by decide +kernel)]
  refine wpAny_bind (wpAny_pure ?_)
  show wpAny _ _ (holding [.str crlf tr] (reWholeTarget (.ref 89) (.str x t)) >>= _) _ _ _
  refine wpAny_bind (wpAny_holding (wp_whole H ?_))
  show wpAny _ _ (newList [] >>= _) _ _ _
  refine wpAny_bind (wpAny_newList ?_)
  have hlt : ∀ a, a = 88 ∨ a = 89 → s.heap.objs.size ≠ a := by
    obtain ⟨⟨sl, p0, t0, t1, h9⟩, sl8, vs, h8, _⟩ := H
    rintro a (rfl | rfl)
    · exact Nat.ne_of_gt (Heap.lt_size h8)
    · exact Nat.ne_of_gt (Heap.lt_size h9)
  refine wpAny_pure ⟨plainId_quiet plain_pat_loop _, ?_⟩
  refine sub_loop (hlt _ (.inl rfl)) (hlt _ (.inr rfl)) f 0 k 0 0 _ _ hr (by omega) (by omega) (H.keep fun b o _ e => Heap.get?_push_of_some _ e) (Heap.get?_push_size _ rfl) ?_
  intro h' tk t' hk'
  rw [Nat.zero_add]
  exact h _ _ _ fun b o e => hk' b o (Nat.ne_of_lt (Heap.lt_size e)) (Heap.get?_push_of_some _ e)
end
end Mine
namespace Mine
theorem kf8 : PySem.Challenge.rw_xg0009_01 = PySem.Challenge.rw_xg0009_01 ∧ Mine.hd.heap_39 = Mine.hd.heap_39 := by
  k_fill; exact ⟨rfl, rfl⟩
section
variable {prog : Program} {w : World} {p : Program} {loose : List Str} {mean : ExcName → Option Value} {mg mb : Str → Option Value} {k : Nat} {A : Around} {s : Shared} {Q E : Value → Shared → Prop}
theorem pat_in {g : Heap} (X : (Mine.hd.heap_39 w.params).In g) : PatIn g :=
  ⟨⟨_, _, _, _, X _ _ (by k_is)⟩, _, _, X _ _ (by k_is), by decide +kernel⟩
set_option maxHeartbeats 4000000 in
theorem fix_spec {x : Str} {t : Tok} {f n : Nat}
    (C : Cx w p loose mean mg mb (k + 1) A s.heap) (hr : subRun x.cps f 0 = some n) (h0 : 0 < n) (hn : n ≤ 1000)
    (hret : ∀ t h' tk', Kp s.heap h' → Q (.str (Txt.join Str.empty (List.replicate n crlf)) t) { s with heap := h', toks := tk' }) :
    wpAny (model prog w) A (call (.ref 96) [.str x t]) Q E s := by
  refine enter_pure (ps := [(Str.ofString "data", some (.str x t))]) (binds := [(Str.ofString "data", .str x t)]) C (by k_is) (by k_is) rfl rfl (locs rfl) rfl rfl rfl (by decide) ?_
  intro g L' h₁ tk₁ dp un gd env outer kg F N X T cx
  have H := pat_in X
  k_with_none
  k_with "getMethod ref" => (refine getMethod_builtin (T := "re.Pattern") (by obtain ⟨⟨sl, p0, t0, t1, h9⟩, _⟩ := H; exact ⟨_, F.keep _ _ h9, rfl⟩) plainAttrs_pat slot_pat_sub type_pat_sub (by intro a e; cases e; obtain ⟨⟨sl, p0, t0, t1, h9⟩, _⟩ := H; exact ⟨_, F.keep _ _ h9, rfl⟩) ?_)
  k_steps
  have ec : (Str.ofString "\x0d\n") = crlf := by decide +kernel
  rw [ec]
  refine call_sub (H.keep fun b o _ e => F.keep b o e) hr h0 hn ?_
  intro h' tk t' hk'
  have F' : Fr g L' h' _ := F.keeps hk'
  exact Back.intro F' (hret _ _ _ (frKp F' kg))
end
end Mine
namespace Mine
theorem kf9 : PySem.Challenge.rw_xg0009_01 = PySem.Challenge.rw_xg0009_01 ∧ Mine.hd.heap_39 = Mine.hd.heap_39 := by
  k_fill; exact ⟨rfl, rfl⟩
/-- row ends, n of them, as they are glued -/
def cr (n : Nat) : Str := Txt.join Str.empty (List.replicate n crlf)
theorem cr_len (n : Nat) : (cr n).length = 2 * n := by
  have h := size_glued Str.empty (List.replicate n crlf)
  rw [List.map_replicate, List.sum_replicate_nat, show crlf.length = 2 from rfl, show Str.empty.length = 0 from rfl] at h
  have h2 : (cr n).length = n * 2 + ((List.replicate n crlf).length - 1) * 0 := h
  omega
section
variable {prog : Program} {w : World} {p : Program} {loose : List Str} {mean : ExcName → Option Value} {mg mb : Str → Option Value} {k : Nat} {A : Around} {s : Shared} {Q E : Value → Shared → Prop}
set_option maxHeartbeats 4000000 in
theorem mended_spec {x sg : Str} {t ts : Tok} {n : Nat}
    (C : Cx w p loose mean mg mb (k + 2) A s.heap) (h0 : 0 < n) (hn : n ≤ 6) (hsl : sg.length = 1)
    (hr : subRun x.cps 60 0 = some n) (hr1 : subRun (Txt.mul sg (2 * n : Nat)).cps 60 0 = some (2 * n)) (hr2 : subRun (Txt.mul sg (4 * n : Nat)).cps 60 0 = some (4 * n))
    (hret : ∀ l h' tk' t0 t1 t2 ep, Kp s.heap h' → s.heap.get? l = none → h'.get? l = some (listOf #[.str (cr n) t0, .str (cr (2 * n)) t1, .str (cr (4 * n)) t2] ep) → Q (.ref l) { s with heap := h', toks := tk' }) :
    wpAny (model prog w) A (call (.ref 108) [.str x t, .str sg ts]) Q E s := by
  refine enter_pure (ps := [(Str.ofString "sign", some (.str sg ts)), (Str.ofString "mail", some (.str x t))]) (binds := [(Str.ofString "mail", .str x t), (Str.ofString "sign", .str sg ts)]) C (by k_is) (by k_is) rfl rfl (locs rfl) rfl rfl rfl (by decide) ?_
  intro g L' h₁ tk₁ dp un gd env outer kg F N X T cx
  k_with_none
  k_with "call ref" => (refine Hold.out ?_)
  k_steps
  unfold Hold
  rename Fr _ _ _ _ => F1
  rename News _ _ _ _ => N1
  refine fix_spec (cx _ _ F1) hr h0 (by omega) ?_
  intro t0 h2 tk2 hk2
  replace F1 := F1.keeps hk2
  replace N1 := N1.grown hk2
  have hc0 : (Txt.join Str.empty (List.replicate n crlf)) = cr n := rfl
  rw [hc0]
  have hl0 := cr_len n
  k_steps
  unfold Hold
  rename News _ _ _ [_] => N3
  rename Fr _ _ _ _ => F3
  rw [hl0]
  refine fix_spec (cx _ _ F3) hr1 (by omega) (by omega) ?_
  intro t1 h3 tk3 hk3
  replace F3 := F3.keeps hk3
  replace N3 := N3.grown hk3
  have hc1 : (Txt.join Str.empty (List.replicate (2 * n) crlf)) = cr (2 * n) := rfl
  rw [hc1]
  have hl1 := cr_len (2 * n)
  k_steps
  unfold Hold
  rename News _ _ _ _ => N4
  rename Fr _ _ _ _ => F4
  rw [hl1, show 2 * (2 * n) = 4 * n by omega]
  refine fix_spec (cx _ _ F4) hr2 (by omega) (by omega) ?_
  intro t2 h5 tk5 hk5
  replace F4 := F4.keeps hk5
  replace N4 := N4.grown hk5
  have hc2 : (Txt.join Str.empty (List.replicate (4 * n) crlf)) = cr (4 * n) := rfl
  rw [hc2]
  k_steps
  rename Fr _ _ _ _ => F6
  rename News _ _ _ _ => N6
  refine Back.intro F6 (hret _ _ _ t0 t1 t2 2 (frKp F6 kg) ?_ (N6 _ List.mem_cons_self).1)
  have hnone := (N6 _ List.mem_cons_self).2.2
  dsimp only at hnone
  cases e1 : s.heap.get? _ with
  | none => rfl
  | some o9 => rw [kg _ _ e1] at hnone; cases hnone
end
end Mine
namespace Mine
section
variable {prog : Program} {w : World} {A : Around} {E : Value → Shared → Prop} {s : Shared} {h₀ : Heap} {L : Addr} {m : Str → Option Value} {env : Env} {K : Type} [DecidableEq K] {knd : KeyKind prog w K}

/-- a pair made in a dict comprehension -/
def DEnd (knd : KeyKind prog w K) (h₀ : Heap) (L : Addr) (m : Str → Option Value) (s₁ : Shared) (led : List (Addr × Obj)) (J : K → Value → Prop) (key val : Value) (s₂ : Shared) : Prop :=
  ∃ h' tk k, s₂ = { s₁ with heap := h', toks := tk } ∧ Fr h₀ L h' m ∧ News h₀ L h' led ∧ knd.is k key = true ∧ J k val
theorem DEnd.intro {s₁ : Shared} {led : List (Addr × Obj)} {J : K → Value → Prop} {key val : Value} {h' : Heap} {tk : Nat} {k : K} (F : Fr h₀ L h' m) (N : News h₀ L h' led) (hk : knd.is k key = true) (hJ : J k val) :
    DEnd knd h₀ L m s₁ led J key val { s₁ with heap := h', toks := tk } := ⟨h', tk, k, rfl, F, N, hk, hJ⟩

theorem dblock {kx vx iter : Expr} {x : Str} {px : Pos} {scope : Scope} {cl : List (Str × Addr)} {pos : Pos} {s₂ : Shared} {I : Addr} {fp : List Addr} {n : Nat} {P : Nat → Value → Prop} {St : Nat → Heap → Prop} {news : List (Addr × Obj)}
    {J : Nat → List (K × Value) → Prop} {RR : Value → Addr → Result → Shared → Prop}
    (W : Walks prog w A I fp [I] n P St) (hIo : ∀ i h, St i h → ∃ o, h.get? I = some o)
    (hSt : ∀ i h h' o, St i h → h.get? I = some o → h'.get? I = some o → (∀ b o, h₀.get? b = some o → h.get? b = some o) → News h₀ L h news → (∀ b o, h₀.get? b = some o → h'.get? b = some o) → News h₀ L h' news → St i h')
    (hcell : ∀ y ∈ scope.names, y.2 ≠ .cell) (hkind : scope.kind = .function) (hx : scope.names.lookup x = some .local) (hst : St 0 s₂.heap) (hfp : ∀ b ∈ fp, b < s₂.heap.objs.size)
    (F : Fr h₀ L s₂.heap m) (N : News h₀ L s₂.heap news) (hIL : L ≠ I) (hI₀ : h₀.get? I = none) (off : ∀ p ∈ news, p.1 ≠ I) (hJ : J 0 []) (hJs : ∀ i kv, J i kv → kv.length ≤ sizeLine)
    (turn : ∀ i v I oI C oC D oD m₂ kv h tk (E' : Value → Shared → Prop), i < n → P i v → LCg.NsObj oC m₂ → m₂ x = some v → J i kv → oD.IsDictOf knd kv → Fr h₀ L h m → News h₀ L h ((I, oI) :: (C, oC) :: (D, oD) :: news) → LCg.Off3 I C D news → ((@Ne Nat I C) ∧ (@Ne Nat I D) ∧ (@Ne Nat C D)) →
      wpAny (model prog w) A (eval kx (compEnvC scope cl C env)) (fun key s₄ => wpAny (model prog w) A (eval vx (compEnvC scope cl C env)) (fun val s₅ => DEnd knd h₀ L m { s₂ with heap := h, toks := tk } ((I, oI) :: (C, oC) :: (D, oD) :: news) (fun k y => J (i + 1) (stored kv k y)) key val s₅) E' s₄) E' { s₂ with heap := h, toks := tk })
    (hRR : ∀ D oD C h tk m' kv, Fr h₀ L h m → News h₀ L h ((D, oD) :: news) → LCg.Off1 D news → oD.IsDictOf knd kv → J n kv → h.Ns C m' → h₀.get? C = none → h₀.get? D = none → C ≠ L → D ≠ L → C ≠ D → (∀ p ∈ news, p.1 ≠ C) → s₂.heap.objs.size ≤ D → RR (.ref D) C (.ok .next) { s₂ with heap := h, toks := tk }) :
    wpAny (model prog w) A newDict (fun acc s₃ => wpAny (model prog w) A (newFunctionEnv scope env.globals cl [] env.qual none .none (some env)) (fun cenv s₄ =>
      codeAny (model prog w) A (.compStart (.DictComp kx vx [⟨.Name x px, iter, [], 0⟩] scope pos) 0 (.ref I) acc { cenv with scope := relabel scope env }) (RR acc cenv.locals) s₄) E s₃) E s₂ := by
  refine wpAny_newObj_type (wpAny_newFunctionEnv hcell (by intro y hy; simp at hy) (fun h₁ hns₁ hsb₁ => ?_) hkind)
  dsimp only at hns₁ hsb₁ ⊢
  have hnew : (s₂.heap.push { cls := .type "dict", dict := none, data := .dict #[] }).DictOf knd s₂.heap.objs.size [] := Heap.DictOf.new s₂.heap
  generalize hH2 : s₂.heap.push { cls := .type "dict", dict := none, data := .dict #[] } = H2 at hns₁ hsb₁ hnew ⊢
  have hC : H2.objs.size = s₂.heap.objs.size + 1 := by rw [← hH2, Heap.size_push]
  have hDC : s₂.heap.objs.size ≠ H2.objs.size := by rw [hC]; exact Nat.ne_of_lt (Nat.lt_succ_self _)
  have below : ∀ b, b < s₂.heap.objs.size → b ≠ H2.objs.size ∧ b ≠ s₂.heap.objs.size := fun b hb => ⟨by rw [hC]; exact Nat.ne_of_lt (Nat.lt_succ_of_lt hb), Nat.ne_of_lt hb⟩
  have hDf : s₂.heap.objs.size ∉ fp := fun hm => Nat.lt_irrefl _ (hfp _ hm)
  have hCf : H2.objs.size ∉ fp := fun hm => by have := hfp _ hm; rw [hC] at this; exact Nat.lt_irrefl _ (Nat.lt_of_succ_lt this)
  have hIf : I ∈ fp := W.sub I (List.mem_singleton.mpr rfl)
  have hIlt : I < s₂.heap.objs.size := hfp I hIf
  have old : ∀ b o, s₂.heap.get? b = some o → h₁.get? b = some o := fun b o e => hsb₁.extBut b o (below b (Heap.lt_size e)).1 (Heap.get?_push_of_some _ (hH2 ▸ Heap.get?_push_of_some _ e))
  have hacc : h₁.DictOf knd s₂.heap.objs.size [] := hnew.at fun o e => hsb₁.extBut _ _ hDC (Heap.get?_push_of_some _ e)
  have hst₁ : St 0 h₁ := W.frame _ _ _ hst fun b _ o e => old b o e
  have fresh : ∀ a, s₂.heap.objs.size ≤ a → s₂.heap.get? a = none := fun a ha => by
    cases e : s₂.heap.get? a with
    | none => rfl
    | some o' => exact absurd (Heap.lt_size e) (Nat.not_lt.mpr ha)
  have fresh₀ : ∀ a, s₂.heap.objs.size ≤ a → h₀.get? a = none := fun a ha => by
    cases e : h₀.get? a with
    | none => rfl
    | some o' => have := F.keep a o' e; rw [fresh a ha] at this; cases this
  have hD₀ : h₀.get? s₂.heap.objs.size = none := fresh₀ _ (Nat.le_refl _)
  have hC₀ : h₀.get? H2.objs.size = none := fresh₀ _ (by rw [hC]; exact Nat.le_succ _)
  have hLlt : L < s₂.heap.objs.size := F.ns.lt
  have hDL : s₂.heap.objs.size ≠ L := Ne.symm (below L hLlt).2
  have hCL : H2.objs.size ≠ L := Ne.symm (below L hLlt).1
  have hCI : I ≠ H2.objs.size := (below I hIlt).1
  have hDI : I ≠ s₂.heap.objs.size := (below I hIlt).2
  have off₀ : LCg.Off3 I H2.objs.size s₂.heap.objs.size news := LCg.Off3.of fun p hp => ⟨off p hp, (below _ (Heap.lt_size (N p hp).1)).1, (below _ (Heap.lt_size (N p hp).1)).2⟩
  have off3 := off₀.mem
  obtain ⟨oD₀, heD₀, hoD₀⟩ := Heap.dictOf_iff.mp hacc
  have loop : ∀ s₃ : Shared, s₃ = { s₂ with heap := h₁, toks := s₂.toks + ([] : List (Str × Value)).length } →
      codeAny (model prog w) A (.compLoop (.DictComp kx vx [⟨.Name x px, iter, [], 0⟩] scope pos) 0 (.ref I) (.ref s₂.heap.objs.size) (compEnvC scope cl H2.objs.size env))
        (RR (.ref s₂.heap.objs.size) H2.objs.size) s₃ := by
    rintro s₃ rfl
    refine codeAny_compLoop_testsD
      (fun k s' => ∃ h' tk i kv oD m', s' = { s₂ with heap := h', toks := tk } ∧ i ≤ n ∧ k = n + 1 - i ∧ J i kv ∧ oD.IsDictOf knd kv ∧ St i h' ∧ Fr h₀ L h' m ∧ h'.Ns H2.objs.size m' ∧ News h₀ L h' ((s₂.heap.objs.size, oD) :: news)) ?_ (n + 1)
      ⟨h₁, _, 0, [], oD₀, _, rfl, Nat.zero_le _, rfl, hJ, hoD₀, hst₁, F.keeps old, hns₁, fun p hp => ?_⟩
    · rintro k s' ⟨h', tk, i, kv, oD, m', rfl, hi, rfl, hJi, hoD, hst', F', hn', N'⟩
      by_cases hlt : i < n
      · refine W.item i _ _ _ hlt hst' fun v h₂ tk₂ hPv hst₂ hk₂ => ?_
        refine wpAny_assign_Name (wpAny_storeName_local (lookup_relabel_local hx) (hn'.at' fun o e => hk₂ _ o (by simpa using Ne.symm hCI) e) (fun h₃ hn₃ hs₃ => ?_) (by simp [compEnvC, relabel, hkind]))
        refine wpAny_tests_nil ?_
        simp only [if_true]
        have hst₃ : St (i + 1) h₃ := W.frame _ _ _ hst₂ fun b hb o e => hs₃.extBut b o (fun q => hCf (by have q' : b = H2.objs.size := q; rw [← q']; exact hb)) e
        obtain ⟨oI, heI⟩ := hIo _ _ hst₃
        obtain ⟨oC, heC, hoC⟩ := LCg.ns_obj hn₃
        have F₃ : Fr h₀ L h₃ m := (LCg.fr_but F' hk₂ hIL hI₀).change hs₃ hCL hC₀
        have N₂ : News h₀ L h₂ ((s₂.heap.objs.size, oD) :: news) := LCg.news_but N' hk₂ fun p hp => by
          rcases List.mem_cons.mp hp with rfl | hp
          · exact Ne.symm hDI
          · exact (off3 p hp).1
        have N₃ : News h₀ L h₃ ((I, oI) :: (H2.objs.size, oC) :: (s₂.heap.objs.size, oD) :: news) := fun p hp => by
          rcases List.mem_cons.mp hp with rfl | hp
          · exact ⟨heI, Ne.symm hIL, hI₀⟩
          · rcases List.mem_cons.mp hp with rfl | hp
            · exact ⟨heC, hCL, hC₀⟩
            · have z := N₂ p hp
              refine ⟨hs₃.extBut _ _ ?_ z.1, z.2⟩
              rcases List.mem_cons.mp hp with rfl | hp
              · exact hDC
              · exact (off3 p hp).2.1
        refine wpAny_mono (turn i v I oI H2.objs.size oC s₂.heap.objs.size _ _ _ h₃ _ _ hlt hPv hoC (by simp) hJi hoD F₃ N₃ off₀ ⟨hCI, hDI, Ne.symm hDC⟩) (fun key s₄ h₄ => wpAny_mono h₄ (fun val s₅ h₅ => ?_) fun _ _ e => e) fun _ _ e => e
        obtain ⟨h₄, tk₄, kk, rfl, F₄, N₄, hkk, hJk⟩ := h₅
        have zI := (N₄ (I, oI) List.mem_cons_self).1
        have zC := (N₄ (H2.objs.size, oC) (List.mem_cons_of_mem _ List.mem_cons_self)).1
        have zD := (N₄ (s₂.heap.objs.size, oD) (List.mem_cons_of_mem _ (List.mem_cons_of_mem _ List.mem_cons_self))).1
        have N₄' : News h₀ L h₄ news := fun p hp => N₄ p (List.mem_cons_of_mem _ (List.mem_cons_of_mem _ (List.mem_cons_of_mem _ hp)))
        have hst₄ : St (i + 1) h₄ := hSt _ _ _ _ hst₃ heI zI F₃.keep (fun p hp => N₃ p (List.mem_cons_of_mem _ (List.mem_cons_of_mem _ (List.mem_cons_of_mem _ hp)))) F₄.keep N₄'
        refine wpAny_dictSet_pairs (hsz := hJs _ _ hJi) hkk (Heap.dictOf_iff.mpr ⟨oD, zD, hoD⟩) fun h₅ hD₅ hs₅ => ?_
        obtain ⟨oD₅, heD₅, hoD₅⟩ := Heap.dictOf_iff.mp hD₅
        refine ⟨n + 1 - (i + 1), by omega, h₅, _, i + 1, _, oD₅, _, rfl, hlt, rfl, hJk, hoD₅, W.frame _ _ _ hst₄ fun b hb o e => hs₅.extBut b o (fun q => hDf (q ▸ hb)) e, F₄.change hs₅ hDL hD₀,
          (hoC.ns zC).sameBut hs₅ (Ne.symm hDC), fun p hp => ?_⟩
        rcases List.mem_cons.mp hp with rfl | hp
        · exact ⟨heD₅, hDL, hD₀⟩
        · exact ⟨hs₅.extBut _ _ (off3 p hp).2.2 (N₄' p hp).1, (N₄' p hp).2⟩
      · obtain rfl : i = n := Nat.le_antisymm hi (Nat.not_lt.mp hlt)
        refine W.done _ _ _ hst' fun h₂ tk₂ hk₂ => ?_
        exact hRR _ oD _ h₂ tk₂ _ kv (LCg.fr_but F' hk₂ hIL hI₀) (LCg.news_but N' hk₂ fun p hp => by
          rcases List.mem_cons.mp hp with rfl | hp
          · exact Ne.symm hDI
          · exact (off3 p hp).1) off₀.one hoD hJi (hn'.at' fun o e => hk₂ _ o (by simpa using Ne.symm hCI) e) hC₀ hD₀ hCL hDL (Ne.symm hDC) (fun p hp => (off3 p hp).2.1) (Nat.le_refl _)
    · rcases List.mem_cons.mp hp with rfl | hp
      · exact ⟨heD₀, hDL, hD₀⟩
      · exact ⟨old _ _ (N p hp).1, (N p hp).2⟩
  exact codeAny_compStart_dict (loop _ rfl) (W.self 0 _ _ _ hst₁ (loop _ rfl))

/-- what the source of a dict comprehension over a dict must bring -/
def DSrc (knd : KeyKind prog w K) (A : Around) (h₀ : Heap) (L : Addr) (m : Str → Option Value) (env : Env) (kx vx : Expr) (x y : Str) (scope : Scope) (cl : List (Str × Addr)) (Q : Flow → Shared → Prop) (xv : Value) (s₁ : Shared) : Prop :=
  ∃ (d : Addr) (kvs : List (K × Value)) (ep : Nat) (news : List (Addr × Obj)) (J : Nat → List (K × Value) → Prop), xv = .ref d ∧ A.handled = none ∧ Fr h₀ L s₁.heap m ∧ News h₀ L s₁.heap news ∧ s₁.heap.DictAt knd d kvs ep ∧ (d == sysModules) = false ∧ Src h₀ news d ∧ J 0 [] ∧ (∀ i kv, J i kv → kv.length ≤ sizeLine) ∧
    (∀ i v g I oI C oC D oD m₂ kv h tk (E' : Value → Shared → Prop), i < kvs.length → (∃ k x, kvs[i]? = some (k, x) ∧ knd.is k v = true) → LCg.NsObj oC m₂ → m₂ x = some v → J i kv → oD.IsDictOf knd kv → Fr h₀ L h m → News h₀ L h ((I, oI) :: (C, oC) :: (D, oD) :: news) → LCg.Off3 I C D news → ((@Ne Nat I C) ∧ (@Ne Nat I D) ∧ (@Ne Nat C D)) →
      wpAny (model prog w) A (eval kx (compEnvC scope cl C env)) (fun key s₄ => wpAny (model prog w) A (eval vx (compEnvC scope cl C env)) (fun val s₅ => DEnd knd h₀ L m { s₁ with heap := g, toks := tk } ((I, oI) :: (C, oC) :: (D, oD) :: news) (fun k y => J (i + 1) (stored kv k y)) key val s₅) E' s₄) E' { s₁ with heap := h, toks := tk }) ∧
    (∀ D oD h tk kv, Fr h₀ L h (fun z => if z = y then some (.ref D) else m z) → News h₀ L h ((D, oD) :: news) → LCg.Off1 D news → oD.IsDictOf knd kv → J kvs.length kv → @LT.lt Nat _ h₀.objs.size D → Q .next { s₁ with heap := h, toks := tk })

theorem Assign_DictComp_keys (knd : KeyKind prog w K) {kx vx iter : Expr} {x y : Str} {px py : Pos} {scope : Scope} {cl : List (Str × Addr)} {pos spos : Pos} {Q : Flow → Shared → Prop} (F₀ : Fr h₀ L s.heap m) (hLe : env.locals = L)
    (hsw : swapsWith (.DictComp kx vx [⟨.Name x px, iter, [], 0⟩] scope pos) (some (.Name y py)) spos.line env = pure true)
    (hclos : closureFor scope env = pure cl) (hcell : ∀ z ∈ scope.names, z.2 ≠ .cell) (hkind : scope.kind = .function)
    (hnames : ∀ z ∈ scope.names, z.2 = .local → scope.names.lookup z.1 = some .local) (hx : scope.names.lookup x = some .local)
    (hy : env.kindOf y = some .local) (hp : (env.scope.kind == .class || (env.scope.kind == .module && env.locals != env.globals)) = false)
    (hs : ∀ x, foldedSetIterable iter env x = pure x)
    (h : wpAny (model prog w) A (eval iter env) (DSrc knd A h₀ L m env kx vx x y scope cl Q) E s) :
    wpAny (model prog w) A (exec (.Assign [.Name y py] (.DictComp kx vx [⟨.Name x px, iter, [], 0⟩] scope pos) spos) env) Q E s := by
  subst hLe
  rw [exec_Assign_Name_used _ _ _ _ hsw]
  refine wpAny_bind (wpAny_standAt (wpAny_bind ?_))
  show wpAny _ A (do let _ ← comprehension (.DictComp kx vx [⟨.Name x px, iter, [], 0⟩] scope pos) scope env _ newDict false (eval iter env) (some (assign (.Name y py) env))) _ _ s
  refine wpAny_bind (wpAny_mono (wpAny_comprehension_free (use := some (assign (.Name y py) env)) (Q := fun _ s' => Q .next s') rfl hs hclos hkind hnames
    (wpAny_mono h (fun xv s₁ h₁ => ?_) fun _ _ e => e)) (fun _ s' hq => wpAny_pure (wpAny_pure hq)) fun _ _ e => e)
  obtain ⟨d, kvs, ep, news, J, rfl, hh, F, N, hat, lo, hsrc, hJ, hJs, turn, fin⟩ := h₁
  have hlt : d < s₁.heap.objs.size := hat.lt_size
  have hne : d ≠ s₁.heap.objs.size := Nat.ne_of_lt hlt
  refine wpAny_pyIter_dict lo hat ?_
  refine dblock (knd := knd) (J := J) (news := news) (Walks.dictKeys (knd := knd) hh s₁.heap.objs.size d hne kvs ep) (fun i h st => by obtain ⟨o, e, _⟩ := st.1; exact ⟨o, e⟩) ?_ hcell hkind hx ⟨⟨_, Heap.get?_push_size _ rfl, rfl, rfl⟩, hat.push _⟩ (fun b hb => ?_)
      (F.push _) (N.grown fun _ _ e => Heap.get?_push_of_some _ e) (Nat.ne_of_lt F.ns.lt) (next_is_new F) (fun p hp => Nat.ne_of_lt (Heap.lt_size (N p hp).1)) hJ hJs ?_ ?_
  · intro i h h' o st e e' k1 N1 k' N'
    refine ⟨st.1.at fun o2 e2 => ?_, st.2.at' fun o2 e2 => ?_⟩
    · rw [e] at e2; rw [e']; exact e2
    · rcases hsrc with ⟨o3, e3⟩ | ⟨o3, hm3⟩
      · have := k1 _ _ e3; rw [this] at e2; cases e2; exact k' _ _ e3
      · have := (N1 _ hm3).1; rw [this] at e2; cases e2; exact (N' _ hm3).1
  · show b < (s₁.heap.push _).objs.size
    rw [Heap.size_push]
    rcases List.mem_cons.mp hb with rfl | hb
    · exact Nat.lt_succ_self _
    · rw [List.mem_singleton.mp hb]; exact Nat.lt_succ_of_lt hlt
  · intro i v I oI C oC D oD m₂ kv h tk E' hi hP
    exact turn i v _ I oI C oC D oD m₂ kv h tk E' hi hP
  · intro D oD C h tk m' kv F' N' o1 hoD hJn hn hC₀ hD₀ hCL hDL hCD offC hDs
    show wpAny _ A (assign (.Name y py) env (.ref D)) _ _ _
    refine wpAny_assign_Name (wpAny_storeName_local hy F'.ns (fun h₂ hn₂ hs₂ => ?_) hp)
    have hL₀ : h₀.get? env.locals = none := Heap.get?_none_of_le F'.above
    have F₂ : Fr h₀ env.locals h₂ (fun z => if z = y then some (.ref D) else m z) := ⟨hn₂, fun b o e => hs₂.extBut b o (fun q => by rw [q, hL₀] at e; cases e) (F'.keep b o e), F'.above⟩
    refine ⟨m', hn.sameBut hs₂ hCL, fun h'' hs'' => fin D oD h'' _ kv (F₂.change hs'' hCL hC₀) (fun p hp => ?_) o1 hoD hJn (Nat.lt_of_le_of_lt F.above (Nat.lt_of_lt_of_le F.ns.lt (Nat.le_trans (by show s₁.heap.objs.size ≤ (s₁.heap.push _).objs.size; rw [Heap.size_push]; exact Nat.le_succ _) hDs)))⟩
    have z : h₂.get? p.1 = some p.2 := hs₂.extBut _ _ (N' p hp).2.1 (N' p hp).1
    refine ⟨hs''.extBut _ _ ?_ z, (N' p hp).2⟩
    rcases List.mem_cons.mp hp with rfl | hp
    · exact Ne.symm hCD
    · exact offC p hp
end
end Mine
namespace Mine
theorem kf10 : PySem.Challenge.rw_xg0009_01 = PySem.Challenge.rw_xg0009_01 ∧ Mine.hd.heap_39 = Mine.hd.heap_39 := by
  k_fill; exact ⟨rfl, rfl⟩
/-- a table with each turn one later -/
def shG (c c' : List (Int × Int)) : List (Int × Int) := c'.foldl (fun acc p => kdfPut acc (p.1 + 1) (kdfLook c p.1 0)) []
def shiftF (c : List (Int × Int)) : List (Int × Int) := shG c c
theorem shG_snoc {c : List (Int × Int)} {i : Nat} {q : Int × Int} (h : c[i]? = some q) : shG c (c.take (i + 1)) = kdfPut (shG c (c.take i)) (q.1 + 1) (kdfLook c q.1 0) := by
  unfold shG
  rw [List.take_add_one, h, List.foldl_append]
  rfl
theorem shG_len (c c' : List (Int × Int)) : (shG c c').length ≤ c'.length := by
  have key : ∀ (c' : List (Int × Int)) acc, (c'.foldl (fun acc p => kdfPut acc (p.1 + 1) (kdfLook c p.1 0)) acc).length ≤ acc.length + c'.length := by
    intro c'
    induction c' with
    | nil => intro acc; exact Nat.le_refl _
    | cons q r ih =>
      intro acc
      rw [List.foldl_cons]
      have h1 := ih (kdfPut acc (q.1 + 1) (kdfLook c q.1 0))
      have h2 := kdfPut_len acc (q.1 + 1) (kdfLook c q.1 0)
      rw [List.length_cons]; omega
  have := key c' []
  simpa [shG] using this
theorem kdfHas_at {c : List (Int × Int)} {i : Nat} {q : Int × Int} (h : c[i]? = some q) : kdfHas c q.1 = true := by
  unfold kdfHas
  rw [List.any_eq_true]
  exact ⟨q, List.mem_of_getElem? h, by simp⟩
def tabStep (T : List (List (Int × Int))) (n : Nat) : List (List (Int × Int)) := T ++ [adc (shiftF (T.getD n [])) (cpc (T.getD (T.length - 1) []) [])]
def tabsF (ns : List Nat) : List (List (Int × Int)) := ns.foldl tabStep [[(1, 1)]]
theorem tabsF_snoc {ns : List Nat} {i n : Nat} (h : ns[i]? = some n) : tabsF (ns.take (i + 1)) = tabStep (tabsF (ns.take i)) n := by
  unfold tabsF
  rw [List.take_add_one, h, List.foldl_append]
  rfl
theorem tabsF_len (ns : List Nat) : (tabsF ns).length = ns.length + 1 := by
  have key : ∀ (ns : List Nat) T, (ns.foldl tabStep T).length = T.length + ns.length := by
    intro ns
    induction ns with
    | nil => intro T; rfl
    | cons n r ih => intro T; rw [List.foldl_cons, ih]; unfold tabStep; rw [List.length_append]; simp only [List.length_cons, List.length_nil]; omega
  rw [tabsF, key]
  simp only [List.length_cons, List.length_nil]; omega
section
local macro_rules | `(tactic| walk_at "mapoff") => `(tactic| (rintro z ⟨h1, h2, h3, h4, -⟩; simp only [mp, List.map_cons, List.map_nil, List.reverse_cons, List.reverse_nil, List.nil_append, List.cons_append, if_neg h1, if_neg h2, if_neg h3, if_neg h4]))
local macro_rules | `(tactic| k_all) => `(tactic| assumption)
variable {prog : Program} {w : World} {p : Program} {loose : List Str} {mean : ExcName → Option Value} {mg mb : Str → Option Value} {k : Nat} {A : Around} {s : Shared} {Q E : Value → Shared → Prop}
theorem perm3 {g h : Heap} {L : Addr} {a b c : Addr × Obj} (N : News g L h [a, b, c]) : News g L h [c, a, b] := fun p hp => N p (by
  simp only [List.mem_cons, List.not_mem_nil, or_false] at hp ⊢
  rcases hp with h | h | h <;> simp only [h, true_or, or_true])
/-- the tables, as they lie -/
structure TabsAre (prog : Program) (w : World) (tb : List (Addr × Obj)) (T : List (List (Int × Int))) : Prop where
  len : tb.length = T.length
  at' : ∀ (j : Nat) (q : Addr × Obj) (c : List (Int × Int)), tb[j]? = some q → T[j]? = some c → (q.1 == sysModules) = false ∧ ∃ kv, q.2.IsDictOf (intKind prog w) kv ∧ FlatPairs PyData.int kv (kdfD c)
set_option maxHeartbeats 4000000 in
theorem tables_spec {l : Addr} {vs : List Value} {xs : List Str} {ns : List Nat}
    (C : Cx w p loose mean mg mb (k + 2) A s.heap) (hL : s.heap.IsList l vs.toArray) (hS : StrsAre vs xs) (hcnt : ∀ (i : Nat) (x : Str), xs[i]? = some x → ∃ n, ns[i]? = some n ∧ Txt.count x (Str.ofString "\"") = (n : Int) ∧ n ≤ i) (hlen : ∀ (i : Nat), ∀ c ∈ tabsF (ns.take i), c.length ≤ 100) (hxl : xs.length ≤ 100) (hnl : ns.length = xs.length)
    (hret : ∀ l tb ep h' tk', Kp s.heap h' → s.heap.get? l = none → h'.get? l = some (listOf (tb.map fun q => Value.ref q.1).toArray ep) → (∀ q ∈ tb, h'.get? q.1 = some q.2 ∧ s.heap.get? q.1 = none ∧ q.1 ≠ l) → TabsAre prog w tb (tabsF ns) → Q (.ref l) { s with heap := h', toks := tk' }) :
    wpAny (model prog w) A (call (.ref 113) [.ref l]) Q E s := by
  refine enter_cell (ps := [(Str.ofString "told", some (.ref l))]) (cx := Str.ofString "left") (binds := [(Str.ofString "told", .ref l)]) C (by k_is) (by k_is) (fun _ => rfl) (fun _ => rfl) (fun _ => rfl) rfl rfl rfl rfl rfl ?_
  intro g L' h₁ tk₁ dp un gd env outer o kg F N hod X T cx
  have hL' : g.IsList l vs.toArray := by obtain ⟨o, e, r⟩ := hL; exact ⟨o, kg _ _ e, r⟩
  k_with_none
  k_with "exec For Name Name cons nil" => ((rename Fr _ _ _ _ => lF'); (with_unfolding_all refine For_turns lF' ?_))
  k_steps
  rename Fr _ _ _ _ => F1
  rename News _ _ _ _ => N1
  rename (h₁.objs.size == sysModules) = false => lo1
  rename Obj.IsDictOf (intKind prog w) _ _ => hi1
  rename FlatPairs PyData.int _ _ => hf1
  have N1' := perm3 N1
  refine iter_list (keep := []) rfl F1 N1' (by obtain ⟨o, e, r⟩ := hL'; exact ⟨o, F1.keep _ _ e, r⟩) (.inl (by obtain ⟨o, e, r⟩ := hL'; exact ⟨o, e⟩))
    (fun i m nw => ∃ oc lt tb ep v1 v2 cv, m = mp [(Str.ofString "tables", some (.ref lt)), (Str.ofString "name", v1), (Str.ofString "later", v2), (Str.ofString "told", some (.ref l))] ∧ nw = (L' + 1, oc) :: (lt, listOf (tb.map fun q => Value.ref q.1).toArray ep) :: tb ∧
      oc.data = .cell cv ∧ (∀ q ∈ tb, q.1 ≠ lt ∧ q.1 ≠ L' + 1) ∧ lt ≠ L' + 1 ∧ TabsAre prog w tb (tabsF (ns.take i))) ?_ ?_ ?_ ?_
  · with_unfolding_all refine ⟨o, _, [(_, _)], 0, _, _, _, mp_ext ⟨rfl, rfl, rfl, rfl, trivial⟩ ?_, rfl, hod, fun q hq => ?_, ?_, ?_⟩
    · walk_at "mapoff"
    · rw [List.mem_singleton.mp hq]
      rename h₁.objs.size < _ ∧ _ => hlt
      rename L' + 1 < h₁.objs.size => hlt2
      exact ⟨Nat.ne_of_lt hlt.1, Nat.ne_of_gt hlt2⟩
    · rename h₁.objs.size < _ ∧ _ => hlt
      exact Nat.ne_of_gt hlt.2
    · refine ⟨rfl, fun j q c h4 h5 => ?_⟩
      cases j with
      | zero => cases h4; cases h5; exact ⟨lo1, _, hi1, hf1⟩
      | succ j => cases h4
  · intro i m nw hJ p hp; exact nomatch hp
  · rintro i v hx m₁ news₁ h₁ tk₁ I oI ⟨oc, lt, tb, ep, v1, v2, cv, rfl, rfl, hoc, hoff, hlc, hTb⟩ F₁ N₁ off
    have hx' : vs[i]? = some v := by simpa using hx
    obtain ⟨x, t, hxx, rfl⟩ : ∃ x t, xs[i]? = some x ∧ v = .str x t := by obtain ⟨y, t, e1, e2⟩ := hS.item i v hx'; exact ⟨y, t, e2, e1⟩
    obtain ⟨n, hn, hct, hni⟩ := hcnt i x hxx
    have hil : i < xs.length := (List.getElem?_eq_some_iff.mp hxx).1
    have hTl : (tabsF (ns.take i)).length = i + 1 := by rw [tabsF_len, List.length_take]; omega
    obtain ⟨q, hq⟩ : ∃ q, tb[n]? = some q := ⟨tb[n]'(by rw [hTb.len]; omega), List.getElem?_eq_getElem _⟩
    obtain ⟨c, hc⟩ : ∃ c, (tabsF (ns.take i))[n]? = some c := ⟨(tabsF (ns.take i))[n]'(by omega), List.getElem?_eq_getElem _⟩
    obtain ⟨qa, qo⟩ := q
    obtain ⟨lo, kv, hqo, hfq⟩ := hTb.at' n _ c hq hc
    k_with_none
    k_with "subscriptTail" => (rw [hct]; refine Hold.out ?_)
    k_with "exec Assign cons DictComp" => (refine Hold.out ?_)
    k_steps
    unfold Hold
    rename Fr _ _ _ _ => F2
    rename News _ _ _ _ => N2
    refine item_listR (x := .ref qa) (News.isList N2 (.tail _ (.tail _ (.head _)))) (by omega) (by omega) (by simp [hq]) ?_ (by with_unfolding_all rfl)
    have htC : ∀ q ∈ tb, q.1 ≠ L' + 1 := fun q hq => (hoff q hq).2
    have htT : ∀ q ∈ tb, q.1 ≠ lt := fun q hq => (hoff q hq).1
    have neCI : @Ne Nat (L' + 1) I := off _ List.mem_cons_self
    have neTI : @Ne Nat lt I := off _ (List.mem_cons_of_mem _ List.mem_cons_self)
    have neTC : @Ne Nat lt (L' + 1) := hlc
    k_steps
    unfold Hold
    rename Fr _ _ _ _ => F3
    rename News _ _ _ _ => N3
    rename _ = Data.cell (some (Value.ref qa)) => hcq
    rename Obj => oc2
    have hqm : (qa, qo) ∈ tb := List.mem_of_getElem? hq
    have hcl : c.length ≤ 100 := hlen i c (List.mem_of_getElem? hc)
    refine Assign_DictComp_keys (intKind prog w) F3 rfl (by with_unfolding_all rfl) (by with_unfolding_all rfl) (by decide) (by with_unfolding_all rfl) (by decide) (by with_unfolding_all rfl) (by with_unfolding_all rfl) (by with_unfolding_all rfl) (by intro _; with_unfolding_all rfl) ?_
    k_steps
    rename Fr _ _ _ _ => F4
    rename News _ _ _ _ => N4
    obtain ⟨ep', hat⟩ := (Heap.dictOf_iff.mpr ⟨qo, (N4 (qa, qo) (.tail _ (.tail _ (.tail _ hqm)))).1, hqo⟩ : Heap.DictOf (intKind prog w) _ qa kv).dictAt
    have hkl := ints_len hfq
    refine ⟨qa, kv, ep', _, fun j kd => FlatPairs PyData.int kd (kdfD (shG c (c.take j))) ∧ j ≤ 100, rfl, rfl, F4, N4, hat, lo, .inr ⟨qo, .tail _ (.tail _ (.tail _ hqm))⟩, ⟨.nil, Nat.zero_le _⟩, ?_, ?_, ?_⟩
    · rintro j kd ⟨hf, hj⟩
      have h1 := ints_len hf
      have h2 := shG_len c (c.take j)
      have h3 : (c.take j).length ≤ j := by rw [List.length_take]; omega
      have h4 : kd.length ≤ 100 := by omega
      exact Nat.le_trans h4 (by size_fits)
    · rintro j v g2 I2 oI2 C2 oC2 D2 oD2 m₂ kd h2 tk2 E' hj ⟨kk, xx, hkx, hkis⟩ hC2 hm2 ⟨hJ, hj1⟩ hoD F5 N5 off5 ne5
      obtain ⟨p2, t2, hp2, rfl, rfl⟩ := ints_at hfq hkx
      obtain ⟨tk3, rfl⟩ := Value.isInt_shape hkis
      k_with_none
      k_with "subscriptTail" => (refine Hold.out ?_)
      k_steps
      unfold Hold
      have T3 : IntTab prog w h2 qa (kdfD c) := ⟨lo, kv, Heap.dictOf_iff.mpr ⟨qo, (N5 _ (.tail _ (.tail _ (.tail _ (.tail _ (.tail _ (.tail _ hqm))))))).1, hqo⟩, hfq⟩
      refine item_intTab T3 (kdfD_item (kdfHas_at hp2)) ?_ (by with_unfolding_all rfl) (by intro _; with_unfolding_all rfl)
      intro v3 hv3
      obtain ⟨tv3, rfl⟩ := PyProof.V.Flat.int_inv hv3
      refine DEnd.intro F5 N5 (intKind_is prog w _ _) ⟨?_, by omega⟩
      rw [shG_snoc hp2, ← kdfD_put]
      exact hJ.stored PyProof.V.same_int _ (by k_flat)
    · rintro D2 oD2 h2 tk2 kd F5 N5 off5 hoD ⟨hJ, -⟩ hD2s
      have loD : (D2 == sysModules) = false := beq_eq_false_iff_ne.mpr (Nat.ne_of_gt (Nat.lt_trans (modules_low T.nolimit) hD2s))
      rw [hkl, List.take_length] at hJ
      have hsl := shG_len c c
      obtain ⟨q2, hq2⟩ : ∃ q2, tb[i]? = some q2 := ⟨tb[i]'(by rw [hTb.len]; omega), List.getElem?_eq_getElem _⟩
      obtain ⟨c2, hc2⟩ : ∃ c2, (tabsF (ns.take i))[i]? = some c2 := ⟨(tabsF (ns.take i))[i]'(by omega), List.getElem?_eq_getElem _⟩
      obtain ⟨q2a, q2o⟩ := q2
      have hq2m : (q2a, q2o) ∈ tb := List.mem_of_getElem? hq2
      have hcl2 : c2.length ≤ 100 := hlen i c2 (List.mem_of_getElem? hc2)
      obtain ⟨lo2, kv2, hq2o, hfq2⟩ := hTb.at' i _ c2 hq2 hc2
      k_with_none
      k_with "subscriptTail" => (refine Hold.out ?_)
      k_with "call ref" => (refine Hold.out ?_)
      k_steps
      unfold Hold
      refine kde_neg (vs := tb.map fun q => Value.ref q.1) (j := i) (v := .ref q2a) (News.isList N5 (.tail _ (.tail _ (.tail _ (.head _))))) (by decide) (by decide) ?_ (by simp [hq2]) ?_ (by with_unfolding_all rfl)
      · rw [List.length_map, hTb.len, hTl]
        unfold seqIndex?
        simp only [show (-1 : Int) < 0 by decide, if_true]
        rw [if_pos (by simp only [Bool.and_eq_true, decide_eq_true_eq]; omega)]
        congr 1
        omega
      k_steps
      unfold Hold
      have T5 : IntTab prog w h2 q2a (kdfD c2) := ⟨lo2, kv2, Heap.dictOf_iff.mpr ⟨q2o, (N5 _ (.tail _ (.tail _ (.tail _ (.tail _ hq2m))))).1, hq2o⟩, hfq2⟩
      have T6 : IntTab prog w h2 D2 (kdfD (shG c c)) := ⟨loD, kd, Heap.dictOf_iff.mpr ⟨oD2, (N5 _ (.head _)).1, hoD⟩, hJ⟩
      have hN5' := N5
      have F6 := F5
      refine add_callers_spec (cx _ _ F5) T5 T6 (by omega) ?_
      intro r h7 tk7 hk7 hr7 hT7
      replace F5 := F5.keeps hk7
      replace N5 := N5.grown hk7
      obtain ⟨lor, kvr, hDr, hfr⟩ := hT7
      obtain ⟨or, hor, hdr⟩ := Heap.dictOf_iff.mp hDr
      have ner : ∀ p ∈ (D2, oD2) :: (I, oI) :: (L' + 1, _) :: (lt, _) :: tb, p.1 ≠ r := fun p hp e => by
        have := (hN5' p hp).1
        rw [e, hr7] at this; cases this
      have neDT : @Ne Nat lt D2 := off5.2.2.1
      have neDC : @Ne Nat (L' + 1) D2 := off5.2.1
      have neDI : @Ne Nat I D2 := off5.1
      have htT' : ∀ q ∈ tb ++ [(r, or)], q.1 ≠ lt := fun q hq => by
        rcases List.mem_append.mp hq with hq | hq
        · exact htT q hq
        · rw [List.mem_singleton.mp hq]; exact Ne.symm (ner _ (.tail _ (.tail _ (.tail _ (.head _)))))
      have htC' : ∀ q ∈ tb ++ [(r, or)], q.1 ≠ L' + 1 := fun q hq => by
        rcases List.mem_append.mp hq with hq | hq
        · exact htC q hq
        · rw [List.mem_singleton.mp hq]; exact Ne.symm (ner _ (.tail _ (.tail _ (.head _))))
      have N6 : News g L' h7 ((D2, oD2) :: (I, oI) :: (L' + 1, oc2) :: (lt, listOf (tb.map fun q => Value.ref q.1).toArray ep) :: (tb ++ [(r, or)])) := fun p hp => by
        by_cases hp' : p ∈ (r, or) :: (D2, oD2) :: (I, oI) :: (L' + 1, oc2) :: (lt, listOf (tb.map fun q => Value.ref q.1).toArray ep) :: tb
        · rcases List.mem_cons.mp hp' with rfl | hp'
          · refine ⟨hor, fun e => ?_, ?_⟩
            · subst e
              obtain ⟨o5, _, _, e5, _⟩ := F6.ns
              rw [e5] at hr7; cases hr7
            · cases e5 : g.get? r with
              | none => rfl
              | some o5 => have := F6.keep _ _ e5; rw [this] at hr7; cases hr7
          · exact N5 p hp'
        · exfalso
          refine hp' ?_
          simp only [List.mem_cons, List.mem_append, List.not_mem_nil, or_false] at hp ⊢
          rcases hp with h | h | h | h | h | h <;> simp only [h, true_or, or_true]
      clear N5
      k_with_none
      k_steps
      refine append_K F5 N6 (.tail (Ne.symm neDT) (.tail (Ne.symm neTI) (.tail (Ne.symm neTC) (.head htT')))) ?_ ?_
      rotate_left
      · rw [List.size_toArray, List.length_map, hTb.len, hTl]
        exact Nat.le_trans (show i + 1 ≤ 101 by omega) (by size_fits)
      intro h8 F8 N8
      k_steps
      refine TurnEnd.intro ((L' + 1, oc2) :: (lt, listOf ((tb ++ [(r, or)]).map fun q => Value.ref q.1).toArray (ep + 1)) :: (tb ++ [(r, or)])) F8 N8 (.tail _ (.head _)) (fun p hp => List.mem_cons_of_mem _ (List.mem_cons_of_mem _ (by rw [List.map_append] at hp; simpa using hp))) (fun p hp => ?_) ?_
      · rcases List.mem_cons.mp hp with rfl | hp
        · exact neCI
        · rcases List.mem_cons.mp hp with rfl | hp
          · exact neTI
          · rcases List.mem_append.mp hp with hp | hp
            · exact off p (.tail _ (.tail _ hp))
            · rw [List.mem_singleton.mp hp]; exact Ne.symm (ner _ (.tail _ (.head _)))
      with_unfolding_all refine ⟨oc2, lt, tb ++ [(r, or)], ep + 1, _, _, _, mp_ext ⟨rfl, rfl, rfl, rfl, trivial⟩ ?_, rfl, hcq, fun q hq => ⟨htT' q hq, htC' q hq⟩, hlc, ?_⟩
      · walk_at "mapoff"
      · rw [tabsF_snoc hn]
        unfold tabStep
        have e1 : (tabsF (ns.take i)).getD n [] = c := by rw [List.getD_eq_getElem?_getD, hc]; rfl
        have e2 : (tabsF (ns.take i)).getD ((tabsF (ns.take i)).length - 1) [] = c2 := by rw [List.getD_eq_getElem?_getD, hTl, Nat.add_sub_cancel, hc2]; rfl
        rw [e1, e2]
        refine ⟨by rw [List.length_append, List.length_append, hTb.len]; rfl, fun j q4 c4 h4 h5 => ?_⟩
        rcases Nat.lt_trichotomy j tb.length with hlt | heq | hgt
        · rw [List.getElem?_append_left hlt] at h4
          rw [List.getElem?_append_left (by rw [← hTb.len]; exact hlt)] at h5
          exact hTb.at' j q4 c4 h4 h5
        · subst heq
          rw [List.getElem?_append_right (Nat.le_refl _), Nat.sub_self] at h4
          rw [List.getElem?_append_right (by rw [hTb.len]; exact Nat.le_refl _), hTb.len, Nat.sub_self] at h5
          cases h4; cases h5
          exact ⟨lor, kvr, hdr, hfr⟩
        · have : (tb ++ [(r, or)]).length ≤ j := by rw [List.length_append]; exact hgt
          rw [List.getElem?_eq_none this] at h4; cases h4
  · rintro h tk m nw ⟨oc, lt, tb, ep, v1, v2, cv, rfl, rfl, hoc, hoff, hlc, hTb⟩ F₁ N₁
    k_with_none
    k_steps
    have hs1 : vs.toArray.size = ns.length := by rw [List.size_toArray, hS.len_eq, hnl]
    rw [hs1, List.take_length] at hTb
    refine Back.intro F₁ (hret lt tb ep _ _ (frKp F₁ kg) ?_ (N₁ _ (.tail _ (.head _))).1 (fun q hq => ⟨(N₁ q (.tail _ (.tail _ hq))).1, ?_, (hoff q hq).1⟩) hTb)
    · cases e1 : s.heap.get? lt with
      | none => rfl
      | some o9 => have := (N₁ _ (.tail _ (.head _))).2.2; rw [kg _ _ e1] at this; cases this
    · cases e1 : s.heap.get? q.1 with
      | none => rfl
      | some o9 => have := (N₁ q (.tail _ (.tail _ hq))).2.2; rw [kg _ _ e1] at this; cases this
end
end Mine
namespace Mine
theorem kf11 : PySem.Challenge.rw_xg0009_01 = PySem.Challenge.rw_xg0009_01 ∧ Mine.hd.heap_39 = Mine.hd.heap_39 := by
  k_fill; exact ⟨rfl, rfl⟩
section
variable {prog : Program} {w : World} {A : Around} {h₀ : Heap} {L : Addr} {m : Str → Option Value} {env : Env} {elt : PySem.Expr} {x : Str} {scope : Scope} {cl : List (Str × Addr)} {s : Shared} {S : List (Addr × Obj) → Prop} {P : Nat → Value → Prop} {Fin : List Value → List (Addr × Obj) → Prop} {news : List (Addr × Obj)}
/-- a list comprehension whose elements may add to the ledger -/
theorem comp_inv {n : Nat} (J : Nat → List Value → List (Addr × Obj) → Prop) (h0 : J 0 [] news)
    (turn : ∀ i v ys nw I oI C oC D m₂ h tk (E' : Value → Shared → Prop), i < n → P i v → J i ys nw → LCg.NsObj oC m₂ → m₂ x = some v → Fr h₀ L h m → News h₀ L h ((I, oI) :: (C, oC) :: (D, LCg.lst ys) :: nw) → LCg.Off3 I C D nw → ((@Ne Nat I C) ∧ (@Ne Nat I D) ∧ (@Ne Nat C D)) →
      wpAny (model prog w) A (eval elt (compEnvC scope cl C env)) (LCg.CompEnd h₀ L m { s with heap := h, toks := tk } I oI C oC D (LCg.lst ys) S (fun y news' => J (i + 1) (ys ++ [y]) news')) E' { s with heap := h, toks := tk })
    (fin : ∀ ys nw, J n ys nw → Fin ys nw) : LCg.CompRest prog w A h₀ L m env elt x scope cl s S P Fin n 0 [] news := by
  have key : ∀ (j i : Nat) (ys : List Value) nw, i + j = n → J i ys nw → LCg.CompRest prog w A h₀ L m env elt x scope cl s S P Fin j i ys nw := by
    intro j
    induction j with
    | zero =>
      intro i ys nw hi hJ
      have : i = n := by omega
      subst this
      exact LCg.CompRest.zero (fin ys nw hJ)
    | succ j ih =>
      intro i ys nw hi hJ
      refine LCg.CompRest.succ ?_
      intro v I oI C oC D m₂ h tk E' hv hC hx F N off ne
      refine wpAny_mono (turn i v ys nw I oI C oC D m₂ h tk E' (by omega) hv hJ hC hx F N off ne) (fun y s₂ hq => ?_) fun _ _ e => e
      obtain ⟨h', tk', nw', e, F', N', off', hS, hG⟩ := hq
      exact ⟨h', tk', nw', e, F', N', off', hS, ih (i + 1) _ nw' (by omega) hG⟩
  exact key n 0 [] news (by omega) h0
theorem newsSub {h : Heap} {l l' : List (Addr × Obj)} (N : News h₀ L h l) (h' : ∀ p ∈ l', p ∈ l) : News h₀ L h l' := fun p hp => N p (h' p hp)
end
theorem allLt_mem {d : Addr} : ∀ {l : List (Addr × Obj)}, AllLt d l → ∀ p ∈ l, @LT.lt Nat _ p.1 d
  | [], _, _, h => nomatch h
  | _ :: _, x, p, h => by
    rcases List.mem_cons.mp h with rfl | h
    · exact x.1
    · exact allLt_mem x.2 p h
theorem TabsAre.snoc {prog : Program} {w : World} {tb : List (Addr × Obj)} {T : List (List (Int × Int))} {a : Addr} {o : Obj} {kv : List (Int × Value)} {c : List (Int × Int)} (h : TabsAre prog w tb T) (lo : (a == sysModules) = false) (ho : o.IsDictOf (intKind prog w) kv) (hf : FlatPairs PyData.int kv (kdfD c)) : TabsAre prog w (tb ++ [(a, o)]) (T ++ [c]) := by
  refine ⟨by rw [List.length_append, List.length_append, h.len]; rfl, fun j q4 c4 h4 h5 => ?_⟩
  rcases Nat.lt_trichotomy j tb.length with hlt | heq | hgt
  · rw [List.getElem?_append_left hlt] at h4
    rw [List.getElem?_append_left (by rw [← h.len]; exact hlt)] at h5
    exact h.at' j q4 c4 h4 h5
  · subst heq
    rw [List.getElem?_append_right (Nat.le_refl _), Nat.sub_self] at h4
    rw [List.getElem?_append_right (by rw [h.len]; exact Nat.le_refl _), h.len, Nat.sub_self] at h5
    cases h4; cases h5
    exact ⟨lo, kv, ho, hf⟩
  · have : (tb ++ [(a, o)]).length ≤ j := by rw [List.length_append]; exact hgt
    rw [List.getElem?_eq_none this] at h4; cases h4
theorem frRe {h₀ h : Heap} {L : Addr} {m m' : Str → Option Value} (e : m = m') (F : Fr h₀ L h m) : Fr h₀ L h m' := e ▸ F
theorem off1_mem {D : Addr} : ∀ {l : List (Addr × Obj)}, LCg.Off1 D l → ∀ p ∈ l, p.1 ≠ D
  | [], _, _, h => nomatch h
  | _ :: _, x, p, h => by
    rcases List.mem_cons.mp h with rfl | h
    · exact x.1
    · exact off1_mem x.2 p h
theorem updF_at {d : Addr} {o : Obj} : ∀ {tb : List (Addr × Obj)} {j : Nat}, tb[j]? = some (d, o) → (tb.map Prod.fst).Nodup → UpdF d o tb (fun o' => tb.set j (d, o'))
  | [], _, h, _ => by cases h
  | p :: r, 0, h, hn => by
    cases h
    refine .head fun q hq e => ?_
    have := (List.nodup_cons.mp hn).1
    exact this (show d ∈ _ from by rw [← e]; exact List.mem_map_of_mem (f := Prod.fst) hq)
  | p :: r, j + 1, h, hn => by
    have h' : r[j]? = some (d, o) := h
    refine .tail (fun e => ?_) (updF_at h' (List.nodup_cons.mp hn).2)
    exact (List.nodup_cons.mp hn).1 (e ▸ List.mem_map_of_mem (f := Prod.fst) (List.mem_of_getElem? h'))
theorem set_map {α : Type} {tb : List (Addr × Obj)} {j : Nat} {a : Addr} {o o' : Obj} (f : Addr × Obj → α) (hq : tb[j]? = some (a, o)) (hf : f (a, o') = f (a, o)) : (tb.set j (a, o')).map f = tb.map f := by
  rw [List.map_set, hf]
  refine List.ext_getElem? fun i => ?_
  by_cases e : j = i
  · subst e
    have hl : j < (tb.map f).length := by rw [List.length_map]; exact (List.getElem?_eq_some_iff.mp hq).1
    rw [List.getElem?_set_self hl, List.getElem?_map, hq]; rfl
  · rw [List.getElem?_set_ne e]
theorem TabsAre.set {prog : Program} {w : World} {tb : List (Addr × Obj)} {T : List (List (Int × Int))} {j : Nat} {a : Addr} {o o' : Obj} {kv : List (Int × Value)} {c : List (Int × Int)} (h : TabsAre prog w tb T) (hq : tb[j]? = some (a, o)) (lo : (a == sysModules) = false) (ho : o'.IsDictOf (intKind prog w) kv) (hf : FlatPairs PyData.int kv (kdfD c)) : TabsAre prog w (tb.set j (a, o')) (T.set j c) := by
  refine ⟨by rw [List.length_set, List.length_set, h.len], fun i q4 c4 h4 h5 => ?_⟩
  have hl : j < tb.length := (List.getElem?_eq_some_iff.mp hq).1
  by_cases e : j = i
  · subst e
    rw [List.getElem?_set_self hl] at h4
    rw [List.getElem?_set_self (h.len ▸ hl)] at h5
    cases h4; cases h5
    exact ⟨lo, kv, ho, hf⟩
  · rw [List.getElem?_set_ne e] at h4 h5
    exact h.at' i q4 c4 h4 h5
def rowStep (part : Nat) (R : List Int) (i : Nat) : List Int := R.set (part + i) (R.getD (part + i) 0 + R.getD i 0)
def rowF (part cnt : Nat) (R : List Int) : List Int := (List.range cnt).foldl (rowStep part) R
def dueStep (turns lo : Nat) (R B : List Int) (D : List (List (Int × Int))) (i : Nat) : List (List (Int × Int)) :=
  if 0 < R.getD (2 * (lo + i) + 1) 0 - B.getD (2 * (lo + i) + 1) 0 then D.set (lo + i) (kdfPut (D.getD (lo + i) []) turns (R.getD (2 * (lo + i) + 1) 0 - B.getD (2 * (lo + i) + 1) 0)) else D
def dueF (turns lo cnt : Nat) (R B : List Int) (D : List (List (Int × Int))) : List (List (Int × Int)) := (List.range cnt).foldl (dueStep turns lo R B) D
def powF (hf : Nat) : Nat → Nat → Nat → List Int → List (List (Int × Int)) → List Int × List (List (Int × Int))
  | 0, _, _, R, D => (R, D)
  | n + 1, turns, part, R, D => if part ≤ 2 * hf + 1 then powF hf n (turns + 1) (part * 2) (rowF part (2 * hf + 2 - part) R) (dueF turns ((part - 1) / 2) (hf + 1 - (part - 1) / 2) (rowF part (2 * hf + 2 - part) R) R D) else (R, D)
/-- objects that a call has made -/
def NewAt (h h' : Heap) (led : List (Addr × Obj)) : Prop := ∀ p ∈ led, h'.get? p.1 = some p.2 ∧ h.get? p.1 = none
theorem NewAt.of {g h h' : Heap} {L : Addr} {led : List (Addr × Obj)} (N : News g L h' led) (k : Kp h g) : NewAt h h' led := fun p hp => ⟨(N p hp).1, by
  cases e1 : h.get? p.1 with
  | none => rfl
  | some o9 => have := (N p hp).2.2; rw [k _ _ e1] at this; cases this⟩
theorem pick5 {g h : Heap} {L : Addr} {a b c d e : Addr × Obj} {tb : List (Addr × Obj)} (N : News g L h (a :: b :: c :: d :: e :: tb)) : News g L h (a :: e :: b :: tb) := newsSub N (fun p hp => by
  simp only [List.mem_cons] at hp ⊢
  rcases hp with h | h | h | h <;> simp only [h, true_or, or_true])
def row0 (hf : Nat) : List Int := 1 :: List.replicate (2 * hf + 1) 0
def powR (hf : Nat) : List Int × List (List (Int × Int)) := powF hf 7 1 1 (row0 hf) (List.replicate (hf + 1) [])
section
local macro_rules | `(tactic| walk_at "mapoff") => `(tactic| (rintro z ⟨h1, h2, h3, h4, h5, h6, h7, h8, -⟩; simp only [mp, List.map_cons, List.map_nil, List.reverse_cons, List.reverse_nil, List.nil_append, List.cons_append, if_neg h1, if_neg h2, if_neg h3, if_neg h4, if_neg h5, if_neg h6, if_neg h7, if_neg h8]))
local macro_rules | `(tactic| k_all) => `(tactic| assumption)
variable {prog : Program} {w : World} {p : Program} {loose : List Str} {mean : ExcName → Option Value} {mg mb : Str → Option Value} {k : Nat} {A : Around} {s : Shared} {Q E : Value → Shared → Prop}
set_option maxHeartbeats 4000000 in
theorem powers_spec {hf : Nat} {t : Tok}
    (C : Cx w p loose mean mg mb (k + 2) A s.heap) (hn2 : hf ≤ 30)
    (hret : ∀ l dA wA tb ys e2 h' tk', Kp s.heap h' → NewAt s.heap h' ((l, { cls := .type "tuple", data := .seq #[.ref dA, .ref wA] }) :: (dA, listOf (tb.map fun q => Value.ref q.1).toArray e2) :: (wA, LCg.lst ys) :: tb) → TabsAre prog w tb (powR hf).2 →
      IntsAre ys ((rangeKs 0 ((hf : Int) + 1 - 0).toNat).map fun k' => (powR hf).1.getD (2 * k' + 1).toNat 0) → Q (.ref l) { s with heap := h', toks := tk' }) :
    wpAny (model prog w) A (call (.ref 118) [.int ((2 * hf : Nat) : Int) t]) Q E s := by
  refine enter_cell (ps := [(Str.ofString "great", some (.int ((2 * hf : Nat) : Int) t))]) (cx := Str.ofString "row") (binds := [(Str.ofString "great", .int ((2 * hf : Nat) : Int) t)]) C (by k_is) (by k_is) (fun _ => rfl) (fun _ => rfl) (fun _ => rfl) rfl rfl rfl rfl rfl ?_
  intro g L' h₁ tk₁ dp un gd env outer o kg F N hod X T cx
  have hfd : Int.fdiv ((2 * hf : Nat) : Int) 2 = hf := by rw [Int.fdiv_eq_ediv_of_nonneg _ (by decide)]; omega
  k_with_none
  k_with "CompSrc" => (refine Hold.out ?_)
  k_steps
  unfold Hold
  rename IsRange _ _ _ _ 1 _ _ _ => hr
  rename Fr _ _ _ _ => F1
  rename News _ _ _ _ => N1
  rename IntsAre _ ([1] ++ _) => hI1
  rename _ = Data.cell (some _) => hc1
  rw [hfd] at hr
  have e9 : ([1] ++ (List.replicate (((2 * hf : Nat) : Int) + 1).toNat [(0 : Int)]).flatten) = row0 hf := by
    rw [show (((2 * hf : Nat) : Int) + 1).toNat = 2 * hf + 1 by omega, row0]
    simp
  rw [e9] at hI1
  obtain ⟨rA, oc, vs, hI1, hc1, N1, hrC⟩ : ∃ (rA : Addr) (oc : Obj) (vs : List Value), IntsAre vs (row0 hf) ∧ oc.data = .cell (some (.ref rA)) ∧ News g L' _ [(rA, listOf vs.toArray 0), (L' + 1, oc)] ∧ @Ne Nat rA (L' + 1) := by
    refine ⟨_, _, _, hI1, hc1, newsSub N1 (fun p hp => ?_), ?_⟩
    · rcases List.mem_cons.mp hp with rfl | hp
      · exact .head _
      · rw [List.mem_singleton.mp hp]; exact .tail _ (.tail _ (.tail _ (.tail _ (.head _))))
    · rename _ < _ ∧ _ ∧ _ ∧ _ => l9
      exact Nat.ne_of_gt l9.2.2.2
  refine LCg.CompSrc.range (n := hf + 1) rfl F1 N1 hr ?_ ?_ ?_ ?_
  · have : ∀ h ≤ 30, Builtin.Range.small 0 ((h : Nat) + 1 : Int) 1 = true := by decide
    exact this hf hn2
  · have : ∀ h ≤ 30, Builtin.Range.rangeSize 0 ((h : Nat) + 1 : Int) 1 = ((h + 1 : Nat) : Int) := by decide
    exact this hf hn2
  · exact Nat.le_trans (show hf + 1 ≤ 31 by omega) (by size_fits)
  · intro g2
    refine comp_inv (fun i ys nw => ∃ tb : List (Addr × Obj), nw = _ :: _ :: tb ∧ ys = tb.map (fun q => Value.ref q.1) ∧ TabsAre prog w tb (List.replicate i []) ∧ (∀ q ∈ tb, q.1 ≠ rA ∧ q.1 ≠ L' + 1) ∧ (tb.map Prod.fst).Nodup) ⟨[], rfl, rfl, ⟨rfl, fun j q c h => by cases h⟩, (fun q hq => nomatch hq), List.nodup_nil⟩ ?_ ?_
    · rintro i v ys nw I2 oI2 C2 oC2 D2 m₂ h2 tk2 E' hi hP ⟨tb, rfl, rfl, hTb, hoff, hnd⟩ hC2 hm2 F2 N2 off2 ne2
      k_with_none
      k_steps
      rename Obj.IsDictOf (intKind prog w) _ [] => hdi
      rename (_ == sysModules) = false => lod
      rename Obj => on
      rename _ < _ ∧ _ ∧ _ ∧ _ ∧ _ ∧ AllLt _ tb => l1
      rename Fr _ _ _ _ => F3
      rename News _ _ _ _ => N3
      have hlt : ∀ q ∈ tb, @LT.lt Nat _ q.1 _ := allLt_mem l1.2.2.2.2.2
      refine LCg.CompEnd.intro F3 N3 (_ :: _ :: (tb ++ [(_, on)])) (fun p hp => ?_) ⟨off2.1, off2.2.1, LCg.Off3.of fun p hp => ?_⟩ trivial ⟨tb ++ [(_, on)], rfl, by rw [List.map_append]; rfl, ?_, fun q hq => ?_, ?_⟩
      · simp only [List.mem_cons, List.mem_append, List.not_mem_nil, or_false] at hp ⊢
        rcases hp with h | h | h | h | h | h | h <;> simp only [h, true_or, or_true]
      · rcases List.mem_append.mp hp with hp | hp
        · exact LCg.Off3.mem off2.2.2 p hp
        · rw [List.mem_singleton.mp hp]
          exact ⟨Nat.ne_of_gt l1.1, Nat.ne_of_gt l1.2.1, Nat.ne_of_gt l1.2.2.1⟩
      · rw [List.replicate_succ']
        exact hTb.snoc lod hdi .nil
      · rcases List.mem_append.mp hq with hq | hq
        · exact hoff q hq
        · rw [List.mem_singleton.mp hq]
          exact ⟨Nat.ne_of_gt l1.2.2.2.1, Nat.ne_of_gt l1.2.2.2.2.1⟩
      · rw [List.map_append]
        refine List.nodup_append.mpr ⟨hnd, List.pairwise_singleton _ _, fun a ha b hb => ?_⟩
        obtain ⟨q, hq, rfl⟩ := List.mem_map.mp ha
        have hb' : b = _ := List.mem_singleton.mp hb
        rw [hb']
        exact Nat.ne_of_lt (hlt q hq)
    · rintro ys nw ⟨tb, rfl, rfl, hTb, hoff, hnd⟩
      k_with_none
      k_with "exec While Compare cons nil" => (refine Hold.out ?_)
      k_steps
      unfold Hold
      rename Fr _ _ _ _ => F2
      rename News _ _ _ _ => N2
      rename _ ∧ _ ∧ LCg.Off1 _ tb => o1
      obtain ⟨dA, t1, t2, o1, F2, N2⟩ : ∃ (dA : Addr) (t1 t2 : Tok), (@Ne Nat rA dA ∧ @Ne Nat (L' + 1) dA ∧ LCg.Off1 dA tb) ∧ Fr g L' _ (mp [(Str.ofString "great", some (.int ((2 * hf : Nat) : Int) t)), (Str.ofString "due", some (.ref dA)), (Str.ofString "turns", some (.int 1 t1)), (Str.ofString "part", some (.int 1 t2)), (Str.ofString "before", none), (Str.ofString "size", none), (Str.ofString "half", none), (Str.ofString "more", none)]) ∧
          News g L' _ ((L' + 1, oc) :: (rA, listOf vs.toArray 0) :: (dA, listOf (tb.map fun q => Value.ref q.1).toArray (tb.map fun q => Value.ref q.1).length) :: tb) := by
        with_unfolding_all refine ⟨_, _, _, o1, frRe (mp_ext ⟨rfl, rfl, rfl, rfl, rfl, rfl, rfl, rfl, trivial⟩ ?_) F2, newsSub N2 (fun p hp => ?_)⟩
        · walk_at "mapoff"
        · simp only [List.mem_cons] at hp ⊢
          rcases hp with h | h | h | h <;> simp only [h, true_or, or_true]
      have hdA : ∀ q ∈ tb, q.1 ≠ dA := off1_mem o1.2.2
      obtain ⟨as, has⟩ : ∃ as, as = tb.map Prod.fst := ⟨_, rfl⟩
      rw [← has] at hnd
      have hoffA : ∀ a ∈ as, a ≠ rA ∧ a ≠ L' + 1 ∧ a ≠ dA := fun a ha => by
        rw [has] at ha
        obtain ⟨q, hq, rfl⟩ := List.mem_map.mp ha
        exact ⟨(hoff q hq).1, (hoff q hq).2, hdA q hq⟩
      have hasl : as.length = hf + 1 := by rw [has, List.length_map, hTb.len, List.length_replicate]
      refine While_inv2 (fun n m nx => ∃ (turns part : Nat) (R : List Int) (D : List (List (Int × Int))) (tb : List (Addr × Obj)) (vs : List Value) (e1 e2 : Nat) (tv pv : Int) (t1 t2 : Tok) (v1 v2 v3 v4 : Option Value),
        m = mp [(Str.ofString "great", some (.int ((2 * hf : Nat) : Int) t)), (Str.ofString "due", some (.ref dA)), (Str.ofString "turns", some (.int tv t1)), (Str.ofString "part", some (.int pv t2)), (Str.ofString "before", v1), (Str.ofString "size", v2), (Str.ofString "half", v3), (Str.ofString "more", v4)] ∧
        nx = (L' + 1, oc) :: (rA, listOf vs.toArray e1) :: (dA, listOf (tb.map fun q => Value.ref q.1).toArray e2) :: tb ∧ tv = turns ∧ pv = part ∧ IntsAre vs R ∧ R.length = 2 * hf + 2 ∧ TabsAre prog w tb D ∧ tb.map Prod.fst = as ∧ (∀ c ∈ D, c.length + n ≤ 7) ∧ 0 < part ∧ 2 * hf + 1 < part * 2 ^ n ∧
        powF hf n turns part R D = powR hf) (n₀ := 7) F2 N2 ?_ ?_
      · refine ⟨1, 1, _, _, tb, vs, 0, _, _, _, t1, t2, none, none, none, none, rfl, rfl, rfl, rfl, hI1, ?_, hTb, has.symm, ?_, by decide, by omega, rfl⟩
        · rw [row0, List.length_cons, List.length_replicate]
        · intro c hc
          rw [List.eq_of_mem_replicate hc]; decide
      · rintro n m₁ nx h₁ tk₁ F₁ N₁ ⟨turns, part, R, D, tb, vs, e1, e2, tv, pv, t1, t2, v1, v2, v3, v4, rfl, rfl, rfl, rfl, hI, hRl, hTb, has', hDl, hp0, hpn, hpow⟩
        have hasm : ∀ q ∈ tb, q.1 ≠ rA ∧ q.1 ≠ L' + 1 ∧ q.1 ≠ dA := by
          intro q hq
          exact hoffA _ (has' ▸ List.mem_map_of_mem hq)
        have neRC : @Ne Nat rA (L' + 1) := hrC
        have neRD : @Ne Nat rA dA := o1.1
        have neCD : @Ne Nat (L' + 1) dA := o1.2.1
        have htR : ∀ q ∈ tb, q.1 ≠ rA := fun q hq => (hasm q hq).1
        k_with_none
        k_with "exec For Name Call cons nil" => ((rename Fr _ _ _ _ => lF'); (with_unfolding_all refine For_turns lF' ?_))
        k_with "TurnsAt" => (refine Hold.out ?_)
        k_with "pyIter" => (refine Hold.out ?_)
        k_steps
        · unfold Hold
          rename ((part : Nat) : Int) ≤ _ => hple
          have hple' : part ≤ 2 * hf + 1 := by omega
          rename Fr _ _ _ _ => F3
          rename News _ _ _ _ => N3
          rename IsRange _ _ _ _ 1 _ _ _ => hr3
          rename _ < _ ∧ _ < _ ∧ _ < _ ∧ AllLt _ tb => l3
          refine iter_range (n := 2 * hf + 2 - part) rfl F3 N3 hr3 (small_one (by omega) (by omega) (by omega) (by omega)) (by rw [rangeSize_nat]; omega)
            (fun i m nw => ∃ (bA : Addr) (cB : Nat) (vs' : List Value) (e1' : Nat) (v2 : Option Value), m = mp [(Str.ofString "great", some (.int ((2 * hf : Nat) : Int) t)), (Str.ofString "due", some (.ref dA)), (Str.ofString "turns", some (.int turns t1)), (Str.ofString "part", some (.int part t2)), (Str.ofString "before", some (.ref bA)), (Str.ofString "size", v2), (Str.ofString "half", v3), (Str.ofString "more", v4)] ∧
              nw = (bA, listOf vs.toArray cB) :: (L' + 1, oc) :: (rA, listOf vs'.toArray e1') :: (dA, listOf (tb.map fun q => Value.ref q.1).toArray e2) :: tb ∧ IntsAre vs' ((List.range i).foldl (rowStep part) R) ∧ ((List.range i).foldl (rowStep part) R).length = 2 * hf + 2 ∧ @Ne Nat bA rA ∧ @Ne Nat bA (L' + 1) ∧ @Ne Nat bA dA ∧ (∀ q ∈ tb, q.1 ≠ bA)) ?_ ?_ ?_
          · with_unfolding_all refine ⟨_, _, vs, e1, _, mp_ext ⟨rfl, rfl, rfl, rfl, rfl, rfl, rfl, rfl, trivial⟩ ?_, rfl, (by assumption), hRl, Nat.ne_of_gt l3.2.1, Nat.ne_of_gt l3.1, Nat.ne_of_gt l3.2.2.1, fun q hq => Nat.ne_of_lt (allLt_mem l3.2.2.2 q hq)⟩
            walk_at "mapoff"
          · rintro i ti hi m₄ news₄ h₄ tk₄ I4 oI4 ⟨bA, cB, vs', e1', v2, rfl, rfl, hI', hRl', nb1, nb2, nb3, nb4⟩ F4 N4 off4
            generalize hRg : (List.range i).foldl (rowStep part) R = R' at hI' hRl'
            have neRI : @Ne Nat rA I4 := off4 _ (.tail _ (.tail _ (.head _)))
            have neCI : @Ne Nat (L' + 1) I4 := off4 _ (.tail _ (.head _))
            have neBI : @Ne Nat bA I4 := off4 _ (.head _)
            have neDI : @Ne Nat dA I4 := off4 _ (.tail _ (.tail _ (.tail _ (.head _))))
            k_with_none
            k_steps
            rename IntsAre _ (R'.set _ _) => hI5
            rename Fr _ _ _ _ => F5
            rename News _ _ _ _ => N5
            have ei : ((part : Int) + i).toNat = part + i := by omega
            have ei2 : ((part : Int) + i - part).toNat = i := by omega
            rw [ei, ei2] at hI5 N5
            refine TurnEnd.intro (_ :: _ :: _ :: _ :: tb) F5 N5 List.mem_cons_self (fun p hp => List.mem_cons_of_mem _ hp) (fun p hp => ?_) ?_
            · rcases List.mem_cons.mp hp with rfl | hp
              · exact neBI
              · rcases List.mem_cons.mp hp with rfl | hp
                · exact neCI
                · rcases List.mem_cons.mp hp with rfl | hp
                  · exact neRI
                  · exact off4 p (.tail _ (.tail _ (.tail _ hp)))
            with_unfolding_all refine ⟨bA, cB, _, _, _, mp_ext ⟨rfl, rfl, rfl, rfl, rfl, rfl, rfl, rfl, trivial⟩ ?_, rfl, ?_, ?_, nb1, nb2, nb3, nb4⟩
            · walk_at "mapoff"
            · rw [List.range_succ, List.foldl_append, hRg]; exact hI5
            · rw [List.range_succ, List.foldl_append, hRg]
              show (R'.set _ _).length = _
              rw [List.length_set, hRl']
          · rintro h4 tk4 m4 nw4 ⟨bA, cB, vs', e1', v2, rfl, rfl, hI', hRl', nb1, nb2, nb3, nb4⟩ F4 N4
            obtain ⟨Rn, hRn⟩ : ∃ Rn, Rn = rowF part (2 * hf + 2 - part) R := ⟨_, rfl⟩
            replace hI' : IntsAre vs' Rn := hRn ▸ hI'
            replace hRl' : Rn.length = 2 * hf + 2 := hRn ▸ hRl'
            have efd : Int.fdiv ((part : Int) - 1) 2 = ((part - 1) / 2 : Nat) := by
              rw [Int.fdiv_eq_ediv_of_nonneg _ (by decide)]; omega
            have hbA : ∀ a ∈ as, a ≠ bA := fun a ha => by
              rw [← has'] at ha
              obtain ⟨q, hq, rfl⟩ := List.mem_map.mp ha
              exact nb4 q hq
            have hDl0 := hDl
            k_with_none
            k_with "exec For Name Call cons nil" => ((rename Fr _ _ _ _ => lF'); (with_unfolding_all refine For_turns lF' ?_))
            k_with "pyIter" => (refine Hold.out ?_)
            k_steps
            unfold Hold
            rename Fr _ _ _ _ => F6
            rename News _ _ _ _ => N6
            rename IsRange _ _ _ _ 1 _ _ _ => hr6
            rw [efd, hfd] at hr6
            generalize hlo : (part - 1) / 2 = lo at hr6
            refine iter_range (n := hf + 1 - lo) rfl F6 N6 hr6 (small_one (by omega) (by omega) (by omega) (by omega)) (by rw [rangeSize_nat]; omega)
              (fun i m nw => ∃ (tb : List (Addr × Obj)) (v3 v4 : Option Value), m = mp [(Str.ofString "great", some (.int ((2 * hf : Nat) : Int) t)), (Str.ofString "due", some (.ref dA)), (Str.ofString "turns", some (.int turns t1)), (Str.ofString "part", some (.int part t2)), (Str.ofString "before", some (.ref bA)), (Str.ofString "size", v2), (Str.ofString "half", v3), (Str.ofString "more", v4)] ∧
                nw = (bA, listOf vs.toArray cB) :: (L' + 1, oc) :: (rA, listOf vs'.toArray e1') :: (dA, listOf (tb.map fun q => Value.ref q.1).toArray e2) :: tb ∧ TabsAre prog w tb ((List.range i).foldl (dueStep turns lo Rn R) D) ∧ tb.map Prod.fst = as ∧ (∀ c ∈ (List.range i).foldl (dueStep turns lo Rn R) D, c.length + n ≤ 8) ∧ (∀ j, lo + i ≤ j → ((List.range i).foldl (dueStep turns lo Rn R) D)[j]? = D[j]?)) ?_ ?_ ?_
            · refine ⟨tb, v3, v4, rfl, rfl, hTb, has', fun c hc => ?_, fun _ _ => rfl⟩
              have := hDl c hc
              omega
            · rintro i ti hi m₅ news₅ h₅ tk₅ I5 oI5 ⟨tb, v3, v4, rfl, rfl, hTb, has', hDl, hDs⟩ F7 N7 off7
              generalize hDg : (List.range i).foldl (dueStep turns lo Rn R) D = D' at hTb hDl hDs
              k_with_none
              k_with "subscriptTail Name Name ref int" => (refine Hold.out ?_)
              k_with "setItem ref int" => (refine Hold.out ?_)
              have eh : (2 * ((lo : Int) + i) + 1).toNat = 2 * (lo + i) + 1 := by omega
              have eh2 : ((lo : Int) + i).toNat = lo + i := by omega
              have hD'l : D'.length = hf + 1 := by rw [← hTb.len, ← List.length_map (f := Prod.fst), has', hasl]
              obtain ⟨q, hq⟩ : ∃ q, tb[lo + i]? = some q := ⟨tb[lo + i]'(by rw [hTb.len]; omega), List.getElem?_eq_getElem _⟩
              obtain ⟨c, hc⟩ : ∃ c, D'[lo + i]? = some c := ⟨D'[lo + i]'(by omega), List.getElem?_eq_getElem _⟩
              obtain ⟨qa, qo⟩ := q
              obtain ⟨lo9, kv, hqo, hfq⟩ := hTb.at' _ _ c hq hc
              have hcl : c.length + n ≤ 8 := hDl c (List.mem_of_getElem? hc)
              have hcD : D'.getD (lo + i) [] = c := by rw [List.getD_eq_getElem?_getD, hc]; rfl
              k_steps
              · unfold Hold
                rename 0 < _ - _ => hmore
                rename Fr _ _ _ _ => F8
                rename News _ _ _ _ => N8
                rw [eh] at hmore
                refine item_listR (x := .ref qa) (News.isList N8 (.tail _ (.tail _ (.tail _ (.tail _ (.head _)))))) (by omega) (by omega) (by simp [eh2, hq]) ?_ (by with_unfolding_all rfl)
                k_steps
                unfold Hold
                have hqas : qa ∈ as := has' ▸ List.mem_map_of_mem (f := Prod.fst) (List.mem_of_getElem? hq)
                have hqm : (qa, qo) ∈ tb := List.mem_of_getElem? hq
                have hqI : @Ne Nat qa I5 := off7 (qa, qo) (.tail _ (.tail _ (.tail _ (.tail _ hqm))))
                refine kdf_setItem F8 N8 (.tail (Ne.symm hqI) (.tail (Ne.symm (hbA qa hqas)) (.tail (Ne.symm (hoffA qa hqas).2.1) (.tail (Ne.symm (hoffA qa hqas).1) (.tail (Ne.symm (hoffA qa hqas).2.2) (updF_at hq (has' ▸ hnd))))))) hqo hfq (by omega) ?_
                intro h9 o9 kv9 F9 N9 hd9 hf9
                dsimp only at N9 ⊢
                k_steps
                rw [eh] at hf9
                have hst : dueStep turns lo Rn R D' i = D'.set (lo + i) (kdfPut c turns (Rn.getD (2 * (lo + i) + 1) 0 - R.getD (2 * (lo + i) + 1) 0)) := by unfold dueStep; rw [if_pos hmore, hcD]
                refine TurnEnd.intro (_ :: _ :: _ :: _ :: tb.set (lo + i) (qa, o9)) F9 N9 List.mem_cons_self (fun p hp => List.mem_cons_of_mem _ hp) (fun p hp => ?_) ?_
                · rcases List.mem_cons.mp hp with rfl | hp
                  · exact off7 _ (.head _)
                  · rcases List.mem_cons.mp hp with rfl | hp
                    · exact off7 _ (.tail _ (.head _))
                    · rcases List.mem_cons.mp hp with rfl | hp
                      · exact off7 _ (.tail _ (.tail _ (.head _)))
                      · rcases List.mem_cons.mp hp with rfl | hp
                        · exact off7 _ (.tail _ (.tail _ (.tail _ (.head _))))
                        · rcases List.mem_or_eq_of_mem_set hp with hp | rfl
                          · exact off7 p (.tail _ (.tail _ (.tail _ (.tail _ hp))))
                          · exact hqI
                have em : (tb.set (lo + i) (qa, o9)).map (fun q => Value.ref q.1) = tb.map (fun q => Value.ref q.1) := set_map _ hq rfl
                have em2 : (tb.set (lo + i) (qa, o9)).map Prod.fst = tb.map Prod.fst := set_map _ hq rfl
                with_unfolding_all refine ⟨tb.set (lo + i) (qa, o9), _, _, mp_ext ⟨rfl, rfl, rfl, rfl, rfl, rfl, rfl, rfl, trivial⟩ ?_, ?_, ?_, em2.trans has', ?_, ?_⟩
                · walk_at "mapoff"
                · rw [em]
                · rw [List.range_succ, List.foldl_append, hDg]
                  show TabsAre prog w _ (dueStep turns lo Rn R D' i)
                  rw [hst]
                  exact hTb.set hq lo9 hd9 hf9
                · rw [List.range_succ, List.foldl_append, hDg]
                  show ∀ c ∈ dueStep turns lo Rn R D' i, _
                  rw [hst]
                  intro c' hc'
                  rcases List.mem_or_eq_of_mem_set hc' with hc' | rfl
                  · exact hDl c' hc'
                  · have h1 := kdfPut_len c turns (Rn.getD (2 * (lo + i) + 1) 0 - R.getD (2 * (lo + i) + 1) 0)
                    have h2 := hDl0 c (List.mem_of_getElem? ((hDs _ (Nat.le_refl _)).symm.trans hc))
                    omega
                · rw [List.range_succ, List.foldl_append, hDg]
                  show ∀ j, _ → (dueStep turns lo Rn R D' i)[j]? = _
                  rw [hst]
                  intro j hj
                  rw [List.getElem?_set_ne (by omega)]
                  exact hDs j (by omega)
              · rename ¬ 0 < _ - _ => hmore
                rename Fr _ _ _ _ => F8
                rename News _ _ _ _ => N8
                rw [eh] at hmore
                have hst : dueStep turns lo Rn R D' i = D' := by unfold dueStep; rw [if_neg hmore]
                refine TurnEnd.intro (_ :: _ :: _ :: _ :: tb) F8 N8 List.mem_cons_self (fun p hp => List.mem_cons_of_mem _ hp) off7 ?_
                with_unfolding_all refine ⟨tb, _, _, mp_ext ⟨rfl, rfl, rfl, rfl, rfl, rfl, rfl, rfl, trivial⟩ ?_, rfl, ?_, has', ?_, ?_⟩
                · walk_at "mapoff"
                · rw [List.range_succ, List.foldl_append, hDg]
                  show TabsAre prog w tb (dueStep turns lo Rn R D' i)
                  rw [hst]; exact hTb
                · rw [List.range_succ, List.foldl_append, hDg]
                  show ∀ c ∈ dueStep turns lo Rn R D' i, _
                  rw [hst]; exact hDl
                · rw [List.range_succ, List.foldl_append, hDg]
                  show ∀ j, _ → (dueStep turns lo Rn R D' i)[j]? = _
                  rw [hst]
                  exact fun j hj => hDs j (by omega)
            · rintro h₅ tk₅ m₅ nw₅ ⟨tb, v3, v4, rfl, rfl, hTb, has', hDl, hDs⟩ F7 N7
              replace F7 : Fr g L' h₅ _ := F7
              replace N7 : News g L' h₅ _ := N7
              k_with_none
              k_with "loadName" => ((rename Fr _ _ _ _ => lF'); (refine wpAny_loadName_local (by with_unfolding_all rfl) (by with_unfolding_all rfl) lF'.ns (by with_unfolding_all rfl) ?_))
              k_steps
              rename Fr _ _ _ _ => F9
              rename News _ _ _ _ => N9
              obtain _ | n' := n
              · omega
              refine whileEnd F9 (newsSub N9 (fun p hp => .tail _ hp)) (Nat.lt_succ_self n') ?_
              with_unfolding_all refine ⟨turns + 1, part * 2, Rn, _, tb, vs', e1', e2, _, _, _, _, _, _, _, _, mp_ext ⟨rfl, rfl, rfl, rfl, rfl, rfl, rfl, rfl, trivial⟩ ?_, rfl, rfl, rfl, (by assumption), hRl', hTb, has', fun c hc => ?_, by omega, ?_, ?_⟩
              · walk_at "mapoff"
              · have := hDl c hc; omega
              · have e7 : part * 2 * 2 ^ n' = part * 2 ^ (n' + 1) := by rw [Nat.pow_succ, Nat.mul_comm (2 ^ n'), Nat.mul_assoc]
                rw [e7]; exact hpn
              · rw [← hpow]
                show _ = if part ≤ 2 * hf + 1 then _ else _
                rw [if_pos hple', ← hRn, hlo]
                rfl
        · rename ¬ ((part : Nat) : Int) ≤ _ => hple
          rename Fr _ _ _ _ => F9
          rename News _ _ _ _ => N9
          rename IntsAre ys _ => hIy
          rw [hfd] at hIy
          have hend : powF hf n turns part R D = (R, D) := by
            obtain _ | n' := n
            · rfl
            · show (if part ≤ 2 * hf + 1 then _ else _) = _
              rw [if_neg (by omega)]
          rw [hend] at hpow
          refine Back.intro F9 (hret _ _ _ tb ys e2 _ _ (frKp F9 kg) (NewAt.of (pick5 N9) kg) (hpow ▸ hTb) (hpow ▸ hIy))
end
end Mine
namespace Mine
section
variable {prog : Program} {w : World} {A : Around} {E : Value → Shared → Prop} {s : Shared}
theorem ne_lists {l b : Addr} {items items2 : Array Value} {Q : Value → Shared → Prop} (hl : s.heap.IsList l items) (hb : s.heap.IsList b items2) (hsz : items.size = items2.size) (hu : A.units < cLine)
    (he : ∀ j (h1 : j < items.size) (h2 : j < items2.size), SeqAt.EqAt A.in1 s items[j] items2[j] true) (h : Q (.bool false) s) : wpAny (model prog w) A (compareOp .NotEq (.ref l) (.ref b)) Q E s := by
  obtain ⟨⟨cls, dd, data, sl⟩, ho, hc, n, hd⟩ := id hl
  obtain ⟨⟨cls2, dd2, data2, sl2⟩, ho2, hc2, n2, hd2⟩ := id hb
  simp only at hc hd hc2 hd2
  subst hc hd hc2 hd2
  have e0 : ((List.range items.size).all fun _ => true) = true := by simp
  refine richCompare_meets_room (op := .NotEq) ⟨_, ho, rfl⟩ ⟨_, ho2, rfl⟩ F.slot_list_ne F.entry_list_ne (F.args_list_ne_2 _ _) (SeqAt.list_neAt l b items items2 n n2 dd dd2 sl sl2 hsz fun _ => true)
    ⟨ho, ho2, he, show Value.bool (!(List.range items.size).all fun _ => true) ≠ Value.notImplemented ∧ Q (.bool (!(List.range items.size).all fun _ => true)) s from ⟨(fun x => nomatch x), ?_⟩⟩ hu
  rw [e0]; exact h
theorem pairs_any {prog' : Program} {w' : World} {es : List DictEntry} {kvs : List (Int × Value)} (P : Pairs (intKind prog w) es kvs) : Pairs (intKind prog' w') es kvs := by
  induction P with
  | nil => exact .nil
  | cons h e _ ih => exact .cons h e ih
theorem intTab_any {prog' : Program} {w' : World} {h : Heap} {d : Addr} {D : List (PyData × PyData)} (T : IntTab prog w h d D) : IntTab prog' w' h d D := by
  obtain ⟨lo, kvs, ⟨o, es, ep, ho, hx, hd, hk, hp, hn⟩, hf⟩ := T
  exact ⟨lo, kvs, ⟨o, es, ep, ho, hx, hd, hk, pairs_any hp, hn⟩, hf⟩
def sameTab (c c' : List (Int × Int)) : Bool := (c.length == c'.length) && c.all fun p => kdfHas c' p.1 && (kdfLook c' p.1 0 == p.2)
theorem keqRows_of {c' : List (Int × Int)} : ∀ {c : List (Int × Int)}, (c.all fun p => kdfHas c' p.1 && (kdfLook c' p.1 0 == p.2)) = true → KeqRows (kdfD c') (kdfD c) true
  | [], _ => .nil
  | (k, v) :: r, h => by
    rw [List.all_cons, Bool.and_eq_true, Bool.and_eq_true] at h
    have h1 : PySem.Spec.lookup (PyData.int k) (kdfD c') = some (PyData.int (kdfLook c' k 0)) := kdfD_item h.1.1
    have h2 : kdfLook c' k 0 = v := eq_of_beq h.1.2
    have := KeqRows.hit (v := PyData.int v) h1 (keqRows_of h.2)
    rw [h2] at this
    have e3 : (PyData.eqv (PyData.int v) (PyData.int v) && true) = true := by simp [PyData.eqv]
    rw [e3] at this
    exact this
theorem tabs_rc {a b : Addr} {c c' : List (Int × Int)} (Ta : IntTab prog w s.heap a (kdfD c)) (Tb : IntTab prog w s.heap b (kdfD c')) (hs : sameTab c c' = true) (hu : A.units < cLine) : SeqAt.RcAt A s (.ref a) (.ref b) true := by
  unfold sameTab at hs
  rw [Bool.and_eq_true] at hs
  intro prog' w' E Q h
  exact keq_tabs PyProof.V.same_int (intTab_any Ta) (intTab_any Tb) (by rw [kdfD_length, kdfD_length]; exact eq_of_beq hs.1) hu (keqRows_of hs.2) h
theorem ne_tabs {l b : Addr} {ta tb : List (Addr × Obj)} {T T' : List (List (Int × Int))} {n1 n2 : Nat} {Q : Value → Shared → Prop} (hl : s.heap.get? l = some (listOf (ta.map fun q => Value.ref q.1).toArray n1)) (hb : s.heap.get? b = some (listOf (tb.map fun q => Value.ref q.1).toArray n2))
    (ha : ∀ q ∈ ta, s.heap.get? q.1 = some q.2) (hb' : ∀ q ∈ tb, s.heap.get? q.1 = some q.2) (hne : ∀ p ∈ ta, ∀ q ∈ tb, p.1 ≠ q.1) (Ta : TabsAre prog w ta T) (Tb : TabsAre prog w tb T') (hlen : T.length = T'.length)
    (hs : ∀ (i : Nat) (c c' : List (Int × Int)), T[i]? = some c → T'[i]? = some c' → sameTab c c' = true) (hu : A.in1.units < cLine) (hu2 : A.units < cLine) (h : Q (.bool false) s) : wpAny (model prog w) A (compareOp .NotEq (.ref l) (.ref b)) Q E s := by
  have hll : ta.length = tb.length := by rw [Ta.len, Tb.len, hlen]
  refine ne_lists ⟨_, hl, rfl, _, rfl⟩ ⟨_, hb, rfl, _, rfl⟩ (by rw [List.size_toArray, List.size_toArray, List.length_map, List.length_map, hll]) hu2 (fun j h1 h2 => ?_) h
  rw [List.size_toArray, List.length_map] at h1 h2
  have e1 : (ta.map fun q => Value.ref q.1).toArray[j]'(by rw [List.size_toArray, List.length_map]; exact h1) = .ref (ta[j]).1 := by simp
  have e2 : (tb.map fun q => Value.ref q.1).toArray[j]'(by rw [List.size_toArray, List.length_map]; exact h2) = .ref (tb[j]).1 := by simp
  rw [e1, e2]
  have q1 : ta[j]? = some ta[j] := List.getElem?_eq_getElem h1
  have q2 : tb[j]? = some tb[j] := List.getElem?_eq_getElem h2
  have q3 : T[j]? = some (T[j]'(Ta.len ▸ h1)) := List.getElem?_eq_getElem _
  have q4 : T'[j]? = some (T'[j]'(Tb.len ▸ h2)) := List.getElem?_eq_getElem _
  obtain ⟨lo1, kv1, ho1, hf1⟩ := Ta.at' j _ _ q1 q3
  obtain ⟨lo2, kv2, ho2, hf2⟩ := Tb.at' j _ _ q2 q4
  have m1 : ta[j] ∈ ta := List.getElem_mem h1
  have m2 : tb[j] ∈ tb := List.getElem_mem h2
  refine SeqAt.EqAt.of_refs (hne _ m1 _ m2) (tabs_rc (prog := prog) (w := w) ⟨lo1, kv1, Heap.dictOf_iff.mpr ⟨_, ha _ m1, ho1⟩, hf1⟩ ⟨lo2, kv2, Heap.dictOf_iff.mpr ⟨_, hb' _ m2, ho2⟩, hf2⟩ (hs j _ _ q3 q4) hu)
theorem ne_strs {l b : Addr} {xs ys : List Value} {ss : List Str} {Q : Value → Shared → Prop} (hl : s.heap.IsList l xs.toArray) (hb : s.heap.IsList b ys.toArray) (h1 : StrsAre xs ss) (h2 : StrsAre ys ss) (hu2 : A.units < cLine) (h : Q (.bool false) s) : wpAny (model prog w) A (compareOp .NotEq (.ref l) (.ref b)) Q E s := by
  refine ne_lists hl hb (by rw [List.size_toArray, List.size_toArray, h1.len_eq, h2.len_eq]) hu2 (fun j j1 j2 => ?_) h
  rw [List.size_toArray] at j1 j2
  obtain ⟨y, t, e1, e2⟩ := h1.item j _ (List.getElem?_eq_getElem j1)
  obtain ⟨y', t', e3, e4⟩ := h2.item j _ (List.getElem?_eq_getElem j2)
  rw [e2] at e4
  cases e4
  show SeqAt.EqAt _ _ xs[j] ys[j] true
  rw [e1, e3]
  have := SeqAt.EqAt.str_str (A := A.in1) (s := s) y t y t'
  rwa [beq_self_eq_true] at this
end
end Mine
namespace Mine
def sp3 (a : Fin 3) : Str := if a = 0 then Str.ofString "\n" else if a = 1 then Str.ofString "\x0d" else Str.ofString "\x0d\n"
def mailG (l : List Str) : Str := Txt.join (Str.ofString "") l ++ Str.ofString "\n\x0d"
def endsG (x : Str) : Int := Txt.count x (Str.ofString "\n") + Txt.count x (Str.ofString "\x0d") - Txt.count x (Str.ofString "\x0d\n")
def okMail (x : Str) : Bool := match subRun x.cps 60 0 with
  | some n => decide (2 ≤ n) && decide (n ≤ 6) && decide (endsG x = (n : Int))
  | none => false
theorem ok0 : okMail (mailG []) = true := by decide +kernel
theorem ok1 : ∀ a : Fin 3, okMail (mailG [sp3 a]) = true := by decide +kernel
theorem ok2 : ∀ a b : Fin 3, okMail (mailG [sp3 a, sp3 b]) = true := by decide +kernel
theorem ok3 : ∀ a b c : Fin 3, okMail (mailG [sp3 a, sp3 b, sp3 c]) = true := by decide +kernel
theorem ok4_00 : ∀ c d : Fin 3, okMail (mailG [sp3 0, sp3 0, sp3 c, sp3 d]) = true := by decide +kernel
theorem ok4_01 : ∀ c d : Fin 3, okMail (mailG [sp3 0, sp3 1, sp3 c, sp3 d]) = true := by decide +kernel
theorem ok4_02 : ∀ c d : Fin 3, okMail (mailG [sp3 0, sp3 2, sp3 c, sp3 d]) = true := by decide +kernel
theorem ok4_10 : ∀ c d : Fin 3, okMail (mailG [sp3 1, sp3 0, sp3 c, sp3 d]) = true := by decide +kernel
theorem ok4_11 : ∀ c d : Fin 3, okMail (mailG [sp3 1, sp3 1, sp3 c, sp3 d]) = true := by decide +kernel
theorem ok4_12 : ∀ c d : Fin 3, okMail (mailG [sp3 1, sp3 2, sp3 c, sp3 d]) = true := by decide +kernel
theorem ok4_20 : ∀ c d : Fin 3, okMail (mailG [sp3 2, sp3 0, sp3 c, sp3 d]) = true := by decide +kernel
theorem ok4_21 : ∀ c d : Fin 3, okMail (mailG [sp3 2, sp3 1, sp3 c, sp3 d]) = true := by decide +kernel
theorem ok4_22 : ∀ c d : Fin 3, okMail (mailG [sp3 2, sp3 2, sp3 c, sp3 d]) = true := by decide +kernel
theorem ok4 : ∀ a b c d : Fin 3, okMail (mailG [sp3 a, sp3 b, sp3 c, sp3 d]) = true
  | ⟨0, _⟩, ⟨0, _⟩, c, d => ok4_00 c d
  | ⟨0, _⟩, ⟨1, _⟩, c, d => ok4_01 c d
  | ⟨0, _⟩, ⟨2, _⟩, c, d => ok4_02 c d
  | ⟨1, _⟩, ⟨0, _⟩, c, d => ok4_10 c d
  | ⟨1, _⟩, ⟨1, _⟩, c, d => ok4_11 c d
  | ⟨1, _⟩, ⟨2, _⟩, c, d => ok4_12 c d
  | ⟨2, _⟩, ⟨0, _⟩, c, d => ok4_20 c d
  | ⟨2, _⟩, ⟨1, _⟩, c, d => ok4_21 c d
  | ⟨2, _⟩, ⟨2, _⟩, c, d => ok4_22 c d
theorem spell_sp3 (k : Int) : ∃ a : Fin 3, spell k = sp3 a := by
  unfold spell
  by_cases h0 : Int.fmod k 3 = 0
  · exact ⟨0, by rw [if_pos h0]; rfl⟩
  · by_cases h1 : Int.fmod k 3 = 1
    · exact ⟨1, by rw [if_neg h0, if_pos h1]; rfl⟩
    · exact ⟨2, by rw [if_neg h0, if_neg h1]; rfl⟩
def mailF (ns : List Int) : Str := Txt.join (Str.ofString "") ((ns.take 4).map spell) ++ Str.ofString "\n\x0d"
theorem okMails : ∀ l : List Int, l.length ≤ 4 → okMail (mailG (l.map spell)) = true
  | [], _ => ok0
  | [a], _ => by obtain ⟨a', ea⟩ := spell_sp3 a; show okMail (mailG [spell a]) = true; rw [ea]; exact ok1 a'
  | [a, b], _ => by obtain ⟨a', ea⟩ := spell_sp3 a; obtain ⟨b', eb⟩ := spell_sp3 b; show okMail (mailG [spell a, spell b]) = true; rw [ea, eb]; exact ok2 a' b'
  | [a, b, c], _ => by obtain ⟨a', ea⟩ := spell_sp3 a; obtain ⟨b', eb⟩ := spell_sp3 b; obtain ⟨c', ec⟩ := spell_sp3 c; show okMail (mailG [spell a, spell b, spell c]) = true; rw [ea, eb, ec]; exact ok3 a' b' c'
  | [a, b, c, d], _ => by obtain ⟨a', ea⟩ := spell_sp3 a; obtain ⟨b', eb⟩ := spell_sp3 b; obtain ⟨c', ec⟩ := spell_sp3 c; obtain ⟨d', ed⟩ := spell_sp3 d; show okMail (mailG [spell a, spell b, spell c, spell d]) = true; rw [ea, eb, ec, ed]; exact ok4 a' b' c' d'
  | _ :: _ :: _ :: _ :: _ :: _, h => absurd h (by simp only [List.length_cons]; omega)
theorem mail_ok (ns : List Int) : ∃ n : Nat, 2 ≤ n ∧ n ≤ 6 ∧ subRun (mailF ns).cps 60 0 = some n ∧ endsG (mailF ns) = (n : Int) := by
  have h := okMails (ns.take 4) (List.length_take_le _ _)
  have h' : okMail (mailF ns) = true := h
  unfold okMail at h'
  cases hs : subRun (mailF ns).cps 60 0 with
  | none => rw [hs] at h'; cases h'
  | some n =>
    rw [hs] at h'
    simp only [Bool.and_eq_true, decide_eq_true_eq] at h'
    exact ⟨n, h'.1.1, h'.1.2, rfl, h'.2⟩
def signs : List Str := [Str.ofString "\x0d", Str.ofString "\n"]
theorem sign_ok2 : ∀ sg ∈ signs, ∀ n ∈ [2, 3, 4, 5, 6], subRun (Txt.mul sg (2 * n : Nat)).cps 60 0 = some (2 * n) := by decide +kernel
theorem sign_ok4 : ∀ sg ∈ signs, ∀ n ∈ [2, 3, 4, 5, 6], subRun (Txt.mul sg (4 * n : Nat)).cps 60 0 = some (4 * n) := by decide +kernel
theorem sign_len : ∀ sg ∈ signs, sg.length = 1 := by decide +kernel
theorem mem26 {n : Nat} (h : 2 ≤ n) (h' : n ≤ 6) : n ∈ [2, 3, 4, 5, 6] := by
  have : n = 2 ∨ n = 3 ∨ n = 4 ∨ n = 5 ∨ n = 6 := by omega
  rcases this with rfl | rfl | rfl | rfl | rfl <;> decide
theorem cr_mul : ∀ n ∈ [2, 3, 4, 5, 6], Txt.mul (Str.ofString "\x0d\n") (n : Nat) = cr n ∧ Txt.mul (Str.ofString "\x0d\n") ((2 * n : Nat) : Int) = cr (2 * n) ∧ Txt.mul (Str.ofString "\x0d\n") ((4 * n : Nat) : Int) = cr (4 * n) := by decide +kernel
end Mine
namespace Mine
def y257 (k : Int) (j : Nat) : Str := Str.ofString "257 \"" ++ Txt.mul (Str.ofString "\"") k ++ ⟨#[97 + j]⟩ ++ Str.ofString "\""
def toldF (k : Int) (j : Nat) : Str := Txt.mul (Str.ofString "\"") (Int.fdiv k 2) ++ Txt.mul ⟨#[97 + j]⟩ (1 - Int.fmod k 2)
def ok257 (k : Int) (j : Nat) : Bool := (Txt.slice (y257 k j) none (some 3) == Str.ofString "257") && (Txt.slice (y257 k j) (some 3) (some 5) == Str.ofString " \"") && decide ((y257 k j).length ≤ 105) && (pF (y257 k j) 105 5 (Str.ofString "") == toldF k j) &&
  decide (Txt.count (toldF k j) (Str.ofString "\"") = (((k.toNat / 2 : Nat)) : Int))
theorem t257_0 : ∀ i < 24, ok257 (1 + ((i : Nat) : Int)) 0 = true := by decide +kernel
theorem t257_1 : ∀ i < 24, ok257 (1 + ((i : Nat) : Int)) 1 = true := by decide +kernel
theorem t257_2 : ∀ i < 24, ok257 (1 + ((i : Nat) : Int)) 2 = true := by decide +kernel
theorem t257_3 : ∀ i < 24, ok257 (1 + ((i : Nat) : Int)) 3 = true := by decide +kernel
theorem t257_4 : ∀ i < 24, ok257 (1 + ((i : Nat) : Int)) 4 = true := by decide +kernel
theorem t257_5 : ∀ i < 24, ok257 (1 + ((i : Nat) : Int)) 5 = true := by decide +kernel
theorem t257_6 : ∀ i < 24, ok257 (1 + ((i : Nat) : Int)) 6 = true := by decide +kernel
theorem t257_7 : ∀ i < 24, ok257 (1 + ((i : Nat) : Int)) 7 = true := by decide +kernel
theorem t257_8 : ∀ i < 24, ok257 (1 + ((i : Nat) : Int)) 8 = true := by decide +kernel
theorem t257_9 : ∀ i < 24, ok257 (1 + ((i : Nat) : Int)) 9 = true := by decide +kernel
theorem t257_10 : ∀ i < 24, ok257 (1 + ((i : Nat) : Int)) 10 = true := by decide +kernel
theorem t257_11 : ∀ i < 24, ok257 (1 + ((i : Nat) : Int)) 11 = true := by decide +kernel
theorem t257_12 : ∀ i < 24, ok257 (1 + ((i : Nat) : Int)) 12 = true := by decide +kernel
theorem t257_13 : ∀ i < 24, ok257 (1 + ((i : Nat) : Int)) 13 = true := by decide +kernel
theorem t257_14 : ∀ i < 24, ok257 (1 + ((i : Nat) : Int)) 14 = true := by decide +kernel
theorem t257_15 : ∀ i < 24, ok257 (1 + ((i : Nat) : Int)) 15 = true := by decide +kernel
theorem t257_16 : ∀ i < 24, ok257 (1 + ((i : Nat) : Int)) 16 = true := by decide +kernel
theorem t257_17 : ∀ i < 24, ok257 (1 + ((i : Nat) : Int)) 17 = true := by decide +kernel
theorem t257_18 : ∀ i < 24, ok257 (1 + ((i : Nat) : Int)) 18 = true := by decide +kernel
theorem t257_19 : ∀ i < 24, ok257 (1 + ((i : Nat) : Int)) 19 = true := by decide +kernel
theorem t257_20 : ∀ i < 24, ok257 (1 + ((i : Nat) : Int)) 20 = true := by decide +kernel
theorem t257_21 : ∀ i < 24, ok257 (1 + ((i : Nat) : Int)) 21 = true := by decide +kernel
theorem t257_22 : ∀ i < 24, ok257 (1 + ((i : Nat) : Int)) 22 = true := by decide +kernel
theorem t257_23 : ∀ i < 24, ok257 (1 + ((i : Nat) : Int)) 23 = true := by decide +kernel
theorem t257_24 : ∀ i < 24, ok257 (1 + ((i : Nat) : Int)) 24 = true := by decide +kernel
theorem t257_25 : ∀ i < 24, ok257 (1 + ((i : Nat) : Int)) 25 = true := by decide +kernel
theorem t257 : ∀ j < 26, ∀ i < 24, ok257 (1 + ((i : Nat) : Int)) j = true := fun j hj => match j, hj with
  | 0, _ => t257_0
  | 1, _ => t257_1
  | 2, _ => t257_2
  | 3, _ => t257_3
  | 4, _ => t257_4
  | 5, _ => t257_5
  | 6, _ => t257_6
  | 7, _ => t257_7
  | 8, _ => t257_8
  | 9, _ => t257_9
  | 10, _ => t257_10
  | 11, _ => t257_11
  | 12, _ => t257_12
  | 13, _ => t257_13
  | 14, _ => t257_14
  | 15, _ => t257_15
  | 16, _ => t257_16
  | 17, _ => t257_17
  | 18, _ => t257_18
  | 19, _ => t257_19
  | 20, _ => t257_20
  | 21, _ => t257_21
  | 22, _ => t257_22
  | 23, _ => t257_23
  | 24, _ => t257_24
  | 25, _ => t257_25
  | n + 26, h => absurd h (by omega)
end Mine
namespace Mine
def cnts (n : Nat) : List Nat := (List.range (4 * n)).map fun i => (i + 1) / 2
def sumT (c : List (Int × Int)) : Int := (c.map (·.2)).sum
def tabsN (n : Nat) : List (List (Int × Int)) := tabsF (cnts n)
def gainN (n i : Nat) : Int := sumT ((tabsN n).getD (4 + 4 * i) []) - sumT ((tabsN n).getD (1 + i) [])
def waysN (n : Nat) : List Int := (rangeKs 0 (((4 * n : Nat) : Int) + 1 - 0).toNat).map fun k' => (powR (4 * n)).1.getD (2 * k' + 1).toNat 0
theorem lens6 : ∀ i < 25, ∀ c ∈ tabsF ((cnts 6).take i), c.length ≤ 100 := by decide +kernel
theorem cnts_take {n i : Nat} (h : n ≤ 6) : (cnts n).take i = (cnts 6).take (min i (4 * n)) := by
  unfold cnts
  rw [← List.map_take, ← List.map_take, List.take_range, List.take_range]
  congr 2
  omega
theorem lensN {n : Nat} (h : n ≤ 6) (i : Nat) : ∀ c ∈ tabsF ((cnts n).take i), c.length ≤ 100 := by
  rw [cnts_take h]
  exact lens6 _ (by omega)
def dueOk (n : Nat) : Bool := ((tabsN n).length == 4 * n + 1) && ((powR (4 * n)).2.length == 4 * n + 1) && ((tabsN n).zip (powR (4 * n)).2).all (fun p => sameTab p.1 p.2)
theorem due_ok : ∀ n ∈ [2, 3, 4, 5, 6], dueOk n = true := by decide +kernel
def gainOk (n i : Nat) : Bool := decide (0 ≤ gainN n i) && decide ((gainN n i).toNat < 16 ^ 6) && (numL (apF 6 (gainN n i).toNat []) == gainN n i) && decide ((apF 6 (gainN n i).toNat []).length ≤ 8) &&
  (tailV (apF 6 (gainN n i).toNat []) (tailF (apF 6 (gainN n i).toNat []) (apF 6 (gainN n i).toNat []).length 0) == 2 ^ (Int.fdiv (3 * ((twosF 4 (2 + 2 * i) 0 : Nat) : Int) + 4) 2).toNat) && decide (0 ≤ Int.fdiv (3 * ((twosF 4 (2 + 2 * i) 0 : Nat) : Int) + 4) 2) && decide (Int.fdiv (3 * ((twosF 4 (2 + 2 * i) 0 : Nat) : Int) + 4) 2 ≤ 64)
theorem gain_ok : ∀ n ∈ [2, 3, 4, 5, 6], ∀ i < n, gainOk n i = true := by decide +kernel
theorem ways_ok : ∀ n ∈ [2, 3, 4, 5, 6], (tabsN n).map sumT = waysN n := by decide +kernel
end Mine
namespace Mine
theorem news_more {h₀ hs h : Heap} {L a : Addr} {o : Obj} {m : Str → Option Value} {news : List (Addr × Obj)} (N : News h₀ L h news) (Fs : Fr h₀ L hs m) (hn : hs.get? a = none) (ho : h.get? a = some o) : News h₀ L h ((a, o) :: news) := fun p hp => by
  rcases List.mem_cons.mp hp with rfl | hp
  · refine ⟨ho, fun e => ?_, ?_⟩
    · have e' : a = L := e
      subst e'
      obtain ⟨o5, _, _, e5, _⟩ := Fs.ns
      rw [e5] at hn; cases hn
    · cases e5 : h₀.get? a with
      | none => rfl
      | some o5 => have := Fs.keep _ _ e5; rw [this] at hn; cases hn
  · exact N p hp
theorem cut_toks {M : Model} {A : Around} {α : Type} {t : Sem α} {Q : α → Shared → Prop} {E : Value → Shared → Prop} {s : Shared} (P : α → Prop) (h : wpAny M A t (fun v s' => ∃ tk, P v ∧ s' = { s with toks := tk }) E s) (h' : ∀ v tk, P v → Q v { s with toks := tk }) : wpAny M A t Q E s :=
  wpAny_mono h (fun v s' ⟨tk, hp, e⟩ => e ▸ h' v tk hp) fun _ _ e => e
theorem told_ok {i j : Nat} (hi : i < 24) (hj : j < 26) : Txt.slice (y257 (1 + (i : Int)) j) none (some 3) = Str.ofString "257" ∧ Txt.slice (y257 (1 + (i : Int)) j) (some 3) (some 5) = Str.ofString " \"" ∧ (y257 (1 + (i : Int)) j).length ≤ 105 ∧
    pF (y257 (1 + (i : Int)) j) 105 5 (Str.ofString "") = toldF (1 + (i : Int)) j ∧ Txt.count (toldF (1 + (i : Int)) j) (Str.ofString "\"") = (((i + 1) / 2 : Nat) : Int) := by
  have h := t257 j hj i hi
  unfold ok257 at h
  simp only [Bool.and_eq_true, decide_eq_true_eq] at h
  refine ⟨eq_of_beq h.1.1.1.1, eq_of_beq h.1.1.1.2, h.1.1.2, eq_of_beq h.1.2, ?_⟩
  rw [h.2]
  congr 2
  omega
theorem ranges_at {us : List Value} {n i : Nat} {v : Value} (h : IntsAre us (rangeKs 1 n)) (hv : us[i]? = some v) : i < n ∧ ∃ t, v = .int (1 + (i : Int)) t := by
  have hl : i < us.length := (List.getElem?_eq_some_iff.mp hv).1
  have hn : us.length = n := by rw [h.length, rangeKs_length]
  have hin : i < n := hn ▸ hl
  have e : (rangeKs 1 n)[i]? = some (1 + (i : Int)) := by
    unfold rangeKs
    rw [List.getElem?_map, List.getElem?_range hin]; rfl
  obtain ⟨t, ht⟩ := h.get i _ e
  rw [hv] at ht
  exact ⟨hin, t, Option.some.inj ht⟩
def toldL (n j : Nat) : List Str := (List.range (4 * n)).map fun (i : Nat) => toldF (1 + (i : Int)) j
theorem toldL_at {n j i : Nat} {x : Str} (h : (toldL n j)[i]? = some x) : i < 4 * n ∧ x = toldF (1 + (i : Int)) j := by
  unfold toldL at h
  have hl : i < 4 * n := by
    have := (List.getElem?_eq_some_iff.mp h).1
    rwa [List.length_map, List.length_range] at this
  rw [List.getElem?_map, List.getElem?_range hl] at h
  exact ⟨hl, (Option.some.inj h).symm⟩
theorem news_app {h₀ hs h : Heap} {L : Addr} {m : Str → Option Value} {news l2 : List (Addr × Obj)} (N : News h₀ L h news) (Fs : Fr h₀ L hs m) (hl : ∀ p ∈ l2, hs.get? p.1 = none ∧ h.get? p.1 = some p.2) : News h₀ L h (news ++ l2) := fun p hp => by
  rcases List.mem_append.mp hp with hp | hp
  · exact N p hp
  · exact news_more (N := fun _ h => absurd h List.not_mem_nil) Fs (hl p hp).1 (hl p hp).2 p List.mem_cons_self
theorem intsAre_of {ys : List Value} {xs : List Int} (hl : ys.length = xs.length) (h : ∀ (i : Nat) (y : Value), ys[i]? = some y → ∃ z t, xs[i]? = some z ∧ y = Value.int z t) : IntsAre ys xs := by
  induction ys generalizing xs with
  | nil => cases xs with
    | nil => exact .nil
    | cons x xs => cases hl
  | cons y ys ih => cases xs with
    | nil => cases hl
    | cons x xs =>
      obtain ⟨z, t, hz, rfl⟩ := h 0 y rfl
      cases hz
      exact .cons _ _ (ih (Nat.succ.inj hl) fun i y hy => h (i + 1) y hy)
section
variable {prog : Program} {w : World} {A : Around} {E : Value → Shared → Prop} {s : Shared} {env : Env} {h₀ : Heap} {target : PySem.Expr} {body : List Stmt} {Q : Flow → Shared → Prop}
theorem iter_range2 {r : Addr} {a b c : Int} {t u v : Tok} {n : Nat} {m₀ : Str → Option Value} {news : List (Addr × Obj)}
    (hh : A.handled = none) (F : Fr h₀ env.locals s.heap m₀) (N : News h₀ env.locals s.heap news) (hr : IsRange s.heap r a b c t u v) (hsm : Builtin.Range.small a b c = true) (hn : Builtin.Range.rangeSize a b c = ((n : Nat) : Int))
    (J : Nat → (Str → Option Value) → List (Addr × Obj) → Prop) (h0 : J 0 m₀ news)
    (step : ∀ i t, i < n → Turn prog w A h₀ env target body Q E s (J i) (J (i + 1)) (.int (a + (i : Int) * c) t))
    (done : ∀ h tk m nw, J n m nw → Fr h₀ env.locals h m → News h₀ env.locals h nw → Q .next { s with heap := h, toks := tk }) :
    wpAny (model prog w) A (pyIter (.ref r)) (fun it s₂ => TurnsAt prog w A h₀ env target body Q E it s₂) E s := by
  refine wpAny_pyIter_range hr hsm ?_
  refine turns_inv (tk0 := s.toks) (keep := []) (KTurns.ofWalks ((Walks.range hh s.heap.objs.size a c n).bound) fun i v s Q E st q => letGo_rangeiter st q) (next_is_new F) ?_ ?_ ?_ ?_ ?_
    (F.push _) (fun p hp => ⟨Heap.get?_push_of_some _ (N p hp).1, (N p hp).2⟩) J h0 (fun _ _ _ _ p hp => nomatch hp) ?_ ?_
  · rintro i h st
    exact ⟨_, st⟩
  · intro b hb
    exact .inl (List.mem_singleton.mp hb)
  · intro hI
    exact absurd F.ns.lt (List.mem_singleton.mp hI ▸ Nat.lt_irrefl _)
  · intro p hp; exact Nat.ne_of_lt (Heap.lt_size (N p hp).1)
  · show IsRangeIter _ _ _ _ _
    rw [hn]
    simpa using Heap.get?_push_size _ rfl
  · rintro i v m₁ news₁ h₁ tk₁ oI hi ⟨hin, t, rfl⟩ hJ F₁ N₁ off
    exact step i t hin m₁ news₁ h₁ tk₁ _ oI hJ F₁ N₁ off
  · intro h tk m nw hJ F' N' _
    exact done h tk m nw hJ F' N'
end
set_option maxHeartbeats 4000000 in
theorem law_holds : PySem.Challenge.rw_xg0009_01.Holds := Mine.hd (by
  k_go0
  k_with_none
  k_with "call ref" => (refine Hold.out ?_)
  k_with "eval IfExp" => (refine Hold.out ?_)
  rename Fr _ _ _ _ => F
  rename News _ _ _ _ => N0
  rename Below callerA _ [] _ => K0
  rename Frag.In _ _ => KX
  rename Heap.IsList _ _ _ => hL
  rename IntsAre _ _ => hI
  rename ¬ _ < _ => hlen
  rename Top _ _ _ _ _ _ => TT
  rename List Int => ns
  obtain ⟨n, hn2, hn6, hrun, hends⟩ := mail_ok ns
  k_steps
  unfold Hold
  rename Fr _ _ _ _ => F1
  rename News _ _ _ _ => N1
  refine rowends_spec (k := 3) (by exact Cx.of K0 F1 KX TT rfl rfl (by decide) (by decide)) (by obtain ⟨o, e, r⟩ := hL; exact ⟨o, F1.keep _ _ e, r⟩) hI ?_ ?_
  · omega
  intro t0 h2 tk2 hk2
  replace F1 := F1.keeps hk2
  replace N1 := N1.grown hk2
  k_steps
  unfold Hold
  rename Fr _ _ _ _ => F2
  rename News _ _ _ _ => N2
  have hends' : Txt.count (Txt.join (Str.ofString "") ((ns.take 4).map spell) ++ Str.ofString "\n\x0d") (Str.ofString "\n") + Txt.count (Txt.join (Str.ofString "") ((ns.take 4).map spell) ++ Str.ofString "\n\x0d") (Str.ofString "\x0d") - Txt.count (Txt.join (Str.ofString "") ((ns.take 4).map spell) ++ Str.ofString "\n\x0d") (Str.ofString "\x0d\n") = (n : Int) := hends
  rw [hends'] at F2
  rename _ = Data.cell (some (Value.str ⟨#[_]⟩ _)) => hcell
  generalize hdr : (List.map (fun k' => k'.fmod 1000) (List.take 4 ns)).sum = dr at F2 hcell ⊢
  have hj0 : 0 ≤ Int.fmod dr 26 := Int.fmod_nonneg_of_pos _ (by decide)
  have hj1 : Int.fmod dr 26 < 26 := Int.fmod_lt_of_pos _ (by decide)
  obtain ⟨j, hjd⟩ : ∃ j : Nat, Int.fmod dr 26 = j := ⟨(Int.fmod dr 26).toNat, by omega⟩
  have hj26 : j < 26 := by omega
  have hch : (97 + Int.fmod dr 26).toNat = 97 + j := by omega
  rw [hch] at hcell
  refine cut_toks (fun v => ∃ sg ts, sg ∈ signs ∧ v = Value.str sg ts) ?_ ?_
  · k_with_none
    k_steps
    · exact List.mem_cons_self
    · exact List.mem_cons_of_mem _ List.mem_cons_self
  rintro v tk3 ⟨sg, ts, hsg, rfl⟩
  k_with_none
  k_with "call ref" => (refine Hold.out ?_)
  k_steps
  unfold Hold
  have hnm := mem26 hn2 hn6
  refine mended_spec (k := 1) (n := n) (by exact Cx.of K0 F2 KX TT rfl rfl (by decide) (by decide)) (by omega) hn6 (sign_len sg hsg) hrun (sign_ok2 sg hsg n hnm) (sign_ok4 sg hsg n hnm) ?_
  intro ml h4 tk4 tm0 tm1 tm2 ep4 hk4 hml hml'
  have N3 := news_more (N2.grown hk4) F2 hml hml'
  replace F2 := F2.keeps hk4
  clear N2
  k_with "compareOp NotEq ref ref" => (refine Hold.out ?_)
  k_steps
  unfold Hold
  rename Fr _ _ _ _ => F4
  rename News _ _ _ _ => N4
  obtain ⟨hm1, hm2, hm3⟩ := cr_mul n hnm
  rw [show ((2 * n : Nat) : Int) = 2 * (n : Int) by omega] at hm2
  rw [show ((4 * n : Nat) : Int) = 4 * (n : Int) by omega] at hm3
  rw [hm1, hm2, hm3] at N4
  refine ne_strs (ss := [cr n, cr (2 * n), cr (4 * n)]) (News.isList N4 (.tail _ (.head _))) (News.isList N4 (.head _)) (.cons _ _ (.cons _ _ (.cons _ _ .nil))) (.cons _ _ (.cons _ _ (.cons _ _ .nil))) (by ke_room) ?_
  k_with_none
  k_with "compareOp NotEq ref ref" => (refine Hold.out ?_)
  k_with "call ref" => (refine Hold.out ?_)
  k_with "CompSrc" => (refine Hold.out ?_)
  have hcl1 := cr_len n
  have hcl2 := cr_len (2 * n)
  have hcl4 := cr_len (4 * n)
  k_steps
  rename IsRange _ _ _ _ 1 _ _ _ => hr5
  rename Fr _ _ _ _ => F5
  rename News _ _ _ _ => N5
  rw [hcl2] at hr5
  refine kll_range (n := 4 * n) rfl F5 N5 hr5 (small_one (by omega) (by omega) (by omega) (by omega)) (by rw [rangeSize_nat]; omega) (by omega) ?_
  intro rD us rc h5 tk5 F5 N5 lD hIus
  k_steps
  unfold Hold
  rename Fr _ _ _ _ => F6
  rename News _ _ _ _ => N6
  have husl : us.length = 4 * n := by rw [hIus.length, rangeKs_length]
  refine LCg.CompSrc.ledger rfl F6 N6 List.mem_cons_self (by rw [List.size_toArray, husl]; exact Nat.le_trans (show 4 * n ≤ 24 by omega) (by size_fits)) (fun g2 => comp_rest (fun i y => ∃ t, y = Value.str (pF (y257 (1 + (i : Int)) j) 105 5 (Str.ofString "")) t) ?_ ?_)
  · rintro i v I oI C oC D m₂ ys2 h7 tk7 E7 hi hv hC2 hm2 F7 N7 off7 ne7
    have hv' : us[i]? = some v := by simpa using hv
    obtain ⟨hi4, ti, rfl⟩ := ranges_at hIus hv'
    obtain ⟨te1, te2, te3, te4, -⟩ := told_ok (show i < 24 by omega) hj26
    k_with_none
    k_with "call ref" => (refine Hold.out ?_)
    k_steps
    unfold Hold
    refine p257_spec (k := 2) (x := y257 (1 + (i : Int)) j) (by exact Cx.of K0 F7 KX TT rfl rfl (by decide) (by decide)) te1 te2 te3 ?_
    intro t8 h8 tk8 hk8
    exact cend (F7.keeps hk8) (N7.grown hk8) off7 (.inr ⟨_, List.mem_cons_self, rfl, _, rfl⟩) ⟨t8, rfl⟩
  · intro ys2 hyl hys
    have hS2 : StrsAre ys2 (toldL n j) := strsAre_of (by rw [hyl, List.size_toArray, husl, toldL, List.length_map, List.length_range]) (fun i y hy => by
      obtain ⟨t, rfl⟩ := hys i y hy
      have hi : i < 4 * n := by
        have := (List.getElem?_eq_some_iff.mp hy).1
        rwa [hyl, List.size_toArray, husl] at this
      exact ⟨_, t, by rw [toldL, List.getElem?_map, List.getElem?_range hi]; rfl, by rw [(told_ok (show i < 24 by omega) hj26).2.2.2.1]⟩)
    k_with_none
    k_with "compareOp NotEq ref ref" => (refine Hold.out ?_)
    k_with "call ref" => (refine Hold.out ?_)
    k_with "CompSrc" => (refine Hold.out ?_)
    k_steps
    unfold Hold
    rename Fr _ _ _ _ => F9
    rename News _ _ _ _ => N9
    refine LCg.CompSrc.ledger rfl F9 N9 (.tail _ (.head _)) (by rw [List.size_toArray, husl]; exact Nat.le_trans (show 4 * n ≤ 24 by omega) (by size_fits)) (fun g3 => comp_rest (fun i y => ∃ t, y = Value.str (toldF (1 + (i : Int)) j) t) ?_ ?_)
    · rintro i v I oI C oC D m₂ ys3 h7 tk7 E7 hi hv hC2 hm2 F7 N7 off7 ne7
      have hv' : us[i]? = some v := by simpa using hv
      obtain ⟨hi4, ti, rfl⟩ := ranges_at hIus hv'
      have hf0 : 0 ≤ Int.fmod (1 + (i : Int)) 2 := Int.fmod_nonneg_of_pos _ (by decide)
      have hf1 : Int.fmod (1 + (i : Int)) 2 < 2 := Int.fmod_lt_of_pos _ (by decide)
      have hpl : (⟨#[97 + j]⟩ : Str).length = 1 := rfl
      have hd0 : Int.fdiv (1 + (i : Int)) 2 = ((1 + i) / 2 : Nat) := by
        rw [Int.fdiv_eq_ediv_of_nonneg _ (by decide)]; omega
      have hd1 : Int.fdiv (1 + (i : Int)) 2 ≤ 24 := by omega
      have hd2 : 0 ≤ Int.fdiv (1 + (i : Int)) 2 := by omega
      clear hd0
      have hl2 : (Txt.mul ⟨#[97 + j]⟩ (1 - Int.fmod (1 + (i : Int)) 2)).length ≤ 1 := by
        have e := len_mul (⟨#[97 + j]⟩ : Str) (1 - Int.fmod (1 + (i : Int)) 2)
        rw [if_neg (fun c => absurd (of_decide_eq_true c) (by omega)), hpl] at e
        omega
      k_with_none
      k_with "binaryOp Mult str int" => ((refine KXi.mul (n := 1) (by first | rfl | decide +kernel) (by decide) (by omega) (by omega) ?_); intro _ _ mz mn)
      k_with "binaryOp Add str str" => (refine KOpn.add (by omega) ?_; intro _ _ _)
      k_steps
      exact cend F7 N7 off7 (.inr ⟨_, .tail _ List.mem_cons_self, rfl, _, rfl⟩) ⟨_, rfl⟩
    · intro ys3 hyl3 hys3
      have hS3 : StrsAre ys3 (toldL n j) := strsAre_of (by rw [hyl3, List.size_toArray, husl, toldL, List.length_map, List.length_range]) (fun i y hy => by
        obtain ⟨t, rfl⟩ := hys3 i y hy
        have hi : i < 4 * n := by
          have := (List.getElem?_eq_some_iff.mp hy).1
          rwa [hyl3, List.size_toArray, husl] at this
        exact ⟨_, t, by rw [toldL, List.getElem?_map, List.getElem?_range hi]; rfl, rfl⟩)
      k_with_none
      k_with "compareOp NotEq ref ref" => (refine Hold.out ?_)
      k_with "call ref" => (refine Hold.out ?_)
      k_with "CompSrc" => (refine Hold.out ?_)
      k_steps
      unfold Hold
      rename Fr _ _ _ _ => F10
      rename News _ _ _ _ => N10
      refine ne_strs (ss := toldL n j) (News.isList N10 (.tail _ (.head _))) (News.isList N10 (.head _)) hS2 hS3 (by ke_room) ?_
      k_steps
      unfold Hold
      rename Fr _ _ _ _ => F11
      rename News _ _ _ _ => N11
      refine tables_spec (k := 1) (xs := toldL n j) (ns := cnts n) (by exact Cx.of K0 F11 KX TT rfl rfl (by decide) (by decide)) (News.isList N11 (.tail _ (.head _))) hS2 (fun i x hx => ?_) (lensN hn6) ?_ ?_ ?_
      · obtain ⟨hi4, rfl⟩ := toldL_at hx
        refine ⟨(i + 1) / 2, ?_, (told_ok (show i < 24 by omega) hj26).2.2.2.2, by omega⟩
        rw [cnts, List.getElem?_map, List.getElem?_range hi4]; rfl
      · rw [toldL, List.length_map, List.length_range]; omega
      · rw [toldL, cnts, List.length_map, List.length_map]
      intro tl ta epT h12 tk12 hk12 htl htl' hta hTa
      have N12 := news_app (N11.grown hk12) F11 (l2 := (tl, listOf (ta.map fun q => Value.ref q.1).toArray epT) :: ta) (fun p hp => by
        rcases List.mem_cons.mp hp with rfl | hp
        · exact ⟨htl, htl'⟩
        · exact ⟨(hta p hp).2.1, (hta p hp).1⟩)
      replace F11 := F11.keeps hk12
      simp only [List.cons_append, List.nil_append] at N12
      clear N11
      k_with_none
      k_with "call ref" => (refine Hold.out ?_)
      k_steps
      unfold Hold
      rename Fr _ _ _ _ => F13
      rename News _ _ _ _ => N13
      rw [hcl4]
      refine powers_spec (k := 1) (hf := 4 * n) (by exact Cx.of K0 F13 KX TT rfl rfl (by decide) (by decide)) (by omega) ?_
      intro pl dA wA tb wy eD h14 tk14 hk14 hpn hTb hIw
      have N14 := news_app (N13.grown hk14) F13 (l2 := tb) (fun p hp => ⟨(hpn p (.tail _ (.tail _ (.tail _ hp)))).2, (hpn p (.tail _ (.tail _ (.tail _ hp)))).1⟩)
      replace N14 := news_more N14 F13 (hpn _ (.tail _ (.tail _ (.head _)))).2 (hpn _ (.tail _ (.tail _ (.head _)))).1
      replace N14 := news_more N14 F13 (hpn _ (.tail _ (.head _))).2 (hpn _ (.tail _ (.head _))).1
      replace N14 := news_more N14 F13 (hpn _ (.head _)).2 (hpn _ (.head _)).1
      have hne : ∀ p ∈ ta, ∀ q ∈ tb, p.1 ≠ q.1 := fun p hp q hq e => by
        have h1 := (N13 p (.tail _ (.tail _ (.tail _ (.tail _ (.tail _ (.tail _ (.tail _ (.tail _ (.tail _ hp)))))))))).1
        have h2 := (hpn q (.tail _ (.tail _ (.tail _ hq)))).2
        rw [← e] at h2
        dsimp only at h2
        rw [h1] at h2; cases h2
      replace F13 := F13.keeps hk14
      simp only [List.cons_append] at N14
      clear N13
      k_with_none
      k_with "compareOp NotEq ref ref" => (refine Hold.out ?_)
      k_with "call ref" => (refine Hold.out ?_)
      k_steps
      unfold Hold
      rename Fr _ _ _ _ => F15
      rename News _ _ _ _ => N15
      have hdue := due_ok n hnm
      unfold dueOk at hdue
      rw [Bool.and_eq_true, Bool.and_eq_true] at hdue
      have hdl1 : (tabsN n).length = 4 * n + 1 := eq_of_beq hdue.1.1
      have hdl2 : (powR (4 * n)).2.length = 4 * n + 1 := eq_of_beq hdue.1.2
      refine ne_tabs (N15 _ (.tail _ (.tail _ (.tail _ (.tail _ (.tail _ (.tail _ (.tail _ (.tail _ (.tail _ (.tail _ (.tail _ (.head _))))))))))))).1 (N15 _ (.tail _ (.head _))).1 (fun q hq => (N15 q (.tail _ (.tail _ (.tail _ (.tail _ (.tail _ (.tail _ (.tail _ (.tail _ (.tail _ (.tail _ (.tail _ (.tail _ (List.mem_append_left _ hq)))))))))))))).1)
        (fun q hq => (N15 q (.tail _ (.tail _ (.tail _ (.tail _ (.tail _ (.tail _ (.tail _ (.tail _ (.tail _ (.tail _ (.tail _ (.tail _ (List.mem_append_right _ hq)))))))))))))).1) hne hTa hTb (hdl1.trans hdl2.symm) (fun i c c' hc hc' => ?_) (by ke_room) (by ke_room) ?_
      · have hz : ((tabsN n).zip (powR (4 * n)).2)[i]? = some (c, c') := by
          rw [List.getElem?_zip_eq_some]; exact ⟨hc, hc'⟩
        exact List.all_eq_true.mp hdue.2 _ (List.mem_of_getElem? hz)
      k_with_none
      k_with "exec For Name Call cons nil" => ((rename Fr _ _ _ _ => lF'); (with_unfolding_all refine For_turns lF' ?_))
      k_with "pyIter" => (refine Hold.out ?_)
      k_steps
      unfold Hold
      rename IsRange _ _ _ _ 2 _ _ _ => hr16
      rename Fr _ _ _ _ => F16
      rename News _ _ _ _ => N16
      rw [hcl1] at hr16
      have hsm : ∀ m ∈ [2, 3, 4, 5, 6], Builtin.Range.small 2 (((2 * m : Nat) : Int) + 1) 2 = true ∧ Builtin.Range.rangeSize 2 (((2 * m : Nat) : Int) + 1) 2 = ((m : Nat) : Int) := by decide
      have hG := gain_ok n hnm
      have N17 := newsSub N16 (l' := (tl, listOf (ta.map fun q => Value.ref q.1).toArray epT) :: (wA, LCg.lst wy) :: ta) (fun p hp => by
        rcases List.mem_cons.mp hp with rfl | hp
        · exact .tail _ (.tail _ (.tail _ (.tail _ (.tail _ (.tail _ (.tail _ (.tail _ (.tail _ (.tail _ (.tail _ (.head _)))))))))))
        · rcases List.mem_cons.mp hp with rfl | hp
          · exact .tail _ (.tail _ (.head _))
          · exact .tail _ (.tail _ (.tail _ (.tail _ (.tail _ (.tail _ (.tail _ (.tail _ (.tail _ (.tail _ (.tail _ (.tail _ (List.mem_append_left _ hp)))))))))))))
      refine iter_range2 (n := n) rfl F16 N17 hr16 (hsm n hnm).1 (hsm n hnm).2
        (fun i m nw => ∃ v1 v2 v3 v4 v5 v6 v7 v8 v9 v10 v11, m = mp [(Str.ofString "ways", some (.ref wA)), (Str.ofString "tables", some (.ref tl)), (Str.ofString "size", v1), (Str.ofString "gain", v2), (Str.ofString "word", v3), (Str.ofString "due", v4), (Str.ofString "told", v5), (Str.ofString "runs", v6), (Str.ofString "mails", v7), (Str.ofString "drawn", v8), (Str.ofString "ends", v9), (Str.ofString "mail", v10), (Str.ofString "script", v11)] ∧
          nw = (tl, listOf (ta.map fun q => Value.ref q.1).toArray epT) :: (wA, LCg.lst wy) :: ta) ?_ ?_ ?_
      · with_unfolding_all refine ⟨_, _, _, _, _, _, _, _, _, _, _, mp_ext ⟨rfl, rfl, rfl, rfl, rfl, rfl, rfl, rfl, rfl, rfl, rfl, rfl, rfl, trivial⟩ ?_, rfl⟩
        rintro z ⟨h1, h2, h3, h4, h5, h6, h7, h8, h9, h10, h11, h12, h13, -⟩
        simp only [if_neg h1, if_neg h2, if_neg h6, if_neg h7, if_neg h8, if_neg h9, if_neg h10, if_neg h11, if_neg h12]
        with_unfolding_all exact if_neg h13
      · rintro i ti hi m₅ news₅ h₅ tk₅ I5 oI5 ⟨v1, v2, v3, v4, v5, v6, v7, v8, v9, v10, v11, rfl, rfl⟩ F17 N17 off17
        have hg := hG i hi
        unfold gainOk at hg
        simp only [Bool.and_eq_true, decide_eq_true_eq] at hg
        have htal : ta.length = 4 * n + 1 := by rw [hTa.len]; exact hdl1
        have e44 : (2 * (2 + (i : Int) * 2)).toNat = 4 + 4 * i := by omega
        have e11 : Int.fdiv (2 + (i : Int) * 2) 2 = ((1 + i : Nat) : Int) := by
          rw [Int.fdiv_eq_ediv_of_nonneg _ (by decide)]; omega
        obtain ⟨q1, hq1⟩ : ∃ q, ta[4 + 4 * i]? = some q := ⟨ta[4 + 4 * i]'(by omega), List.getElem?_eq_getElem _⟩
        obtain ⟨c1, hc1⟩ : ∃ c, (tabsN n)[4 + 4 * i]? = some c := ⟨(tabsN n)[4 + 4 * i]'(by omega), List.getElem?_eq_getElem _⟩
        obtain ⟨q2, hq2⟩ : ∃ q, ta[1 + i]? = some q := ⟨ta[1 + i]'(by omega), List.getElem?_eq_getElem _⟩
        obtain ⟨c2, hc2⟩ : ∃ c, (tabsN n)[1 + i]? = some c := ⟨(tabsN n)[1 + i]'(by omega), List.getElem?_eq_getElem _⟩
        obtain ⟨lo1, kv1, ho1, hf1⟩ := hTa.at' _ _ _ hq1 hc1
        obtain ⟨lo2, kv2, ho2, hf2⟩ := hTa.at' _ _ _ hq2 hc2
        have hgn : gainN n i = (c1.map (·.2)).sum - (c2.map (·.2)).sum := by
          unfold gainN sumT
          rw [List.getD_eq_getElem?_getD, List.getD_eq_getElem?_getD, hc1, hc2]; rfl
        have m1 : q1 ∈ ta := List.mem_of_getElem? hq1
        have m2 : q2 ∈ ta := List.mem_of_getElem? hq2
        k_with_none
        k_with "subscriptTail" => (refine Hold.out ?_)
        k_with "call ref" => (refine Hold.out ?_)
        k_steps
        unfold Hold
        rename Fr _ _ _ _ => F18
        rename News _ _ _ _ => N18
        refine item_listR (x := .ref q1.1) (News.isList N18 (.tail _ (.head _))) (by omega) (by omega) (by rw [e44]; simp [hq1]) ?_ (by with_unfolding_all rfl)
        k_steps
        unfold Hold
        refine count_calls_spec (k := 2) (c := c1) (by exact Cx.of K0 F18 KX TT rfl rfl (by decide) (by decide)) ⟨lo1, kv1, Heap.dictOf_iff.mpr ⟨_, (N18 _ (.tail _ (.tail _ (.tail _ m1)))).1, ho1⟩, hf1⟩ ?_
        intro t19 h19 tk19 hk19
        replace F18 := F18.keeps hk19
        replace N18 := N18.grown hk19
        k_steps
        unfold Hold
        rw [e11]
        refine item_listR (x := .ref q2.1) (News.isList N18 (.tail _ (.head _))) (by omega) (by omega) (by rw [show (((1 + i : Nat) : Int)).toNat = 1 + i by omega]; simp [hq2]) ?_ (by with_unfolding_all rfl)
        k_steps
        unfold Hold
        refine count_calls_spec (k := 2) (c := c2) (by exact Cx.of K0 F18 KX TT rfl rfl (by decide) (by decide)) ⟨lo2, kv2, Heap.dictOf_iff.mpr ⟨_, (N18 _ (.tail _ (.tail _ (.tail _ m2)))).1, ho2⟩, hf2⟩ ?_
        intro t20 h20 tk20 hk20
        replace F18 := F18.keeps hk20
        replace N18 := N18.grown hk20
        k_steps
        unfold Hold
        rename Fr _ _ _ _ => F21
        rename News _ _ _ _ => N21
        obtain ⟨⟨⟨⟨⟨⟨g0, gz⟩, gn⟩, gl⟩, gt⟩, gp0⟩, gp1⟩ := hg
        generalize hzz : (gainN n i).toNat = z at gz gn gl gt
        have hz1 : (c1.map (·.2)).sum - (c2.map (·.2)).sum = (z : Int) := by rw [← hgn]; omega
        have hz2 : gainN n i = (z : Int) := by rw [hgn]; exact hz1
        rw [hz1] at F21
        rw [hz1]
        refine ap_spec (k := 2) (n₀ := 6) (by exact Cx.of K0 F21 KX TT rfl rfl (by decide) (by decide)) gz (by decide) ?_
        intro b22 t22 h22 tk22 hb22 hk22
        replace F21 := F21.keeps hk22
        replace N21 := N21.grown hk22
        k_steps
        unfold Hold
        rename Fr _ _ _ _ => F23
        rename News _ _ _ _ => N23
        refine number_spec (k := 2) (by exact Cx.of K0 F23 KX TT rfl rfl (by decide) (by decide)) ?_
        intro t24 h24 tk24 hk24
        replace F23 := F23.keeps hk24
        replace N23 := N23.grown hk24
        rw [hb22]
        have gn' : numL (apF 6 z []) = (z : Int) := by rw [← hz2]; exact eq_of_beq gn
        rw [gn']
        have et : (2 + (i : Int) * 2) = ((2 + 2 * i : Nat) : Int) := by omega
        rw [et] at F23
        have gt' := eq_of_beq gt
        k_steps
        · exact absurd rfl ‹(z : Int) ≠ z›
        · unfold Hold
          refine tail_spec (k := 2) (by exact Cx.of K0 F23 KX TT rfl rfl (by decide) (by decide)) hb22 gl ?_
          intro t25 h25 tk25 hk25
          replace F23 := F23.keeps hk25
          replace N23 := N23.grown hk25
          rw [gt']
          k_steps
          unfold Hold
          refine twos_spec (k := 2) (n₀ := 4) (by exact Cx.of K0 F23 KX TT rfl rfl (by decide) (by decide)) (by omega) (by omega) ?_
          intro t26 h26 tk26 hk26
          replace F23 := F23.keeps hk26
          replace N23 := N23.grown hk26
          generalize hee : (twosF 4 (2 + 2 * i) 0 : Nat) = tw at gp0 gp1 ⊢
          k_steps
          · exact absurd rfl ‹_ ≠ _›
          · refine TurnEnd.intro (_ :: _ :: ta) F23 N23 List.mem_cons_self (fun p hp => List.mem_cons_of_mem _ hp) off17 ?_
            with_unfolding_all refine ⟨_, _, _, _, _, _, _, _, _, _, _, mp_ext ⟨rfl, rfl, rfl, rfl, rfl, rfl, rfl, rfl, rfl, rfl, rfl, rfl, rfl, trivial⟩ ?_, rfl⟩
            rintro z ⟨h1, h2, h3, h4, h5, h6, h7, h8, h9, h10, h11, h12, h13, -⟩
            simp only [mp, if_neg h1, if_neg h2, if_neg h3, if_neg h4, if_neg h5, if_neg h6, if_neg h7, if_neg h8, if_neg h9, if_neg h10, if_neg h11, if_neg h12, if_neg h13]
      · rintro h₅ tk₅ m₅ nw₅ ⟨v1, v2, v3, v4, v5, v6, v7, v8, v9, v10, v11, rfl, rfl⟩ F17 N17
        have htal : ta.length = 4 * n + 1 := by rw [hTa.len]; exact hdl1
        k_with_none
        k_with "CompSrc" => (refine Hold.out ?_)
        k_steps
        unfold Hold
        refine LCg.CompSrc.ledger rfl F17 N17 List.mem_cons_self (by rw [List.size_toArray, List.length_map, htal]; exact Nat.le_trans (show 4 * n + 1 ≤ 25 by omega) (by size_fits)) (fun g4 => comp_rest (fun i y => ∃ t, y = Value.int (sumT ((tabsN n).getD i [])) t) ?_ ?_)
        · rintro i v I oI C oC D m₂ ys4 h7 tk7 E7 hi hv hC2 hm2 F7 N7 off7 ne7
          rw [List.size_toArray, List.length_map, htal] at hi
          obtain ⟨q1, hq1⟩ : ∃ q, ta[i]? = some q := ⟨ta[i]'(by omega), List.getElem?_eq_getElem _⟩
          obtain ⟨c1, hc1⟩ : ∃ c, (tabsN n)[i]? = some c := ⟨(tabsN n)[i]'(by omega), List.getElem?_eq_getElem _⟩
          obtain ⟨lo1, kv1, ho1, hf1⟩ := hTa.at' _ _ _ hq1 hc1
          have m1 : q1 ∈ ta := List.mem_of_getElem? hq1
          have ev : v = .ref q1.1 := by
            have : (ta.map fun q => Value.ref q.1).toArray[i]? = some (.ref q1.1) := by simp [hq1]
            rw [this] at hv; exact (Option.some.inj hv).symm
          subst ev
          k_with_none
          k_with "call ref" => (refine Hold.out ?_)
          k_steps
          unfold Hold
          refine count_calls_spec (k := 2) (c := c1) (by exact Cx.of K0 F7 KX TT rfl rfl (by decide) (by decide)) ⟨lo1, kv1, Heap.dictOf_iff.mpr ⟨_, (N7 _ (.tail _ (.tail _ (.tail _ (.tail _ (.tail _ m1)))))).1, ho1⟩, hf1⟩ ?_
          intro t8 h8 tk8 hk8
          refine cend (F7.keeps hk8) (N7.grown hk8) off7 (.inr ⟨_, List.mem_cons_self, rfl, _, rfl⟩) ⟨t8, ?_⟩
          rw [List.getD_eq_getElem?_getD, hc1]; rfl
        · intro ys4 hyl4 hys4
          rw [List.size_toArray, List.length_map, htal] at hyl4
          have hIy : IntsAre ys4 (waysN n) := by
            rw [← ways_ok n hnm]
            refine intsAre_of (by rw [hyl4, List.length_map, hdl1]) fun i y hy => ?_
            obtain ⟨t, rfl⟩ := hys4 i y hy
            have hi : i < (tabsN n).length := by
              have := (List.getElem?_eq_some_iff.mp hy).1
              omega
            exact ⟨_, t, by rw [List.getElem?_map, List.getElem?_eq_getElem hi]; rfl, by rw [List.getD_eq_getElem?_getD, List.getElem?_eq_getElem hi]; rfl⟩
          k_with_none
          k_steps)
end Mine
theorem PySem.Challenge.cw_xg0009_01_holds : PySem.Challenge.rw_xg0009_01.Holds :=
  Mine.law_holds
