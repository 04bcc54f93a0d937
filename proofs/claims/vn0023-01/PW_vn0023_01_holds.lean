import PyProof.Rows.All
import Wide.All
import OpenK.AllK
import Wide.FinOn
import PySem.Challenge.RW_vn0023_01
set_option Elab.async false
section
open PySem PySem.W PyProof.Rows
namespace Mine
set_option maxRecDepth 100000 in
set_option maxHeartbeats 8000000 in
open_top hd for PySem.Challenge.rw_vn0023_01
end Mine
end
section
open PySem PySem.W PySem.Calls PyProof.Rows
namespace Mine

/-- the surroundings of a contract: a depth and a number of units, written -/
abbrev Aat (d u : Nat) : Around := { handled := none, depth := d, frames := none, guards := none, units := u }

theorem weaken {α : Type} {M : Model} {A : Around} {t : Sem α} {Q : α → Shared → Prop} {E : Value → Shared → Prop} {s : Shared} (d u : Nat)
    (h : wpAny M (Aat d u) t Q E s) (hh : A.handled = none) (hd : A.depth ≤ d) (hu : A.units ≤ u) : wpAny M A t Q E s :=
  fun Γ p hΓ => h Γ p ⟨hΓ.1.trans hh, Nat.le_trans hΓ.2.1 hd, (fun _ e => nomatch e), (fun _ e => nomatch e), Nat.le_trans hΓ.2.2.2.2 hu⟩

noncomputable abbrev Lo : List Str := looseW hd.view_39 [Str.ofString "convertbits"]

/-- what a state offers to every call -/
structure Wd (w : World) (mg mb : Str → Option Value) (h : Heap) : Prop where
  K : (hd.heap_39 w.params).In h
  T : TopRead hd.view_39 Lo mg mb h

theorem Wd.keeps {w : World} {mg mb : Str → Option Value} {h h' : Heap} (W : Wd w mg mb h) (k : ∀ b o, h.get? b = some o → h'.get? b = some o) : Wd w mg mb h' :=
  ⟨W.K.keeps k, W.T.keeps k⟩

theorem enter {prog : Program} {w : World} {d u : Nat} {s : Shared} {K : Frag} {Q E : Value → Shared → Prop} {name qual : Str} {params : Arguments} {body : List Stmt} {scope : Scope} {dV kV doc pm cdv ct oc : Value} {an od : Option Addr} {osl : Array (Option Value)} {f : Addr} {args : List Value} {binds : List (Str × Value)}
    (X : K.In s.heap) (hlim : s.heap.NoLimit)
    (ho : K.lookup f = some ⟨oc, od, .func (fnOf name qual params body scope dV kV doc pm an cdv ct), osl⟩) (hcd : codeIn K cdv qual = true) (hroom : d < recursionLimit)
    (hbind : BindsTo s (fnOf name qual params body scope dV kV doc pm an cdv ct) ⟨args, []⟩ binds) (hloc : ∀ y ∈ binds, scope.names.lookup y.1 = some .local)
    (hco : scope.isCoroutine = false) (hgen : scope.isGenerator = false) (hk : scope.kind = .function) (hcell : ∀ x ∈ scope.names, x.2 ≠ .cell)
    (h : ∀ h₁, Fr s.heap s.heap.objs.size h₁ (fun y => binds.reverse.lookup y) → News s.heap s.heap.objs.size h₁ [] →
      wpAny (model prog w) ((Aat d u).deeper (envOf qual scope s.heap.objs.size f cdv)) (execs body (envOf qual scope s.heap.objs.size f cdv))
        (fun fl s' => Q (match fl with | .ret v => v | _ => .none) s') (fun _ _ => False) { s with heap := h₁, toks := s.toks + binds.length }) :
    wpAny (model prog w) (Aat d u) (call (.ref f) args) Q E s := by
  refine wpAny_call (codeAny_call_def (fd := fnOf name qual params body scope dV kV doc pm an cdv ct) (body := body) (binds := binds) hroom (X _ _ ho) rfl hlim (codeRec_of X hcd) rfl hbind hcell hloc (fun h₁ hns hk₁ => ?_) hco hgen hk)
  exact wpAny_mono (h h₁ ⟨hns, hk₁, Nat.le_refl _⟩ News.nil) (fun _ _ x => x) fun _ _ x => x.elim

theorem enterC {prog : Program} {w : World} {d u : Nat} {s : Shared} {K : Frag} {Q E : Value → Shared → Prop} {name qual : Str} {params : Arguments} {body : List Stmt} {scope : Scope} {dV kV doc pm cdv ct oc : Value} {an od : Option Addr} {osl : Array (Option Value)} {f : Addr} {args : List Value} {binds : List (Str × Value)}
    (X : K.In s.heap) (hlim : s.heap.NoLimit)
    (ho : K.lookup f = some ⟨oc, od, .func (fnOf name qual params body scope dV kV doc pm an cdv ct), osl⟩) (hcd : codeIn K cdv qual = true) (hroom : d < recursionLimit)
    (hbind : BindsTo s (fnOf name qual params body scope dV kV doc pm an cdv ct) ⟨args, []⟩ binds)
    (hkind : (binds.all fun y => scope.names.lookup y.1 == some .local || scope.names.lookup y.1 == some .cell) = true)
    (hnd : ((cellsFrom 0 scope.names []).map (·.1)).Nodup)
    (hco : scope.isCoroutine = false) (hgen : scope.isGenerator = false) (hk : scope.kind = .function)
    (h : ∀ h₁ tk cells, Fr s.heap s.heap.objs.size h₁ (bindL (envOfC qual scope s.heap.objs.size f cdv).kindOf binds fun _ => none) → News s.heap s.heap.objs.size h₁ cells →
      CellsAre (bindC (envOfC qual scope s.heap.objs.size f cdv).kindOf binds fun _ => none) (cellsFrom (s.heap.objs.size + 1) scope.names []) cells →
      wpAny (model prog w) ((Aat d u).deeper (envOfC qual scope s.heap.objs.size f cdv)) (execs body (envOfC qual scope s.heap.objs.size f cdv))
        (fun fl s' => Q (match fl with | .ret v => v | _ => .none) s') (fun _ _ => False) { s with heap := h₁, toks := tk }) :
    wpAny (model prog w) (Aat d u) (call (.ref f) args) Q E s := by
  refine wpAny_call (codeAny_call_function (fd := fnOf name qual params body scope dV kV doc pm an cdv ct) hroom (X _ _ ho) rfl hco hgen rfl (codeRec_of X hcd) (hbind _ _ _ _ ?_))
  refine wpAny_newFunctionEnv_cells hk (kindsX hkind _) fun env' he s' x => ?_
  subst he
  refine ⟨hlim.keeps x.toInCall.keep, codeAny_func ?_⟩
  obtain ⟨h₁, tk, rfl, _⟩ := x.done
  have hk₁ := x.toInCall.keep
  obtain ⟨cells, NC, Y⟩ := Cl.news (h₀ := s.heap) (Nat.le_refl _) fun n c hm => ⟨x.cell n c (lookup_of_mem_nodup (cellsFrom_names scope.names 0 (s.heap.objs.size + 1) [] [] rfl ▸ hnd) hm), x.above n c hm⟩
  exact wpAny_mono (h h₁ tk cells ⟨x.toInCall.ns, hk₁, Nat.le_refl _⟩ NC Y) (fun _ _ x => x) fun _ _ x => x.elim
end Mine
end
section
open PySem PySem.W PySem.Calls PyProof.Rows
namespace Mine

section
variable {prog : Program} {w : World} {A : Around} {E : Value → Shared → Prop} {R : Result → Shared → Prop} {s : Shared}

theorem loopG {elt target iter : Expr} {ifs : List Expr} {scope : Scope} {pos : Pos} {it acc : Value} {env : Env} (I : Nat → Shared → Prop)
    (turn : ∀ n s, I n s → wpAny (model prog w) A (pyNext it) (fun r s₁ => match r with
      | none => R (.ok .next) s₁
      | some v => wpAny (model prog w) A (letOwnedTupleGo target it v) (fun _ s₀ => wpAny (model prog w) A (assign target env v) (fun _ s₂ =>
          wpAny (model prog w) A (forIn ifs true fun c r => if r = true then do let ok ← isTrue c env (eval c env); pure (ForInStep.yield ok) else pure (ForInStep.yield r)) (fun ok s₃ =>
            if ok = true then wpAny (model prog w) A (eval elt env) (fun x s₄ =>
              wpAny (model prog w) A (call (.builtin "list.append") [acc, x]) (fun _ s₅ => ∃ m, m < n ∧ I m s₅) (notedBy (model prog w) A env fun e s' => R (.error e) s') s₄) (notedBy (model prog w) A env fun e s' => R (.error e) s') s₃
            else ∃ m, m < n ∧ I m s₃) (notedBy (model prog w) A env fun e s' => R (.error e) s') s₂) (notedBy (model prog w) A env fun e s' => R (.error e) s') s₀) (notedBy (model prog w) A env fun e s' => R (.error e) s') s₁) (notedBy (model prog w) A env fun e s' => R (.error e) s') s)
    (n : Nat) (h : I n s) :
    codeAny (model prog w) A (.compLoop (.ListComp elt [⟨target, iter, ifs, 0⟩] scope pos) 0 it acc env) R s := by
  refine codeAny_loop rfl I (fun n s hI => ?_) n h
  show wpAny _ A ((compTurn (.ListComp elt [⟨target, iter, ifs, 0⟩] scope pos) 0 it acc env).onRaise (fun x => do noteFrame x env; theTreesLotGoes x)) _ _ s
  refine wpAny_noted ?_
  rw [compTurn_list]
  refine wpAny_bind (wpAny_standAt (wpAny_bind (wpAny_mono (turn n s hI) (fun r s₁ h₁ => ?_) fun _ _ h' => h')))
  cases r with
  | none => exact wpAny_pure h₁
  | some v =>
    refine wpAny_bind (wpAny_mono h₁ (fun _ s₀ h₀ => ?_) fun _ _ h' => h')
    refine wpAny_bind (wpAny_mono h₀ (fun _ s₂ h₂ => wpAny_bind (wpAny_mono h₂ (fun ok s₃ h₃ => ?_) fun _ _ h' => h')) fun _ _ h' => h')
    cases ok with
    | false => exact wpAny_pure ⟨rfl, h₃⟩
    | true =>
      exact wpAny_bind (wpAny_bind (wpAny_mono h₃ (fun x s₄ h₄ => wpAny_bind (wpAny_mono h₄ (fun _ s₅ h₅ => wpAny_pure (wpAny_pure ⟨rfl, h₅⟩)) fun _ _ h' => h')) fun _ _ h' => h'))
end

/-- what one turn of a comprehension shows -/
def TurnG (prog : Program) (w : World) (A : Around) (env : Env) (scope : Scope) (cl : List (Str × Addr)) (target : Expr) (ifs : List Expr) (elt : Expr) (ex wr : List Addr) (n : Nat)
    (P : Nat → Value → Heap → Prop) (p : Nat → Bool) (R : List Addr → Nat → Value → Heap → Prop) (s₂ : Shared) : Prop :=
  ∀ i v C D s₃ m₃ (E' : Value → Shared → Prop), i < n → P i v s₃.heap → s₃.heap.Ns C m₃ → s₂.heap.get? C = none →
    (∀ b o, b ∉ wr → s₂.heap.get? b = some o → s₃.heap.get? b = some o) → (∀ b ∈ C :: D :: (ex ++ wr), ∃ o, s₃.heap.get? b = some o) → (∃ h tk, s₃ = { s₂ with heap := h, toks := tk }) →
    wpAny (model prog w) A (assign target (compEnvC scope cl C env) v) (fun _ s₄ => ∃ h₄ tk₄ m₄, s₄ = { s₃ with heap := h₄, toks := tk₄ } ∧ h₄.Ns C m₄ ∧ Heap.ExtBut C s₃.heap h₄ ∧
      wpAny (model prog w) A (forIn ifs true fun c r => if r = true then do let ok ← isTrue c (compEnvC scope cl C env) (eval c (compEnvC scope cl C env)); pure (ForInStep.yield ok) else pure (ForInStep.yield r))
        (fun ok s₅ => ok = p i ∧ Keeps s₄ s₅ ∧ (ok = true → wpAny (model prog w) A (eval elt (compEnvC scope cl C env)) (fun y s₆ => Keeps s₅ s₆ ∧ R (C :: D :: (ex ++ wr)) i y s₆.heap) E' s₅)) E' s₄) E' s₃

section
variable {prog : Program} {w : World} {A : Around} {E : Value → Shared → Prop} {s : Shared} {env : Env}

theorem range_filter_succ (p : Nat → Bool) (i : Nat) : (List.range (i + 1)).filter p = (List.range i).filter p ++ (if p i then [i] else []) := by
  rw [List.range_succ, List.filter_append]
  congr 1
  cases h : p i <;> simp [h]

theorem paired_mono {α β : Type} {F G : α → β → Prop} (h : ∀ a b, F a b → G a b) : ∀ {l₁ : List α} {l₂ : List β}, Paired F l₁ l₂ → Paired G l₁ l₂
  | _, _, .nil => .nil
  | _, _, .cons a t => .cons (h _ _ a) (paired_mono h t)

theorem paired_len_le (p : Nat → Bool) {F : Nat → Value → Prop} {i : Nat} {ys : List Value} (h : Paired F ((List.range i).filter p) ys) : ys.length ≤ i := by
  rw [← h.length]
  exact Nat.le_trans (List.length_filter_le _ _) (by rw [List.length_range]; exact Nat.le_refl _)

theorem compG {elt target iter : Expr} {ifs : List Expr} {scope : Scope} {cl : List (Str × Addr)} {pos : Pos} {s₂ : Shared} {I : Addr} {fp ex wr : List Addr} {n : Nat} {P Md : Nat → Value → Heap → Prop} {St : Nat → Heap → Prop}
    (W : KTurns prog w A target I fp wr n P Md St) (hsz : n ≤ sizeLine)
    (hself : ∀ (s : Shared) (Q : Value → Shared → Prop) (E : Value → Shared → Prop), St 0 s.heap → Q (.ref I) s → wpAny (model prog w) A (pyIter (.ref I)) Q E s)
    (hwr : ∀ i h, St i h → ∀ b ∈ wr, ∃ o, h.get? b = some o) (hex : ∀ b ∈ ex, b ∉ wr ∧ ∃ o, s₂.heap.get? b = some o)
    (p : Nat → Bool) (R : List Addr → Nat → Value → Heap → Prop)
    (hmono : ∀ bad j y h h', R bad j y h → (∀ b o, b ∉ bad → h.get? b = some o → h'.get? b = some o) → R bad j y h')
    (hcell : ∀ y ∈ scope.names, y.2 ≠ .cell) (hkind : scope.kind = .function) (hst : St 0 s₂.heap) (hfp : ∀ b ∈ fp, b < s₂.heap.objs.size)
    (turn : TurnG prog w A env scope cl target ifs elt ex wr n P p R s₂)
    {RR : Value → Addr → Result → Shared → Prop}
    (hRR : ∀ D C h' tk m' ys, s₂.heap.get? D = none → s₂.heap.get? C = none → D ≠ C → h'.Ns C m' → h'.get? D = some (LCg.lst ys) → Paired (fun j y => R (C :: D :: (ex ++ wr)) j y h') ((List.range n).filter p) ys →
      (∀ b o, b ∉ wr → s₂.heap.get? b = some o → h'.get? b = some o) → RR (.ref D) C (.ok .next) { s₂ with heap := h', toks := tk }) :
    wpAny (model prog w) A (newList []) (fun acc s₃ => wpAny (model prog w) A (newFunctionEnv scope env.globals cl [] env.qual none .none (some env)) (fun cenv s₄ =>
      codeAny (model prog w) A (.compStart (.ListComp elt [⟨target, iter, ifs, 0⟩] scope pos) 0 (.ref I) acc { cenv with scope := relabel scope env }) (RR acc cenv.locals) s₄) E s₃) E s₂ := by
  refine wpAny_newObj_type (wpAny_newFunctionEnv hcell (by intro y hy; simp at hy) (fun h₁ hns₁ hsb₁ => ?_) hkind)
  dsimp only at hns₁ hsb₁ ⊢
  generalize hH2 : s₂.heap.push { cls := .type "list", dict := none, data := .seq ([] : List Value).toArray } = H2 at hns₁ hsb₁ ⊢
  have hC : H2.objs.size = s₂.heap.objs.size + 1 := by rw [← hH2, Heap.size_push]
  have hDC : s₂.heap.objs.size ≠ H2.objs.size := by rw [hC]; exact Nat.ne_of_lt (Nat.lt_succ_self _)
  have below : ∀ b, b < s₂.heap.objs.size → b ≠ H2.objs.size ∧ b ≠ s₂.heap.objs.size := fun b hb => ⟨by rw [hC]; exact Nat.ne_of_lt (Nat.lt_succ_of_lt hb), Nat.ne_of_lt hb⟩
  have hDf : s₂.heap.objs.size ∉ fp := fun hm => Nat.lt_irrefl _ (hfp _ hm)
  have hCf : H2.objs.size ∉ fp := fun hm => by have := hfp _ hm; rw [hC] at this; exact Nat.lt_irrefl _ (Nat.lt_of_succ_lt this)
  have hDw : s₂.heap.objs.size ∉ wr := fun hm => hDf (W.sub _ hm)
  have hCw : H2.objs.size ∉ wr := fun hm => hCf (W.sub _ hm)
  have old : ∀ b o, s₂.heap.get? b = some o → h₁.get? b = some o := fun b o e => hsb₁.extBut b o (below b (Heap.lt_size e)).1 (Heap.get?_push_of_some _ (hH2 ▸ Heap.get?_push_of_some _ e))
  have hacc : h₁.get? s₂.heap.objs.size = some (LCg.lst []) := hsb₁.extBut _ _ hDC (Heap.get?_push_of_some _ (hH2 ▸ Heap.get?_push_size _ rfl))
  have hst₁ : St 0 h₁ := W.frame _ _ _ hst fun b _ o e => old b o e
  have fresh : ∀ a, s₂.heap.objs.size ≤ a → s₂.heap.get? a = none := fun a ha => by
    cases e : s₂.heap.get? a with
    | none => rfl
    | some o' => exact absurd (Heap.lt_size e) (Nat.not_lt.mpr ha)
  have fC : s₂.heap.get? H2.objs.size = none := fresh _ (by rw [hC]; exact Nat.le_succ _)
  have fD : s₂.heap.get? s₂.heap.objs.size = none := fresh _ (Nat.le_refl _)
  have loop : ∀ s₃ : Shared, s₃ = { s₂ with heap := h₁, toks := s₂.toks + ([] : List (Str × Value)).length } →
      codeAny (model prog w) A (.compLoop (.ListComp elt [⟨target, iter, ifs, 0⟩] scope pos) 0 (.ref I) (.ref s₂.heap.objs.size) (compEnvC scope cl H2.objs.size env))
        (RR (.ref s₂.heap.objs.size) H2.objs.size) s₃ := by
    rintro s₃ rfl
    refine loopG
      (fun k s' => ∃ h' tk i ys m', s' = { s₂ with heap := h', toks := tk } ∧ i ≤ n ∧ k = n + 1 - i ∧ St i h' ∧ h'.Ns H2.objs.size m' ∧ h'.get? s₂.heap.objs.size = some (LCg.lst ys) ∧
        Paired (fun j y => R (H2.objs.size :: s₂.heap.objs.size :: (ex ++ wr)) j y h') ((List.range i).filter p) ys ∧ ∀ b o, b ∉ wr → s₂.heap.get? b = some o → h'.get? b = some o) ?_ (n + 1)
      ⟨h₁, _, 0, [], _, rfl, Nat.zero_le _, rfl, hst₁, hns₁, hacc, .nil, fun b o _ e => old b o e⟩
    rintro k s' ⟨h', tk, i, ys, m', rfl, hi, rfl, hst', hn', hD', hP', hk'⟩
    by_cases hlt : i < n
    · refine W.item i _ _ _ hlt hst' fun v h₂ tk₂ hMd hk₂ => ?_
      refine W.go i v _ _ _ hMd fun h₃ hP₃ hst₃ hk₃ => ?_
      have kk : ∀ b o, b ∉ wr → h'.get? b = some o → h₃.get? b = some o := fun b o hb e => hk₃ b o hb (hk₂ b o hb e)
      have hn₃ : h₃.Ns H2.objs.size m' := hn'.at' fun o e => kk _ o hCw e
      have hD₃ := kk _ _ hDw hD'
      have hbad : ∀ b ∈ H2.objs.size :: s₂.heap.objs.size :: (ex ++ wr), ∃ o, h₃.get? b = some o := fun b hb => by
        rcases List.mem_cons.mp hb with rfl | hb
        · obtain ⟨o, _, _, e, _⟩ := hn₃; exact ⟨o, e⟩
        · rcases List.mem_cons.mp hb with rfl | hb
          · exact ⟨_, hD₃⟩
          · rcases List.mem_append.mp hb with hb | hb
            · obtain ⟨hw, o, e⟩ := hex b hb
              exact ⟨o, kk b o hw (hk' b o hw e)⟩
            · exact hwr _ _ hst₃ b hb
      refine wpAny_mono (turn i v _ _ { s₂ with heap := h₃, toks := tk₂ } _ _ hlt hP₃ hn₃ fC (fun b o hb e => kk b o hb (hk' b o hb e)) hbad ⟨_, _, rfl⟩) (fun _ s₄ h₄ => ?_) fun _ _ e => e
      obtain ⟨h₄, tk₄, m₄, rfl, hn₄, hsb₄, ht⟩ := h₄
      refine wpAny_mono ht (fun ok s₅ h₅ => ?_) fun _ _ e => e
      obtain ⟨rfl, ⟨h₅, tk₅, rfl, k₅⟩, hel⟩ := h₅
      have hD₅ : h₅.get? s₂.heap.objs.size = some (LCg.lst ys) := k₅ _ _ (hsb₄ _ _ hDC hD₃)
      have hn₅ : h₅.Ns H2.objs.size m₄ := hn₄.at' fun o e => k₅ _ o e
      have hst₅ : St (i + 1) h₅ := W.frame _ _ _ hst₃ fun b hb o e => k₅ _ _ (hsb₄ b o (fun q => hCf (by have q' : b = H2.objs.size := q; rw [← q']; exact hb)) e)
      have kP : ∀ b o, b ∉ H2.objs.size :: s₂.heap.objs.size :: (ex ++ wr) → h'.get? b = some o → h₅.get? b = some o := fun b o hb e => by
        refine k₅ _ _ (hsb₄ b o (fun q => hb (by have q' : b = H2.objs.size := q; rw [q']; exact List.mem_cons_self)) (kk b o (fun hm => hb (List.mem_cons_of_mem _ (List.mem_cons_of_mem _ (List.mem_append_right _ hm)))) e))
      have hP₅ : Paired (fun j y => R (H2.objs.size :: s₂.heap.objs.size :: (ex ++ wr)) j y h₅) ((List.range i).filter p) ys := paired_mono (fun j y h => hmono _ _ _ _ _ h kP) hP'
      have kO : ∀ b o, b ∉ wr → s₂.heap.get? b = some o → h₅.get? b = some o := fun b o hb e =>
        k₅ _ _ (hsb₄ b o (below b (Heap.lt_size e)).1 (kk b o hb (hk' b o hb e)))
      cases hpi : p i with
      | false =>
        simp only [Bool.false_eq_true, if_false]
        refine ⟨n + 1 - (i + 1), by omega, h₅, tk₅, i + 1, ys, m₄, rfl, hlt, rfl, hst₅, hn₅, hD₅, ?_, kO⟩
        rw [range_filter_succ, hpi]
        simpa using hP₅
      | true =>
        simp only [if_true]
        refine wpAny_mono (hel hpi) (fun y s₆ h₆ => ?_) fun _ _ e => e
        obtain ⟨⟨h₆, tk₆, rfl, k₆⟩, hRy⟩ := h₆
        have hl := paired_len_le p hP'
        refine append_at (k₆ _ _ hD₅) (fun h₇ hs₇ hD₇ => ?_) (by show ys.toArray.size ≤ sizeLine; rw [List.size_toArray]; omega)
        have k67 : ∀ b o, b ∉ H2.objs.size :: s₂.heap.objs.size :: (ex ++ wr) → h₅.get? b = some o → h₇.get? b = some o := fun b o hb e =>
          hs₇.extBut b o (fun q => hb (by have q' : b = s₂.heap.objs.size := q; rw [q']; exact List.mem_cons_of_mem _ List.mem_cons_self)) (k₆ b o e)
        refine ⟨n + 1 - (i + 1), by omega, h₇, tk₆, i + 1, ys ++ [y], m₄, rfl, hlt, rfl, ?_, ?_, hD₇.trans (congrArg some (LCg.lst_snoc ys y)), ?_, ?_⟩
        · exact W.frame _ _ _ hst₅ fun b hb o e => hs₇.extBut b o (fun q => hDf (by have q' : b = s₂.heap.objs.size := q; rw [← q']; exact hb)) (k₆ b o e)
        · exact (hn₅.at' fun o e => k₆ _ o e).sameBut hs₇ (Ne.symm hDC)
        · rw [range_filter_succ, hpi]
          refine Paired.snoc (paired_mono (fun j y h => hmono _ _ _ _ _ h k67) hP₅) ?_
          exact hmono _ _ _ _ _ hRy fun b o hb e => hs₇.extBut b o (fun q => hb (by have q' : b = s₂.heap.objs.size := q; rw [q']; exact List.mem_cons_of_mem _ List.mem_cons_self)) e
        · exact fun b o hb e => hs₇.extBut b o (below b (Heap.lt_size e)).2 (k₆ _ _ (kO b o hb e))
    · obtain rfl : i = n := Nat.le_antisymm hi (Nat.not_lt.mp hlt)
      refine W.done _ _ _ hst' fun h₂ tk₂ hk₂ => ?_
      exact hRR _ _ h₂ tk₂ m' ys fD fC hDC (hn'.at' fun o e => hk₂ _ o hCw e) (hk₂ _ _ hDw hD')
        (paired_mono (fun j y h => hmono _ _ _ _ _ h fun b o hb e => hk₂ b o (fun hm => hb (List.mem_cons_of_mem _ (List.mem_cons_of_mem _ (List.mem_append_right _ hm)))) e) hP') fun b o hb e => hk₂ b o hb (hk' b o hb e)
  exact codeAny_compStart_list (loop _ rfl) (hself _ _ _ hst₁ (loop _ rfl))

/-- an iterator at hand, with all that a comprehension over it wants -/
def SrcG (prog : Program) (w : World) (A : Around) (env : Env) (scope : Scope) (cl : List (Str × Addr)) (target : Expr) (ifs : List Expr) (elt : Expr) (ex : List Addr) (p : Nat → Bool) (R : List Addr → Nat → Value → Heap → Prop)
    (K : Nat → List Addr → Prop) (it : Value) (s₂ : Shared) : Prop :=
  ∃ I fp wr n P Md St, it = .ref I ∧ KTurns prog w A target I fp wr n P Md St ∧ n ≤ sizeLine ∧
    (∀ (s : Shared) (Q : Value → Shared → Prop) (E : Value → Shared → Prop), St 0 s.heap → Q (.ref I) s → wpAny (model prog w) A (pyIter (.ref I)) Q E s) ∧
    (∀ i h, St i h → ∀ b ∈ wr, ∃ o, h.get? b = some o) ∧ (∀ b ∈ ex, b ∉ wr ∧ ∃ o, s₂.heap.get? b = some o) ∧ St 0 s₂.heap ∧ (∀ b ∈ fp, b < s₂.heap.objs.size) ∧ TurnG prog w A env scope cl target ifs elt ex wr n P p R s₂ ∧ K n wr

theorem compG_eval {elt target iter : Expr} {ifs : List Expr} {scope : Scope} {cl : List (Str × Addr)} {pos : Pos} {Q : Value → Shared → Prop} (ex : List Addr) (p : Nat → Bool) (R : List Addr → Nat → Value → Heap → Prop)
    (hmono : ∀ bad j y h h', R bad j y h → (∀ b o, b ∉ bad → h.get? b = some o → h'.get? b = some o) → R bad j y h')
    (hclos : closureFor scope env = pure cl) (hcell : ∀ y ∈ scope.names, y.2 ≠ .cell) (hkind : scope.kind = .function)
    (hnames : ∀ y ∈ scope.names, y.2 = .local → scope.names.lookup y.1 = some .local)
    (h : wpAny (model prog w) A (eval iter env) (fun xv s₁ => wpAny (model prog w) A (pyIter xv) (fun it s₂ =>
      SrcG prog w A env scope cl target ifs elt ex p R (fun n wr => ∀ D C h' tk ys, s₂.heap.get? D = none → s₂.heap.get? C = none → h'.get? D = some (LCg.lst ys) → Paired (fun j y => R (C :: D :: (ex ++ wr)) j y h') ((List.range n).filter p) ys →
        (∀ b o, b ∉ wr → s₂.heap.get? b = some o → h'.get? b = some o) → Q (.ref D) { s₂ with heap := h', toks := tk }) it s₂) E s₁) E s)
    (hs : ∀ x, foldedSetIterable iter env x = pure x := by intro _; rfl) :
    wpAny (model prog w) A (eval (.ListComp elt [⟨target, iter, ifs, 0⟩] scope pos) env) Q E s := by
  rw [eval_ListComp]
  refine wpAny_comprehension_free (use := none) rfl hs hclos hkind hnames (wpAny_mono h (fun xv s₁ h₁ => wpAny_mono h₁ (fun it s₂ h₂ => ?_) fun _ _ e => e) fun _ _ e => e)
  obtain ⟨I, fp, wr, n, P, Md, St, rfl, W, hsz, hself, hwr, hex, hst, hfp, ht, hQ⟩ := h₂
  refine compG (RR := fun acc C => compPost (model prog w) A E none Q acc C) W hsz hself hwr hex p R hmono hcell hkind hst hfp ht ?_
  intro D C h' tk m' ys hD hC hDC hn hl hP hk
  refine ⟨m', hn, fun h'' hs'' => hQ D C h'' tk ys hD hC (hs''.extBut _ _ hDC hl) ?_ fun b o hbf e => hs''.extBut b o (by rintro rfl; rw [hC] at e; cases e) (hk b o hbf e)⟩
  exact paired_mono (fun j y h => hmono _ _ _ _ _ h fun b o hb e => hs''.extBut b o (fun q => hb (by have q' : b = C := q; rw [q']; exact List.mem_cons_self)) e) hP

theorem compG_assign {elt target iter : Expr} {ifs : List Expr} {y : Str} {py : Pos} {scope : Scope} {cl : List (Str × Addr)} {pos spos : Pos} {Q : Flow → Shared → Prop} (p : Nat → Bool) (R : List Addr → Nat → Value → Heap → Prop)
    (hmono : ∀ bad j y h h', R bad j y h → (∀ b o, b ∉ bad → h.get? b = some o → h'.get? b = some o) → R bad j y h')
    (hsw : swapsWith (.ListComp elt [⟨target, iter, ifs, 0⟩] scope pos) (some (.Name y py)) spos.line env = pure true)
    (hclos : closureFor scope env = pure cl) (hcell : ∀ y ∈ scope.names, y.2 ≠ .cell) (hkind : scope.kind = .function)
    (hnames : ∀ y ∈ scope.names, y.2 = .local → scope.names.lookup y.1 = some .local)
    (hy : env.kindOf y = some .local) (hp : (env.scope.kind == .class || (env.scope.kind == .module && env.locals != env.globals)) = false)
    (h : wpAny (model prog w) A (eval iter env) (fun xv s₁ => wpAny (model prog w) A (pyIter xv) (fun it s₂ => ∃ m, s₂.heap.Ns env.locals m ∧
      SrcG prog w A env scope cl target ifs elt [env.locals] p R (fun n wr => ∀ D C h' tk ys, s₂.heap.get? D = none → s₂.heap.get? C = none → h'.get? D = some (LCg.lst ys) → Paired (fun j y => R (C :: D :: ([env.locals] ++ wr)) j y h') ((List.range n).filter p) ys →
        h'.Ns env.locals (fun z => if z = y then some (.ref D) else m z) →
        (∀ b o, b ≠ env.locals → b ∉ wr → s₂.heap.get? b = some o → h'.get? b = some o) → Q .next { s₂ with heap := h', toks := tk }) it s₂) E s₁) E s)
    (hs : ∀ x, foldedSetIterable iter env x = pure x := by intro _; rfl) :
    wpAny (model prog w) A (exec (.Assign [.Name y py] (.ListComp elt [⟨target, iter, ifs, 0⟩] scope pos) spos) env) Q E s := by
  rw [exec_Assign_Name_used _ _ _ _ hsw]
  refine wpAny_bind (wpAny_standAt (wpAny_bind ?_))
  show wpAny _ A (do let _ ← comprehension (.ListComp elt [⟨target, iter, ifs, 0⟩] scope pos) scope env _ (newList []) false (eval iter env) (some (assign (.Name y py) env))) _ _ s
  refine wpAny_bind (wpAny_mono (wpAny_comprehension_free (use := some (assign (.Name y py) env)) (Q := fun _ s' => Q .next s') rfl hs hclos hkind hnames
    (wpAny_mono h (fun xv s₁ h₁ => wpAny_mono h₁ (fun it s₂ h₂ => ?_) fun _ _ e => e) fun _ _ e => e)) (fun _ s' hq => wpAny_pure (wpAny_pure hq)) fun _ _ e => e)
  obtain ⟨m, hn, I, fp, wr, n, P, Md, St, rfl, W, hsz, hself, hwr, hex, hst, hfp, ht, hQ⟩ := h₂
  have hLf : env.locals ∉ wr := (hex _ List.mem_cons_self).1
  refine compG (RR := fun acc C => compPost (model prog w) A E (some (assign (.Name y py) env)) (fun _ s' => Q .next s') acc C) W hsz hself hwr hex p R hmono hcell hkind hst hfp ht ?_
  intro D C h' tk m' ys hD hC hDC hnC hlD hP hk
  have hLC : env.locals ≠ C := by rintro rfl; obtain ⟨o, _, _, ho, _⟩ := hn; rw [hC] at ho; cases ho
  have hLD : env.locals ≠ D := by rintro rfl; obtain ⟨o, _, _, ho, _⟩ := hn; rw [hD] at ho; cases ho
  show wpAny _ A (assign (.Name y py) env (.ref D)) _ _ _
  refine wpAny_assign_Name (wpAny_storeName_local hy (hn.at' fun o e => hk _ o hLf e) (fun h₂ hn₂ hs₂ => ?_) hp)
  refine ⟨m', hnC.sameBut hs₂ (Ne.symm hLC), fun h₃ hs₃ => ?_⟩
  refine hQ D C h₃ _ ys hD hC (hs₃.extBut _ _ hDC (hs₂.extBut _ _ (Ne.symm hLD) hlD)) ?_ (hn₂.sameBut hs₃ hLC) fun b o hbL hbf e =>
    hs₃.extBut b o (by rintro rfl; rw [hC] at e; cases e) (hs₂.extBut b o hbL (hk b o hbf e))
  refine paired_mono (fun j y h => hmono _ _ _ _ _ h fun b o hb e => ?_) hP
  refine hs₃.extBut b o (fun q => hb (by have q' : b = C := q; rw [q']; exact List.mem_cons_self)) (hs₂.extBut b o (fun q => hb ?_) e)
  have q' : b = env.locals := q
  rw [q']
  exact List.mem_cons_of_mem _ (List.mem_cons_of_mem _ (List.mem_append_left _ List.mem_cons_self))
end
end Mine
end
section
open PySem PySem.W PySem.Calls PyProof.Rows
namespace Mine
abbrev casts (ns : List Nat) : List Int := ns.map (fun n : Nat => (n : Int))

def g5 : List Nat := [996825010, 642813549, 513874426, 1027748829, 705979059]
def pmIn (x T : Nat) : Nat → Nat
  | 0 => x
  | i + 1 => pmIn x T i ^^^ (if T >>> i &&& 1 = 1 then g5.getD i 0 else 0)
def pmStep (c v : Nat) : Nat := pmIn (((c &&& 33554431) <<< 5) ^^^ v) (c >>> 25) 5
def pm (vs : List Nat) : Nat := vs.foldl pmStep 1


theorem and_cast (a b : Nat) : Builtin.bitAnd (a : Int) (b : Int) = ((a &&& b : Nat) : Int) := by
  rw [bitAnd_pp (Int.natCast_nonneg a) (Int.natCast_nonneg b)]
  simp
theorem nat_xor_and (a : Nat) : ∀ b : Nat, (a ^^^ b) + 2 * (a &&& b) = a + b := by
  induction a using Nat.strongRecOn with
  | _ a ih =>
    intro b
    by_cases ha : a = 0
    · subst ha; simp
    · have h1 := ih (a / 2) (by omega) (b / 2)
      have hx : a ^^^ b = 2 * ((a / 2) ^^^ (b / 2)) + (a % 2 + b % 2) % 2 := by
        have h2 : (a ^^^ b) / 2 = (a / 2) ^^^ (b / 2) := Nat.xor_div_two
        have h3 : (a ^^^ b) % 2 = (a % 2) ^^^ (b % 2) := by
          have := Nat.xor_mod_two_pow (a := a) (b := b) (n := 1)
          rwa [Nat.pow_one] at this
        have h4 : (a % 2) ^^^ (b % 2) = (a % 2 + b % 2) % 2 := by
          rcases Nat.mod_two_eq_zero_or_one a with e | e <;> rcases Nat.mod_two_eq_zero_or_one b with f | f <;> rw [e, f] <;> rfl
        omega
      have hy : a &&& b = 2 * ((a / 2) &&& (b / 2)) + (a % 2) * (b % 2) := by
        have h2 : (a &&& b) / 2 = (a / 2) &&& (b / 2) := Nat.and_div_two
        have h3 : (a &&& b) % 2 = (a % 2) &&& (b % 2) := by
          have := Nat.and_mod_two_pow (a := a) (b := b) (n := 1)
          rwa [Nat.pow_one] at this
        have h4 : (a % 2) &&& (b % 2) = (a % 2) * (b % 2) := by
          rcases Nat.mod_two_eq_zero_or_one a with e | e <;> rcases Nat.mod_two_eq_zero_or_one b with f | f <;> rw [e, f] <;> rfl
        omega
      rw [hx, hy]
      rcases Nat.mod_two_eq_zero_or_one a with e | e <;> rcases Nat.mod_two_eq_zero_or_one b with f | f <;> rw [e, f] <;> simp <;> omega
theorem xor_cast (a b : Nat) : Builtin.bitXor (a : Int) (b : Int) = ((a ^^^ b : Nat) : Int) := by
  rw [bitXor_and, and_cast]
  have := nat_xor_and a b
  omega
theorem shl_cast (a k : Nat) : (a : Int) * 2 ^ k = ((a <<< k : Nat) : Int) := by
  rw [Nat.shiftLeft_eq]
  simp
theorem shr_cast (a k : Nat) : (a : Int).fdiv (2 ^ k) = ((a >>> k : Nat) : Int) := by
  rw [Nat.shiftRight_eq_div_pow, Int.fdiv_eq_ediv_of_nonneg _ (by exact_mod_cast Nat.zero_le (2 ^ k))]
  simp
theorem mem_casts {ns : List Nat} {n : Int} (h : n ∈ casts ns) : ∃ v, v ∈ ns ∧ n = (v : Int) := by
  obtain ⟨v, hv, e⟩ := List.mem_map.mp h
  exact ⟨v, hv, e.symm⟩
theorem casts_toNat (ns : List Nat) : (casts ns).map Int.toNat = ns := by
  simp [casts, List.map_map, Function.comp_def]

theorem g5_get : ∀ j : Nat, ([996825010, 642813549, 513874426, 1027748829, 705979059] : List Int).getD j 0 = ((g5.getD j 0 : Nat) : Int)
  | 0 => rfl
  | 1 => rfl
  | 2 => rfl
  | 3 => rfl
  | 4 => rfl
  | _ + 5 => rfl
theorem pm_test (c0 j : Nat) : Builtin.bitAnd (((c0 : Int).fdiv (2 ^ Int.toNat 25)).fdiv (2 ^ (j : Int).toNat)) 1 = ((c0 >>> 25 >>> j &&& 1 : Nat) : Int) := by
  have e : Int.toNat 25 = 25 := rfl
  rw [e, shr_cast, Int.toNat_natCast, shr_cast]
  exact and_cast _ 1
theorem and_one (x : Nat) : x &&& 1 = 0 ∨ x &&& 1 = 1 := by
  have := Nat.and_le_right (n := x) (m := 1)
  omega
theorem pm_yes {X c0 j : Nat} {y : Int} (hy : y = ((pmIn X (c0 >>> 25) j : Nat) : Int)) (ha : Builtin.bitAnd (((c0 : Int).fdiv (2 ^ Int.toNat 25)).fdiv (2 ^ (j : Int).toNat)) 1 ≠ 0) :
    Builtin.bitXor y (([996825010, 642813549, 513874426, 1027748829, 705979059] : List Int).getD (j : Int).toNat 0) = ((pmIn X (c0 >>> 25) (j + 1) : Nat) : Int) := by
  rw [pm_test] at ha
  have h1 : c0 >>> 25 >>> j &&& 1 = 1 := by
    rcases and_one (c0 >>> 25 >>> j) with h | h
    · rw [h] at ha; exact absurd rfl ha
    · exact h
  rw [hy, Int.toNat_natCast, g5_get, xor_cast, pmIn, if_pos h1]
theorem pm_no {X c0 j : Nat} {y : Int} (hy : y = ((pmIn X (c0 >>> 25) j : Nat) : Int)) (ha : Builtin.bitAnd (((c0 : Int).fdiv (2 ^ Int.toNat 25)).fdiv (2 ^ (j : Int).toNat)) 1 = 0) :
    Builtin.bitXor y 0 = ((pmIn X (c0 >>> 25) (j + 1) : Nat) : Int) := by
  rw [pm_test] at ha
  have h1 : ¬ c0 >>> 25 >>> j &&& 1 = 1 := by omega
  rw [hy, bitXor_zero, pmIn, if_neg h1, Nat.xor_zero]
theorem sum_bit (p i : Nat) (hi : i < 6) : Builtin.bitAnd ((Builtin.bitXor (p : Int) 1).fdiv (2 ^ (5 * (5 - (i : Int))).toNat)) 31 = (((p ^^^ 1) >>> (5 * (5 - i)) &&& 31 : Nat) : Int) := by
  have e1 : Builtin.bitXor (p : Int) 1 = ((p ^^^ 1 : Nat) : Int) := xor_cast p 1
  have e2 : (5 * (5 - (i : Int))).toNat = 5 * (5 - i) := by omega
  rw [e1, e2, shr_cast]
  exact and_cast _ 31
end Mine
end
section
open PySem PySem.W PySem.Calls PyProof.Rows
namespace Mine
section
variable {prog : Program} {w : World} {A : Around} {E : Value → Shared → Prop} {s : Shared} {env : Env}

/-- an iterator, made at s, that hands on n things -/
def ItG (prog : Program) (w : World) (A : Around) (target : Expr) (n : Nat) (P : Nat → Value → Heap → Prop) (s : Shared) (it : Value) (s₂ : Shared) : Prop :=
  ∃ I fp wr Md St, it = .ref I ∧ KTurns prog w A target I fp wr n P Md St ∧
    (∀ (s : Shared) (Q : Value → Shared → Prop) (E : Value → Shared → Prop), St 0 s.heap → Q (.ref I) s → wpAny (model prog w) A (pyIter (.ref I)) Q E s) ∧
    (∀ i h, St i h → ∀ b ∈ wr, ∃ o, h.get? b = some o) ∧ (∀ b ∈ wr, s.heap.get? b = none) ∧ St 0 s₂.heap ∧ (∀ b ∈ fp, b < s₂.heap.objs.size) ∧ Keeps s s₂

/-- one turn, seen from the state ahead of the iterator -/
def Turn1 (prog : Program) (w : World) (A : Around) (env : Env) (scope : Scope) (cl : List (Str × Addr)) (target : Expr) (ifs : List Expr) (elt : Expr) (n : Nat)
    (P : Nat → Value → Heap → Prop) (p : Nat → Bool) (R : List Addr → Nat → Value → Heap → Prop) (s₁ : Shared) : Prop :=
  ∀ i v C bad s₃ m₃ (E' : Value → Shared → Prop), i < n → P i v s₃.heap → s₃.heap.Ns C m₃ → s₁.heap.get? C = none →
    (∀ b o, s₁.heap.get? b = some o → s₃.heap.get? b = some o) → (∀ b ∈ bad, ∃ o, s₃.heap.get? b = some o) → C ∈ bad → (∃ h tk, s₃ = { s₁ with heap := h, toks := tk }) →
    wpAny (model prog w) A (assign target (compEnvC scope cl C env) v) (fun _ s₄ => ∃ h₄ tk₄ m₄, s₄ = { s₃ with heap := h₄, toks := tk₄ } ∧ h₄.Ns C m₄ ∧ Heap.ExtBut C s₃.heap h₄ ∧
      wpAny (model prog w) A (forIn ifs true fun c r => if r = true then do let ok ← isTrue c (compEnvC scope cl C env) (eval c (compEnvC scope cl C env)); pure (ForInStep.yield ok) else pure (ForInStep.yield r))
        (fun ok s₅ => ok = p i ∧ Keeps s₄ s₅ ∧ (ok = true → wpAny (model prog w) A (eval elt (compEnvC scope cl C env)) (fun y s₆ => Keeps s₅ s₆ ∧ R bad i y s₆.heap) E' s₅)) E' s₄) E' s₃

theorem Turn1.toG {scope : Scope} {cl : List (Str × Addr)} {target : Expr} {ifs : List Expr} {elt : Expr} {ex wr : List Addr} {n : Nat} {P : Nat → Value → Heap → Prop} {p : Nat → Bool} {R : List Addr → Nat → Value → Heap → Prop} {s₁ s₂ : Shared}
    (h : Turn1 prog w A env scope cl target ifs elt n P p R s₁) (k : Keeps s₁ s₂) (hw : ∀ b ∈ wr, s₁.heap.get? b = none) : TurnG prog w A env scope cl target ifs elt ex wr n P p R s₂ := by
  obtain ⟨h₂, tk₂, rfl, k₂⟩ := k
  rintro i v C D s₃ m₃ E' hi hP hn hC hk hbad ⟨h₃, tk₃, rfl⟩
  refine h i v C _ _ m₃ E' hi hP hn ?_ (fun b o e => hk b o (fun hm => by rw [hw b hm] at e; cases e) (k₂ b o e)) hbad List.mem_cons_self ⟨h₃, tk₃, rfl⟩
  cases e : s₁.heap.get? C with
  | none => rfl
  | some o => have := k₂ _ _ e; rw [hC] at this; cases this

theorem none_of_keeps {h h' : Heap} {D : Addr} (k : ∀ b o, h.get? b = some o → h'.get? b = some o) (hD : h'.get? D = none) : h.get? D = none := by
  cases e : h.get? D with
  | none => rfl
  | some o => have := k _ _ e; rw [hD] at this; cases this

theorem comp_eval {elt target iter : Expr} {ifs : List Expr} {scope : Scope} {cl : List (Str × Addr)} {pos : Pos} {Q : Value → Shared → Prop} (p : Nat → Bool) (R : List Addr → Nat → Value → Heap → Prop)
    (hmono : ∀ bad j y h h', R bad j y h → (∀ b o, b ∉ bad → h.get? b = some o → h'.get? b = some o) → R bad j y h')
    (hclos : closureFor scope env = pure cl) (hcell : ∀ y ∈ scope.names, y.2 ≠ .cell) (hkind : scope.kind = .function)
    (hnames : ∀ y ∈ scope.names, y.2 = .local → scope.names.lookup y.1 = some .local)
    (h : wpAny (model prog w) A (eval iter env) (fun xv s₁ => ∃ n P, n ≤ sizeLine ∧ wpAny (model prog w) A (pyIter xv) (ItG prog w A target n P s₁) E s₁ ∧
      Turn1 prog w A env scope cl target ifs elt n P p R s₁ ∧
      ∀ D bad h' tk ys, s₁.heap.get? D = none → h'.get? D = some (LCg.lst ys) → Paired (fun j y => R bad j y h') ((List.range n).filter p) ys →
        (∀ b o, s₁.heap.get? b = some o → h'.get? b = some o) → Q (.ref D) { s₁ with heap := h', toks := tk }) E s)
    (hs : ∀ x, foldedSetIterable iter env x = pure x := by intro _; rfl) :
    wpAny (model prog w) A (eval (.ListComp elt [⟨target, iter, ifs, 0⟩] scope pos) env) Q E s := by
  refine compG_eval [] p R hmono hclos hcell hkind hnames (wpAny_mono h (fun xv s₁ h₁ => ?_) fun _ _ e => e) hs
  obtain ⟨n, P, hsz, hit, ht, hQ⟩ := h₁
  refine wpAny_mono hit (fun it s₂ h₂ => ?_) fun _ _ e => e
  obtain ⟨I, fp, wr, Md, St, rfl, W, hself, hwr, hw₁, hst, hfp, k⟩ := h₂
  refine ⟨I, fp, wr, n, P, Md, St, rfl, W, hsz, hself, hwr, (fun _ hb => nomatch hb), hst, hfp, ht.toG k hw₁, ?_⟩
  obtain ⟨h₂, tk₂, rfl, k₂⟩ := k
  intro D C h' tk ys hD hC hl hP hk
  exact hQ D _ h' tk ys (none_of_keeps k₂ hD) hl hP fun b o e => hk b o (fun hm => by rw [hw₁ b hm] at e; cases e) (k₂ b o e)

/-- the same, where the source was made while it was worked out -/
theorem comp_eval0 {elt target iter : Expr} {ifs : List Expr} {scope : Scope} {cl : List (Str × Addr)} {pos : Pos} {Q : Value → Shared → Prop} (p : Nat → Bool) (R : List Addr → Nat → Value → Heap → Prop)
    (hmono : ∀ bad j y h h', R bad j y h → (∀ b o, b ∉ bad → h.get? b = some o → h'.get? b = some o) → R bad j y h')
    (hclos : closureFor scope env = pure cl) (hcell : ∀ y ∈ scope.names, y.2 ≠ .cell) (hkind : scope.kind = .function)
    (hnames : ∀ y ∈ scope.names, y.2 = .local → scope.names.lookup y.1 = some .local)
    (h : wpAny (model prog w) A (eval iter env) (fun xv s₁ => ∃ s₀ n P, n ≤ sizeLine ∧ wpAny (model prog w) A (pyIter xv) (ItG prog w A target n P s₀) E s₁ ∧
      Turn1 prog w A env scope cl target ifs elt n P p R s₀ ∧
      ∀ D bad h' tk ys, s₀.heap.get? D = none → h'.get? D = some (LCg.lst ys) → Paired (fun j y => R bad j y h') ((List.range n).filter p) ys →
        (∀ b o, s₀.heap.get? b = some o → h'.get? b = some o) → Q (.ref D) { s₀ with heap := h', toks := tk }) E s)
    (hs : ∀ x, foldedSetIterable iter env x = pure x := by intro _; rfl) :
    wpAny (model prog w) A (eval (.ListComp elt [⟨target, iter, ifs, 0⟩] scope pos) env) Q E s := by
  refine compG_eval [] p R hmono hclos hcell hkind hnames (wpAny_mono h (fun xv s₁ h₁ => ?_) fun _ _ e => e) hs
  obtain ⟨s₀, n, P, hsz, hit, ht, hQ⟩ := h₁
  refine wpAny_mono hit (fun it s₂ h₂ => ?_) fun _ _ e => e
  obtain ⟨I, fp, wr, Md, St, rfl, W, hself, hwr, hw₁, hst, hfp, k⟩ := h₂
  refine ⟨I, fp, wr, n, P, Md, St, rfl, W, hsz, hself, hwr, (fun _ hb => nomatch hb), hst, hfp, ht.toG k hw₁, ?_⟩
  obtain ⟨h₂, tk₂, rfl, k₂⟩ := k
  intro D C h' tk ys hD hC hl hP hk
  exact hQ D _ h' tk ys (none_of_keeps k₂ hD) hl hP fun b o e => hk b o (fun hm => by rw [hw₁ b hm] at e; cases e) (k₂ b o e)

theorem comp_assign {elt target iter : Expr} {ifs : List Expr} {y : Str} {py : Pos} {scope : Scope} {cl : List (Str × Addr)} {pos spos : Pos} {Q : Flow → Shared → Prop} (p : Nat → Bool) (R : List Addr → Nat → Value → Heap → Prop)
    (hmono : ∀ bad j y h h', R bad j y h → (∀ b o, b ∉ bad → h.get? b = some o → h'.get? b = some o) → R bad j y h')
    (hsw : swapsWith (.ListComp elt [⟨target, iter, ifs, 0⟩] scope pos) (some (.Name y py)) spos.line env = pure true)
    (hclos : closureFor scope env = pure cl) (hcell : ∀ y ∈ scope.names, y.2 ≠ .cell) (hkind : scope.kind = .function)
    (hnames : ∀ y ∈ scope.names, y.2 = .local → scope.names.lookup y.1 = some .local)
    (hy : env.kindOf y = some .local) (hp : (env.scope.kind == .class || (env.scope.kind == .module && env.locals != env.globals)) = false)
    (h : wpAny (model prog w) A (eval iter env) (fun xv s₁ => ∃ n P m, n ≤ sizeLine ∧ s₁.heap.Ns env.locals m ∧ wpAny (model prog w) A (pyIter xv) (ItG prog w A target n P s₁) E s₁ ∧
      Turn1 prog w A env scope cl target ifs elt n P p R s₁ ∧
      ∀ D bad h' tk ys, s₁.heap.get? D = none → h'.get? D = some (LCg.lst ys) → Paired (fun j y => R bad j y h') ((List.range n).filter p) ys →
        h'.Ns env.locals (fun z => if z = y then some (.ref D) else m z) →
        (∀ b o, b ≠ env.locals → s₁.heap.get? b = some o → h'.get? b = some o) → Q .next { s₁ with heap := h', toks := tk }) E s)
    (hs : ∀ x, foldedSetIterable iter env x = pure x := by intro _; rfl) :
    wpAny (model prog w) A (exec (.Assign [.Name y py] (.ListComp elt [⟨target, iter, ifs, 0⟩] scope pos) spos) env) Q E s := by
  refine compG_assign p R hmono hsw hclos hcell hkind hnames hy hp (wpAny_mono h (fun xv s₁ h₁ => ?_) fun _ _ e => e) hs
  obtain ⟨n, P, m, hsz, hn, hit, ht, hQ⟩ := h₁
  refine wpAny_mono hit (fun it s₂ h₂ => ?_) fun _ _ e => e
  obtain ⟨I, fp, wr, Md, St, rfl, W, hself, hwr, hw₁, hst, hfp, k⟩ := h₂
  obtain ⟨oL, _, _, heL, _⟩ := id hn
  have hLw : env.locals ∉ wr := fun hm => by rw [hw₁ _ hm] at heL; cases heL
  obtain ⟨h₂, tk₂, rfl, k₂⟩ := id k
  refine ⟨m, hn.at' fun o e => k₂ _ o e, I, fp, wr, n, P, Md, St, rfl, W, hsz, hself, hwr, (fun b hb => by
    rw [List.mem_singleton.mp hb]; exact ⟨hLw, oL, k₂ _ _ heL⟩), hst, hfp, ht.toG k hw₁, ?_⟩
  intro D C h' tk ys hD hC hl hP hN hk
  exact hQ D _ h' tk ys (none_of_keeps k₂ hD) hl hP hN fun b o hb e => hk b o hb (fun hm => by rw [hw₁ b hm] at e; cases e) (k₂ b o e)

/-- a target that is a name, no test -/
theorem turn_name {x : Str} {px : Pos} {scope : Scope} {cl : List (Str × Addr)} {elt : Expr} {n : Nat} {P : Nat → Value → Prop} {R : List Addr → Nat → Value → Heap → Prop} {s₁ : Shared}
    (hx : scope.names.lookup x = some .local) (hkind : scope.kind = .function)
    (el : ∀ i v C bad s₄ m₄ (E' : Value → Shared → Prop), i < n → P i v → s₄.heap.Ns C m₄ → m₄ x = some v → s₁.heap.get? C = none →
      (∀ b o, s₁.heap.get? b = some o → s₄.heap.get? b = some o) → (∀ b ∈ bad, ∃ o, s₄.heap.get? b = some o) → C ∈ bad → (∃ h tk, s₄ = { s₁ with heap := h, toks := tk }) →
      wpAny (model prog w) A (eval elt (compEnvC scope cl C env)) (fun y s₆ => Keeps s₄ s₆ ∧ R bad i y s₆.heap) E' s₄) :
    Turn1 prog w A env scope cl (.Name x px) [] elt n (fun i v _ => P i v) (fun _ => true) R s₁ := by
  rintro i v C bad s₃ m₃ E' hi hP hn hC hk hbad hCb ⟨h₃, tk₃, rfl⟩
  refine wpAny_assign_Name (wpAny_storeName_local (lookup_relabel_local hx) hn (fun h₄ hn₄ hs₄ => ?_) (by simp [compEnvC, relabel, hkind]))
  refine ⟨h₄, _, _, rfl, hn₄, hs₄.extBut, wpAny_tests_nil ⟨rfl, ⟨_, _, rfl, fun _ _ e => e⟩, fun _ => ?_⟩⟩
  refine el i v C bad _ _ E' hi hP hn₄ (by simp) hC (fun b o e => hs₄.extBut b o (by rintro rfl; rw [hC] at e; cases e) (hk b o e)) (fun b hb => ?_) hCb ⟨h₄, _, rfl⟩
  by_cases hbC : b = C
  · subst hbC; obtain ⟨o, _, _, e, _⟩ := hn₄; exact ⟨o, e⟩
  · obtain ⟨o, e⟩ := hbad b hb; exact ⟨o, hs₄.extBut b o hbC e⟩

theorem itG_of {I : Addr} {fp : List Addr} {n : Nat} {P : Nat → Value → Prop} {St : Nat → Heap → Prop} {x : Str} {px : Pos} {s₂ : Shared} (W : Walks prog w A I fp [I] n P St)
    (hI : ∀ i h, St i h → ∃ o, h.get? I = some o) (hn : s.heap.get? I = none) (hst : St 0 s₂.heap) (hfp : ∀ b ∈ fp, b < s₂.heap.objs.size) (k : Keeps s s₂) :
    ItG prog w A (.Name x px) n (fun i v _ => P i v) s (.ref I) s₂ :=
  ⟨I, fp, [I], _, St, rfl, KTurns.ofWalks W (fun _ _ _ _ _ _ hQ => by unfold letOwnedTupleGo; exact wpAny_pure hQ), W.self 0, (fun i h st b hb => by rw [List.mem_singleton.mp hb]; exact hI i h st),
    (fun b hb => by rw [List.mem_singleton.mp hb]; exact hn), hst, hfp, k⟩

theorem push_keeps {s : Shared} {o : Obj} : Keeps s { s with heap := s.heap.push o } := ⟨_, _, rfl, fun _ _ e => Heap.get?_push_of_some _ e⟩
theorem size_none (h : Heap) : h.get? h.objs.size = none := by
  cases e : h.get? h.objs.size with
  | none => rfl
  | some o => exact absurd (Heap.lt_size e) (Nat.lt_irrefl _)

theorem it_list {l : Addr} {items : Array Value} {x : Str} {px : Pos} (hh : A.handled = none) (hl : s.heap.IsList l items) :
    wpAny (model prog w) A (pyIter (.ref l)) (ItG prog w A (.Name x px) items.size (fun i v _ => items[i]? = some v) s) E s := by
  have hlt : l < s.heap.objs.size := by obtain ⟨_, e, _⟩ := hl; exact Heap.lt_size e
  refine wpAny_pyIter_list hl ?_
  refine itG_of (Walks.list hh s.heap.objs.size l (Nat.ne_of_lt hlt) items) (fun i h st => by obtain ⟨o, e, _⟩ := st.1; exact ⟨o, e⟩) (size_none _) ⟨⟨_, Heap.get?_push_size _ rfl, rfl, rfl⟩, hl.push _⟩ (fun b hb => ?_) push_keeps
  show b < (s.heap.push _).objs.size
  rw [Heap.size_push]
  rcases List.mem_cons.mp hb with rfl | hb
  · exact Nat.lt_succ_self _
  · rw [List.mem_singleton.mp hb]; exact Nat.lt_succ_of_lt hlt

theorem it_str {y : Str} {t : Tok} {x : Str} {px : Pos} (hh : A.handled = none) :
    wpAny (model prog w) A (pyIter (.str y t)) (ItG prog w A (.Name x px) y.cps.size (fun i v _ => SignAt y i v) s) E s := by
  cases ha : y.cps.all (· < 128)
  · refine wpAny_pyIter_wide ha ?_
    refine itG_of (Walks.strWide hh _ y t) (fun i h st => by obtain ⟨o, e, _⟩ := st; exact ⟨o, e⟩) (size_none _) ⟨_, Heap.get?_push_size _ rfl, rfl, rfl⟩ (fun b hb => ?_) push_keeps
    rw [List.mem_singleton.mp hb]
    show _ < (s.heap.push _).objs.size
    rw [Heap.size_push]; exact Nat.lt_succ_self _
  · refine wpAny_pyIter_ascii ha ?_
    refine itG_of (Walks.strAscii hh _ y t) (fun i h st => by obtain ⟨o, e, _⟩ := st; exact ⟨o, e⟩) (size_none _) ⟨_, Heap.get?_push_size _ rfl, rfl, rfl⟩ (fun b hb => ?_) push_keeps
    rw [List.mem_singleton.mp hb]
    show _ < (s.heap.push _).objs.size
    rw [Heap.size_push]; exact Nat.lt_succ_self _

theorem it_range {r : Addr} {b : Int} {t u v : Tok} {n : Nat} {x : Str} {px : Pos} (hh : A.handled = none) (hr : IsRange s.heap r 0 b 1 t u v) (hsmall : Builtin.Range.small 0 b 1 = true) (hn : Builtin.Range.rangeSize 0 b 1 = (n : Int)) :
    wpAny (model prog w) A (pyIter (.ref r)) (ItG prog w A (.Name x px) n (fun i v _ => ∃ t, v = .int (i : Int) t) s) E s := by
  refine wpAny_pyIter_range hr hsmall ?_
  have W := LCg.range_walks (prog := prog) (w := w) (I := s.heap.objs.size) hh 0 n
  have e : (fun (i : Nat) (v : Value) => ∃ t, v = Value.int (0 + (i : Int)) t) = fun (i : Nat) (v : Value) => ∃ t, v = Value.int (i : Int) t := by
    funext i v; simp
  rw [e] at W
  refine itG_of W (fun i h st => ⟨_, st⟩) (size_none _) (by show IsRangeIter _ _ _ _ _; rw [hn]; simpa using Heap.get?_push_size _ rfl) (fun b hb => ?_) push_keeps
  rw [List.mem_singleton.mp hb]
  show _ < (s.heap.push _).objs.size
  rw [Heap.size_push]; exact Nat.lt_succ_self _

theorem filter_true (n : Nat) : (List.range n).filter (fun _ => true) = List.range n := List.filter_eq_self.mpr fun _ _ => rfl

theorem paired_get {F : Nat → Value → Prop} : ∀ {l : List Nat} {ys : List Value}, Paired F l ys → ∀ (j k : Nat), l[j]? = some k → ∃ y, ys[j]? = some y ∧ F k y
  | _, _, .nil, j, k, e => by simp at e
  | _, _, .cons (b := b) h t, 0, k, e => by
    simp at e; subst e; exact ⟨b, by simp, h⟩
  | _, _, .cons h t, j + 1, k, e => by
    simp at e
    obtain ⟨y, e', hy⟩ := paired_get t j k e
    exact ⟨y, by simpa using e', hy⟩
end
end Mine
end
section
open PySem PySem.W PySem.Calls PyProof.Rows
namespace Mine
theorem warm (w : World) (h : Heap) : (hd.heap_39 w.params).In h → (model PySem.Challenge.rw_vn0023_01.row.prog w) = (model PySem.Challenge.rw_vn0023_01.row.prog w) := by
  k_fill
  intro _; rfl
local macro_rules | `(tactic| walk_at "binaryOp LShift int int") => `(tactic| (refine lshift_int_small (by decide) (by decide) (by assumption) ?_))
local macro_rules | `(tactic| ktr_unf) => `(tactic| (repeat' (first
   | (k_unmd; k_unfold; (try dsimp only))
   | ((fail_if_success (with_reducible show InvEndN _ _ _ _ _ _ _)); (fail_if_success (with_reducible show wpAny _ _ (exec (Stmt.For _ _ _ _ _) _) _ _ _)); (fail_if_success (with_reducible show wpAny _ _ (pyIter _) _ _ _)); (fail_if_success (with_reducible show wpAny _ _ (exec (Stmt.While _ _ _ _) _) _ _ _)); (fail_if_success (with_reducible show wpAny _ _ (eval (Expr.ListComp _ _ _ _) _) _ _ _)); walk1))))

set_option maxRecDepth 100000 in
set_option maxHeartbeats 8000000 in
theorem polymod_call {w : World} {mg mb : Str → Option Value} {s : Shared} {l : Addr} {vs : List Value} {ns : List Nat} {Q E : Value → Shared → Prop}
    (W : Wd w mg mb s.heap) (hl : s.heap.IsList l vs.toArray) (hi : IntsAre vs (casts ns))
    (h : ∀ t h' tk, (∀ b o, s.heap.get? b = some o → h'.get? b = some o) → Q (.int (pm ns : Nat) t) { s with heap := h', toks := tk }) :
    wpAny (model PySem.Challenge.rw_vn0023_01.row.prog w) (Aat 690 3000) (call (.ref 21) [.ref l]) Q E s := by
  have X := W.K
  have T := W.T
  refine' enter (binds := [(Str.ofString "values", Value.ref l)]) X T.nolimit ?k1 ?k2 ?k3 ?k4 ?k5 ?k6 ?k7 ?k8 ?k9 ?_
  case k1 => k_is
  case k2 => k_is
  case k3 => decide
  case k4 => exact BindsTo.of_eq rfl
  case k5 => exact locs rfl
  case k6 => rfl
  case k7 => rfl
  case k8 => rfl
  case k9 => decide
  intro h₁ F N
  k_fold
  ktr_unf
  rename Fr _ _ _ _ => F1
  rename News _ _ _ _ => N1
  refine For_invV s.heap rfl rfl ?_
  ktr_unf
  refine kst_list (σ := Int × Tok) (fun _ => _) (fun c => [(Str.ofString "chk", .int c.1 c.2)]) (fun _ => True) [Str.ofString "top", Str.ofString "i"]
    (fun pre c => c.1 = (((pre.map Int.toNat).foldl pmStep 1 : Nat) : Int)) (1, _) rfl hl hi F1 N1 trivial (by intro p hp; rcases List.mem_singleton.mp hp with rfl; rfl) rfl ?_ ?_
  · rintro ⟨c, ct⟩ pre post n t u h2 tk2 own he hn hoff - hP F2 N2
    obtain ⟨v, hv, rfl⟩ := mem_casts hn
    dsimp only at hP
    generalize hc0 : List.foldl pmStep 1 (List.map Int.toNat pre) = c0 at hP
    subst hP
    have e1 : Builtin.bitAnd (c0 : Int) 33554431 = ((c0 &&& 33554431 : Nat) : Int) := and_cast c0 33554431
    have hcb : (Builtin.bitAnd (c0 : Int) 33554431).natAbs < 2 ^ 64 := by
      rw [e1]
      have : c0 &&& 33554431 ≤ 33554431 := Nat.and_le_right
      omega
    dsimp only at F2 N2 ⊢
    k_unmd; k_fold
    ktr_unf
    refine For_invV s.heap rfl rfl ?_
    ktr_unf
    rename Fr _ _ _ _ => F3
    rename News _ _ _ _ => N3
    rename IsRange _ _ _ _ _ _ _ _ => R3
    dsimp only [List.cons_append, List.nil_append] at N3
    refine kst_range (n := 5) (σ := Int × Tok) (fun _ => _) (fun c => [(Str.ofString "chk", .int c.1 c.2)]) (fun _ => True) []
      (fun pre c => c.1 = ((pmIn (((c0 &&& 33554431) <<< 5) ^^^ v) (c0 >>> 25) pre.length : Nat) : Int)) (_, _) rfl R3 (by decide) (by decide) F3 N3 trivial (by intro p hp; rcases List.mem_singleton.mp hp with rfl; rfl) ?_ ?_ ?_
    · show Builtin.bitXor (Builtin.bitAnd (c0 : Int) 33554431 * 2 ^ 5) (v : Int) = _
      rw [e1, shl_cast, xor_cast]
      rfl
    · rintro ⟨y, yt⟩ pre' k t' u' h4 tk4 own' hk hlt hoff' - hP' F4 N4
      dsimp only at hP' F4 N4 ⊢
      have hk0 : k = ((pre'.length : Nat) : Int) := by omega
      have hpre : (pre' ++ [k]).length = pre'.length + 1 := by simp
      rw [hk0] at F4
      generalize hj : pre'.length = j at hlt hP' F4 hpre
      clear hk hk0
      k_unmd; k_fold
      ktr_unf
      · rename Fr _ _ _ _ => F5
        rename News _ _ _ _ => N5
        rename ¬ _ = _ => ha
        refine kst_end (_, _) F5 N5 (by kst_in) (by intro p hp; kst_mem) rfl trivial (by kst_all) ?_ ?_
        · intro z h1 h2 h3
          have h4 := h2 _ List.mem_cons_self
          simp only [List.contains_cons, List.contains_nil, Bool.or_false, Bool.or_eq_false_iff, beq_eq_false_iff_ne, ne_eq] at h3
          dsimp only at h4
          simp [kstB, h1, h3, h4]
        · show _ = _
          rw [hpre]
          exact pm_yes hP' ha
      · rename Fr _ _ _ _ => F5
        rename News _ _ _ _ => N5
        rename Builtin.bitAnd _ _ = _ => ha
        refine kst_end (_, _) F5 N5 (by kst_in) (by intro p hp; kst_mem) rfl trivial (by kst_all) ?_ ?_
        · intro z h1 h2 h3
          have h4 := h2 _ List.mem_cons_self
          simp only [List.contains_cons, List.contains_nil, Bool.or_false, Bool.or_eq_false_iff, beq_eq_false_iff_ne, ne_eq] at h3
          dsimp only at h4
          simp [kstB, h1, h3, h4]
        · show _ = _
          rw [hpre]
          exact pm_no hP' ha
    · rintro ⟨y, yt⟩ u' h4 tk4 - hP' F4 N4
      dsimp only at hP' F4 N4 ⊢
      ktr_unf
      refine kst_end (y, yt) F4 N4 (by kst_in) (by kst_in) rfl trivial (by kst_all) ?_ ?_
      · intro z h1 h2 h3
        have h4 := h2 _ List.mem_cons_self
        simp only [List.contains_cons, List.contains_nil, Bool.or_false, Bool.or_eq_false_iff, beq_eq_false_iff_ne, ne_eq] at h3
        dsimp only at h4
        simp [kstB, h1, h3, h4]
      show y = _
      rw [hP', List.map_append, List.foldl_append, hc0]
      rfl
  · rintro ⟨c, ct⟩ u h2 tk2 - hP F2 N2
    dsimp only at hP F2 N2 ⊢
    ktr_unf
    dsimp only
    k_unfold
    dsimp only
    rw [hP, casts_toNat]
    exact h _ _ _ F2.keep
end Mine
end
section
open PySem PySem.W PySem.Calls PyProof.Rows
namespace Mine
section
variable {M : Model} {A : Around} {E : Value → Shared → Prop} {s : Shared} {K : Frag} {h₀ : Heap} {L C : Addr} {m mg mb : Str → Option Value} {p : Program} {loose : List Str} {x : Str} {pos : Pos} {v : Value} {Q : Value → Shared → Prop}
  {scope : Scope} {cl : List (Str × Addr)} {env : Env}
theorem nmB (F : Fr h₀ L s.heap m) (X : K.In h₀) (T : TopRead p loose mg mb h₀) (e : nsIn K mainGlobals x = some none) (hv : bootBuiltins x = some v) (hn : x ≠ "__name__") (h : Q v s)
    (hg : (compEnvC scope cl C env).globals = mainGlobals) (hb : (compEnvC scope cl C env).builtins = builtinsNs) (hk : (compEnvC scope cl C env).scope.kind = .function) (hx : (compEnvC scope cl C env).kindOf x = some .globalImplicit) (hd : (x == ("__debug__" : Str)) = false) :
    wpAny M A (eval (.Name x pos) (compEnvC scope cl C env)) Q E s :=
  Name_function_global hk hx (loadGlobal_builtin (env := compEnvC scope cl C env) (by rw [hg]; exact T.g.keeps F.keep) (mg_none_of X T.g e) (by rw [hb]; exact T.b.keeps F.keep) ((T.builtins x hn).trans hv) h) hd
theorem nmL (hn : s.heap.Ns C m) (hv : m x = some v) (h : Q v s) (hk : (compEnvC scope cl C env).scope.kind = .function) (hx : (compEnvC scope cl C env).kindOf x = some .local) (hd : (x == ("__debug__" : Str)) = false) :
    wpAny M A (eval (.Name x pos) (compEnvC scope cl C env)) Q E s :=
  wpAny_Name (wpAny_loadName_local (env := compEnvC scope cl C env) hk hx hn hv h) hd
end
theorem news_add {h₀ h h' : Heap} {L D : Addr} {m : Str → Option Value} {o : Obj} {news : List (Addr × Obj)} (F : Fr h₀ L h m) (N : News h₀ L h news) (hk : ∀ b o, h.get? b = some o → h'.get? b = some o)
    (hD : h.get? D = none) (hl : h'.get? D = some o) : News h₀ L h' ((D, o) :: news) := by
  intro p hp
  rcases List.mem_cons.mp hp with rfl | hp
  · refine ⟨hl, ?_, none_of_keeps F.keep hD⟩
    rintro rfl
    obtain ⟨o', _, _, e, _⟩ := F.ns
    rw [hD] at e; cases e
  · exact N.grown hk p hp
theorem isList_lst {h : Heap} {l : Addr} {ys : List Value} (e : h.get? l = some (LCg.lst ys)) : h.IsList l ys.toArray := ⟨_, e, rfl, _, rfl⟩
theorem isList_of {h : Heap} {l : Addr} {ys : Array Value} {n : Nat} (e : h.get? l = some (PySem.W.listOf ys n)) : h.IsList l ys := ⟨_, e, rfl, _, rfl⟩
/-- a list that stands written at l -/
def LstAt (h : Heap) (l : Addr) (vs : List Value) : Prop := ∃ n, h.get? l = some (PySem.W.listOf vs.toArray n)
theorem LstAt.list {h : Heap} {l : Addr} {vs : List Value} (x : LstAt h l vs) : h.IsList l vs.toArray := let ⟨_, e⟩ := x; ⟨_, e, rfl, _, rfl⟩
theorem LstAt.keeps {h h' : Heap} {l : Addr} {vs : List Value} (x : LstAt h l vs) (k : ∀ b o, h.get? b = some o → h'.get? b = some o) : LstAt h' l vs := let ⟨n, e⟩ := x; ⟨n, k _ _ e⟩
theorem Wd.of {w : World} {mg mb : Str → Option Value} {h₀ h : Heap} {L : Addr} {m : Str → Option Value} (X : (hd.heap_39 w.params).In h₀) (T : TopRead hd.view_39 Lo mg mb h₀) (F : Fr h₀ L h m) : Wd w mg mb h :=
  ⟨X.keeps F.keep, T.keeps F.keep⟩
theorem isList_keeps {h h' : Heap} {l : Addr} {vs : Array Value} (x : h.IsList l vs) (k : ∀ b o, h.get? b = some o → h'.get? b = some o) : h'.IsList l vs := let ⟨o, e, r⟩ := x; ⟨o, k _ _ e, r⟩
theorem ints_at {vs : List Value} {ns : List Nat} {i : Nat} {v : Value} (hi : IntsAre vs (casts ns)) (h : vs.toArray[i]? = some v) : ∃ n t, ns[i]? = some n ∧ v = Value.int (n : Int) t := by
  obtain ⟨k, t, e, hk⟩ := IntsAre.at hi i v (by simpa using h)
  simp [casts] at hk
  obtain ⟨n, hn, rfl⟩ := hk
  exact ⟨n, t, hn, e⟩
theorem item_ch {prog : Program} {w : World} {A : Around} {E : Value → Shared → Prop} {s : Shared} {value slice : Expr} {x : Str} {t u : Tok} {k c : Nat} {Q : Value → Shared → Prop} (hc : x.cps[k]? = some c) (hk : k < 2 ^ 62)
    (h : Q (.str ⟨#[c]⟩ s.toks) { s with toks := s.toks + 1 })
    (hs : subscripted slice false (.str x t) (.int (k : Int) u) = operate [.str x t, .int (k : Int) u] (getItem (.str x t) (.int (k : Int) u)) := by with_unfolding_all rfl) :
    wpAny (model prog w) A (subscriptTail value slice (.str x t) (.int (k : Int) u)) Q E s := by
  refine tail_any (typeIs_str s x t) F.slot_str_getitem.lookup (P.getItem_str (by simp; omega) ?_ h) hs
  have hlt : k < x.cps.size := by
    rcases Nat.lt_or_ge k x.cps.size with q | q
    · exact q
    · rw [Array.getElem?_eq_none q] at hc; cases hc
  have e : seqIndex? (k : Int) x.length = some k := by
    unfold seqIndex?
    have h1 : ¬ ((k : Int) < 0) := by omega
    have h2 : (k : Int) < (x.length : Int) := by show (k : Int) < (x.cps.size : Int); omega
    dsimp only
    rw [if_neg h1, if_pos (by rw [Bool.and_eq_true]; exact ⟨decide_eq_true (by omega), decide_eq_true h2⟩), Int.toNat_natCast]
  rw [e]
  exact hc
theorem ints_of_paired {f : Nat → Int} {l : List Nat} {ys : List Value} (h : Paired (fun j y => ∃ t, y = Value.int (f j) t) l ys) : IntsAre ys (l.map f) := by
  induction h with
  | nil => exact .nil
  | cons h _ ih => obtain ⟨t, rfl⟩ := h; exact .cons _ _ ih
theorem map_range_getD {α β : Type} (l : List α) (d : α) (g : α → β) : (List.range l.length).map (fun j => g (l.getD j d)) = l.map g := by
  apply List.ext_getElem
  · simp
  · intro i h1 h2
    simp at h1
    simp [List.getD_eq_getElem?_getD, h1]
end Mine
end
section
open PySem PySem.W PySem.Calls PyProof.Rows
set_option linter.unusedSimpArgs false
set_option linter.unusedVariables false
namespace Mine
local macro_rules | `(tactic| walk_at "binaryOp LShift int int") => `(tactic| (refine lshift_int_small (by decide) (by decide) (by assumption) ?_))
local macro_rules | `(tactic| walk_at "eval Name") => `(tactic| (k_here; (with_reducible show wpAny _ _ (eval _ (compEnvC _ _ _ _)) _ _ _); k_dflt (first
  | (refine' nmL ?n ?v ?_ ?a ?b ?c; (case a => rfl); (case b => rfl); (case c => decide); (case n => assumption); (case v => assumption); k_whole)
  | (refine' nmB ?F ?X ?T ?e ?v ?n ?_ ?a ?b ?c ?d ?g; (case a => rfl); (case b => rfl); (case c => rfl); (case d => rfl); (case g => decide); (case F => k_asm); (case X => k_asm); (case T => k_asm); (case e => k_is); (case v => boot_fast); (case n => decide); k_whole)
  | (refine' nameG_K ?F ?X ?T ?e ?_ ?a ?b ?c ?d; (case a => rfl); (case b => rfl); (case c => rfl); (case d => decide); (case F => k_asm); (case X => k_asm); (case T => k_asm); (case e => k_is); k_whole))))
local macro_rules | `(tactic| ktr_unf) => `(tactic| (repeat' (first
   | (k_unmd; k_unfold; (try dsimp only))
   | ((fail_if_success (with_reducible show Exists _)); (fail_if_success (with_reducible show Keeps _ _ ∧ _)); (fail_if_success (with_reducible show InvEndN _ _ _ _ _ _ _)); (fail_if_success (with_reducible show wpAny _ _ (exec (Stmt.For _ _ _ _ _) _) _ _ _)); (fail_if_success (with_reducible show wpAny _ _ (pyIter _) _ _ _)); (fail_if_success (with_reducible show wpAny _ _ (exec (Stmt.While _ _ _ _) _) _ _ _)); (fail_if_success (with_reducible show wpAny _ _ (eval (Expr.ListComp _ _ _ _) _) _ _ _)); walk1))))

def hexp (x : List Nat) : List Nat := x.map (· >>> 5) ++ [0] ++ x.map (· &&& 31)

set_option maxRecDepth 100000 in
set_option maxHeartbeats 8000000 in
theorem hrp_call {w : World} {mg mb : Str → Option Value} {s : Shared} {x : Str} {t : Tok} {Q E : Value → Shared → Prop}
    (W : Wd w mg mb s.heap) (hx : x.cps.size ≤ 100)
    (h : ∀ l vs h' tk, (∀ b o, s.heap.get? b = some o → h'.get? b = some o) → s.heap.get? l = none → LstAt h' l vs → IntsAre vs (casts (hexp x.cps.toList)) → Q (.ref l) { s with heap := h', toks := tk }) :
    wpAny (model PySem.Challenge.rw_vn0023_01.row.prog w) (Aat 690 3000) (call (.ref 26) [.str x t]) Q E s := by
  have X := W.K
  have T := W.T
  refine' enter (binds := [(Str.ofString "hrp", Value.str x t)]) X T.nolimit ?k1 ?k2 ?k3 ?k4 ?k5 ?k6 ?k7 ?k8 ?k9 ?_
  case k1 => k_is
  case k2 => k_is
  case k3 => decide
  case k4 => exact BindsTo.of_eq rfl
  case k5 => exact locs rfl
  case k6 => rfl
  case k7 => rfl
  case k8 => rfl
  case k9 => decide
  intro h₁ F N
  k_fold
  ktr_unf
  refine comp_eval (fun _ => true) (fun _ j y _ => ∃ t, y = .int ((x.cps.toList.getD j 0 >>> 5 : Nat) : Int) t) (fun _ _ _ _ _ h _ => h) rfl (by decide) rfl (by decide) ?_
  ktr_unf
  refine ⟨x.cps.size, _, by rw [sizeLine_eq]; omega, it_str rfl, turn_name (by decide) rfl ?_, ?_⟩
  · rintro i v C bad s₄ m₄ E' hi ⟨c, u, hc, rfl⟩ hn hx4 hC hk hbad hCb ⟨h4, tk4, rfl⟩
    dsimp only at hn hk
    have F4 : Fr s.heap s.heap.objs.size h4 _ := F.keeps hk
    have N4 : News s.heap s.heap.objs.size h4 _ := N.grown hk
    k_unmd; k_fold
    ktr_unf
    refine ⟨⟨_, _, rfl, fun _ _ e => e⟩, ?_⟩
    have e1 : x.cps.toList.getD i 0 = c := by simp [List.getD_eq_getElem?_getD, hc]
    have e2 : Int.toNat 5 = 5 := rfl
    rw [e1, e2, shr_cast]
    exact ⟨_, rfl⟩
  · intro D bad h5 tk5 ys hD hl hP hk
    rw [filter_true] at hP
    have I5 := ints_of_paired hP
    have e0 := map_range_getD x.cps.toList 0 (fun c => ((c >>> 5 : Nat) : Int))
    rw [Array.length_toList] at e0
    rw [e0] at I5
    dsimp only at hk
    have N5 := news_add F N hk hD hl
    have F5 := F.keeps hk
    clear F N hP e0 hD hl
    k_unmd; k_fold
    ktr_unf
    rename Fr _ _ _ _ => F6
    rename News _ _ _ _ => N6
    refine add_lists_ints F6 N6 (isList_lst (N6.get (.tail _ (.head _)))) (isList_of (N6.get (.head _))) I5 (.cons 0 _ .nil) (fun h7 F7 N7 I7 => ?_) (by simp [sizeLine_eq]; omega)
    k_unmd; k_fold
    ktr_unf
    refine comp_eval (fun _ => true) (fun _ j y _ => ∃ t, y = .int ((x.cps.toList.getD j 0 &&& 31 : Nat) : Int) t) (fun _ _ _ _ _ h _ => h) rfl (by decide) rfl (by decide) ?_
    ktr_unf
    refine ⟨x.cps.size, _, by rw [sizeLine_eq]; omega, it_str rfl, turn_name (by decide) rfl ?_, ?_⟩
    · rintro i v C bad s₄ m₄ E' hi ⟨c, u, hc, rfl⟩ hn hx4 hC hk hbad hCb ⟨h4, tk4, rfl⟩
      dsimp only at hn hk
      have F4 : Fr s.heap s.heap.objs.size h4 _ := F7.keeps hk
      have N4 : News s.heap s.heap.objs.size h4 _ := N7.grown hk
      k_unmd; k_fold
      ktr_unf
      refine ⟨⟨_, _, rfl, fun _ _ e => e⟩, ?_⟩
      have e1 : x.cps.toList.getD i 0 = c := by simp [List.getD_eq_getElem?_getD, hc]
      have e3 : Builtin.bitAnd (c : Int) 31 = ((c &&& 31 : Nat) : Int) := and_cast c 31
      rw [e1, e3]
      exact ⟨_, rfl⟩
    · intro D8 bad h8 tk8 ys8 hD hl hP hk8
      rw [filter_true] at hP
      have I8 := ints_of_paired hP
      have e0 := map_range_getD x.cps.toList 0 (fun c => ((c &&& 31 : Nat) : Int))
      rw [Array.length_toList] at e0
      rw [e0] at I8
      dsimp only at hk8
      have N8 := news_add F7 N7 hk8 hD hl
      have F8 := F7.keeps hk8
      refine add_lists_ints F8 N8 (isList_of (n := 0) (N8.get (.tail _ (.head _)))) (isList_lst (N8.get (.head _))) I7 I8 (fun h9 F9 N9 I9 => ?_) (by simp [sizeLine_eq]; omega)
      k_unmd; k_unfold
      dsimp only
      refine h _ _ _ _ F9.keep (N9.fresh (.head _)) ⟨0, N9.get (.head _)⟩ ?_
      simpa [hexp, casts, List.map_map, Function.comp_def] using I9
end Mine
end
section
open PySem PySem.W PySem.Calls PyProof.Rows
set_option linter.unusedSimpArgs false
set_option linter.unusedVariables false
namespace Mine
local macro_rules | `(tactic| walk_at "binaryOp LShift int int") => `(tactic| (refine lshift_int_small (by decide) (by decide) (by assumption) ?_))
local macro_rules | `(tactic| walk_at "eval Name") => `(tactic| (k_here; (with_reducible show wpAny _ _ (eval _ (compEnvC _ _ _ _)) _ _ _); k_dflt (first
  | (refine' kcf_cell ?N ?c ?m ?d ?_ ?a ?b ?e; (case a => rfl); (case b => rfl); (case e => decide); (case N => k_asm); (case c => rfl); (case m => k_mem); (case d => k_asm); k_whole)
  | (refine' nmL ?n ?v ?_ ?a ?b ?c; (case a => rfl); (case b => rfl); (case c => decide); (case n => assumption); (case v => assumption); k_whole)
  | (refine' nmB ?F ?X ?T ?e ?v ?n ?_ ?a ?b ?c ?d ?g; (case a => rfl); (case b => rfl); (case c => rfl); (case d => rfl); (case g => decide); (case F => k_asm); (case X => k_asm); (case T => k_asm); (case e => k_is); (case v => boot_fast); (case n => decide); k_whole)
  | (refine' nameG_K ?F ?X ?T ?e ?_ ?a ?b ?c ?d; (case a => rfl); (case b => rfl); (case c => rfl); (case d => decide); (case F => k_asm); (case X => k_asm); (case T => k_asm); (case e => k_is); k_whole))))
local macro_rules | `(tactic| ktr_unf) => `(tactic| (repeat' (first
   | (k_unmd; k_unfold; (try dsimp only))
   | ((fail_if_success (with_reducible show Exists _)); (fail_if_success (with_reducible show Keeps _ _ ∧ _)); (fail_if_success (with_reducible show InvEndN _ _ _ _ _ _ _)); (fail_if_success (with_reducible show wpAny _ _ (exec (Stmt.For _ _ _ _ _) _) _ _ _)); (fail_if_success (with_reducible show wpAny _ _ (pyIter _) _ _ _)); (fail_if_success (with_reducible show wpAny _ _ (PySem.call (Value.ref _) _) _ _ _)); (fail_if_success (with_reducible show wpAny _ _ (exec (Stmt.While _ _ _ _) _) _ _ _)); (fail_if_success (with_reducible show wpAny _ _ (eval (Expr.ListComp _ _ _ _) _) _ _ _)); walk1))))

def sums6 (p : Nat) : List Nat := (List.range 6).map fun i => p >>> (5 * (5 - i)) &&& 31
def create (x data : List Nat) : List Nat := sums6 (pm (hexp x ++ data ++ [0, 0, 0, 0, 0, 0]) ^^^ 1)

set_option maxRecDepth 100000 in
set_option maxHeartbeats 8000000 in
theorem create_call {w : World} {mg mb : Str → Option Value} {s : Shared} {x : Str} {t : Tok} {l : Addr} {vs : List Value} {ns : List Nat} {Q E : Value → Shared → Prop}
    (W : Wd w mg mb s.heap) (hx : x.cps.size ≤ 100) (hl : s.heap.IsList l vs.toArray) (hi : IntsAre vs (casts ns)) (hlen : ns.length ≤ 100)
    (h : ∀ r us h' tk, (∀ b o, s.heap.get? b = some o → h'.get? b = some o) → s.heap.get? r = none → LstAt h' r us → IntsAre us (casts (create x.cps.toList ns)) → Q (.ref r) { s with heap := h', toks := tk }) :
    wpAny (model PySem.Challenge.rw_vn0023_01.row.prog w) (Aat 680 2900) (call (.ref 38) [.str x t, .ref l]) Q E s := by
  have X := W.K
  have T := W.T
  refine' enterC (binds := [(Str.ofString "hrp", Value.str x t), (Str.ofString "data", Value.ref l)]) X T.nolimit ?k1 ?k2 ?k3 ?k4 ?k5 ?k6 ?k7 ?k8 ?k9 ?_
  case k1 => k_is
  case k2 => k_is
  case k3 => decide
  case k4 => exact BindsTo.of_eq rfl
  case k5 => rfl
  case k6 => decide +kernel
  case k7 => rfl
  case k8 => rfl
  case k9 => rfl
  intro h₁ tk₁ cells F N Y
  k_cells Y
  k_unmd; k_fold
  ktr_unf
  refine weaken 690 3000 (hrp_call (Wd.of X T F) hx ?_) rfl (Nat.le_of_ble_eq_true rfl) (Nat.le_of_ble_eq_true rfl)
  intro l1 vs1 h1 tk1 hk1 hf1 hl1 hi1
  obtain ⟨n1, hl1⟩ := hl1
  dsimp only at hk1 hf1
  have N1 := news_add F N hk1 hf1 hl1
  have F1 := F.keeps hk1
  clear F N
  k_unmd; k_fold
  ktr_unf
  rename Fr _ _ _ _ => F2
  rename News _ _ _ _ => N2
  have hlenx : (casts (hexp x.cps.toList)).length ≤ 201 := by simp [hexp]; omega
  have hlend : (casts ns).length ≤ 100 := by simpa using hlen
  refine add_lists_ints F2 N2 (isList_of (N2.get (.tail _ (.head _)))) (isList_of (N2.get (.head _))) hi1 hi (fun h3 F3 N3 I3 => ?_) (by rw [sizeLine_eq]; omega)
  k_unmd; k_fold
  ktr_unf
  rename Fr _ _ _ _ => F4
  rename News _ _ _ _ => N4
  rename IntsAre _ _ => I4
  have e4 : casts (hexp x.cps.toList) ++ casts ns ++ [0, 0, 0, 0, 0, 0] = casts (hexp x.cps.toList ++ ns ++ [0, 0, 0, 0, 0, 0]) := by simp [casts]
  rw [e4] at I4
  refine weaken 690 3000 (polymod_call (Wd.of X T F4) (isList_of (N4.get (.head _))) I4 ?_) rfl (Nat.le_of_ble_eq_true rfl) (Nat.le_of_ble_eq_true rfl)
  intro t6 h6 tk6 hk6
  dsimp only at hk6
  have F6 := F4.keeps hk6
  have N6 := N4.grown hk6
  clear F4 N4
  k_unmd; k_fold
  ktr_unf
  rename Fr _ _ _ _ => F7
  rename News _ _ _ _ => N7
  have N8 : News s.heap s.heap.objs.size h6 [(s.heap.objs.size + 1, _)] := fun p hp => N7 p (by rw [List.mem_singleton.mp hp]; k_memK)
  clear N7
  ktr_unf
  rename Fr _ _ _ _ => F9
  rename News _ _ _ _ => N9
  refine comp_eval (fun _ => true) (fun _ j y _ => ∃ t, y = .int (((pm (hexp x.cps.toList ++ ns ++ [0, 0, 0, 0, 0, 0]) ^^^ 1) >>> (5 * (5 - j)) &&& 31 : Nat) : Int) t) (fun _ _ _ _ _ h _ => h) rfl (by decide) rfl (by decide) ?_
  ktr_unf
  rename IsRange _ _ _ _ _ _ _ _ => R9
  rename Fr _ _ _ _ => F10
  rename News _ _ _ _ => N10
  refine ⟨6, _, by rw [sizeLine_eq]; omega, it_range rfl R9 (by decide) (by decide), turn_name (by decide) rfl ?_, ?_⟩
  · rintro i v C bad s₄ m₄ E' hi ⟨u, rfl⟩ hn hx4 hC hk hbad hCb ⟨h4, tk4, rfl⟩
    dsimp only at hn hk
    have F4 : Fr s.heap s.heap.objs.size h4 _ := F10.keeps hk
    have N4 : News s.heap s.heap.objs.size h4 _ := N10.grown hk
    k_unmd; k_fold
    ktr_unf
    refine ⟨⟨_, _, rfl, fun _ _ e => e⟩, ?_⟩
    rw [sum_bit _ i hi]
    exact ⟨_, rfl⟩
  · intro D8 bad h8 tk8 ys8 hD hl hP hk8
    dsimp only at hD hk8
    rw [filter_true] at hP
    have I8 := ints_of_paired hP
    k_unmd; k_unfold
    dsimp only
    refine h _ _ _ _ (fun b o e => hk8 b o (F10.keep b o e)) (none_of_keeps F10.keep hD) ⟨_, hl⟩ ?_
    simpa [create, sums6, casts, List.map_map, Function.comp_def] using I8
end Mine
end
section
open PySem PySem.W PySem.Calls PyProof.Rows
set_option linter.unusedSimpArgs false
set_option linter.unusedVariables false
namespace Mine
local macro_rules | `(tactic| walk_at "binaryOp LShift int int") => `(tactic| (refine lshift_int_small (by decide) (by decide) (by assumption) ?_))
local macro_rules | `(tactic| walk_at "eval Name") => `(tactic| (k_here; (with_reducible show wpAny _ _ (eval _ (compEnvC _ _ _ _)) _ _ _); k_dflt (first
  | (refine' kcf_cell ?N ?c ?m ?d ?_ ?a ?b ?e; (case a => rfl); (case b => rfl); (case e => decide); (case N => k_asm); (case c => rfl); (case m => k_mem); (case d => k_asm); k_whole)
  | (refine' nmL ?n ?v ?_ ?a ?b ?c; (case a => rfl); (case b => rfl); (case c => decide); (case n => assumption); (case v => assumption); k_whole)
  | (refine' nmB ?F ?X ?T ?e ?v ?n ?_ ?a ?b ?c ?d ?g; (case a => rfl); (case b => rfl); (case c => rfl); (case d => rfl); (case g => decide); (case F => k_asm); (case X => k_asm); (case T => k_asm); (case e => k_is); (case v => boot_fast); (case n => decide); k_whole)
  | (refine' nameG_K ?F ?X ?T ?e ?_ ?a ?b ?c ?d; (case a => rfl); (case b => rfl); (case c => rfl); (case d => decide); (case F => k_asm); (case X => k_asm); (case T => k_asm); (case e => k_is); k_whole))))
local macro_rules | `(tactic| ktr_unf) => `(tactic| (repeat' (first
   | (k_unmd; k_unfold; (try dsimp only))
   | ((fail_if_success (with_reducible show Exists _)); (fail_if_success (with_reducible show Keeps _ _ ∧ _)); (fail_if_success (with_reducible show InvEndN _ _ _ _ _ _ _)); (fail_if_success (with_reducible show wpAny _ _ (exec (Stmt.For _ _ _ _ _) _) _ _ _)); (fail_if_success (with_reducible show wpAny _ _ (pyIter _) _ _ _)); (fail_if_success (with_reducible show wpAny _ _ (PySem.call (Value.ref _) _) _ _ _)); (fail_if_success (with_reducible show wpAny _ _ (exec (Stmt.While _ _ _ _) _) _ _ _)); (fail_if_success (with_reducible show wpAny _ _ (eval (Expr.ListComp _ _ _ _) _) _ _ _)); walk1))))

set_option maxRecDepth 100000 in
set_option maxHeartbeats 8000000 in
theorem verify_call {w : World} {mg mb : Str → Option Value} {s : Shared} {x : Str} {t : Tok} {l : Addr} {vs : List Value} {ns : List Nat} {Q E : Value → Shared → Prop}
    (W : Wd w mg mb s.heap) (hx : x.cps.size ≤ 100) (hl : s.heap.IsList l vs.toArray) (hi : IntsAre vs (casts ns)) (hlen : ns.length ≤ 100)
    (h : ∀ h' tk, (∀ b o, s.heap.get? b = some o → h'.get? b = some o) → Q (.bool (decide (pm (hexp x.cps.toList ++ ns) = 1))) { s with heap := h', toks := tk }) :
    wpAny (model PySem.Challenge.rw_vn0023_01.row.prog w) (Aat 680 2900) (call (.ref 33) [.str x t, .ref l]) Q E s := by
  have X := W.K
  have T := W.T
  refine' enter (binds := [(Str.ofString "hrp", Value.str x t), (Str.ofString "data", Value.ref l)]) X T.nolimit ?k1 ?k2 ?k3 ?k4 ?k5 ?k6 ?k7 ?k8 ?k9 ?_
  case k1 => k_is
  case k2 => k_is
  case k3 => decide
  case k4 => exact BindsTo.of_eq rfl
  case k5 => exact locs rfl
  case k6 => rfl
  case k7 => rfl
  case k8 => rfl
  case k9 => decide
  intro h₁ F N
  k_unmd; k_fold
  ktr_unf
  refine weaken 690 3000 (hrp_call (Wd.of X T F) hx ?_) rfl (Nat.le_of_ble_eq_true rfl) (Nat.le_of_ble_eq_true rfl)
  intro l1 vs1 h1 tk1 hk1 hf1 hl1 hi1
  obtain ⟨n1, hl1⟩ := hl1
  dsimp only at hk1 hf1
  have N1 := news_add F N hk1 hf1 hl1
  have F1 := F.keeps hk1
  clear F N
  k_unmd; k_fold
  ktr_unf
  rename Fr _ _ _ _ => F2
  rename News _ _ _ _ => N2
  have hlenx : (casts (hexp x.cps.toList)).length ≤ 201 := by simp [hexp]; omega
  have hlend : (casts ns).length ≤ 100 := by simpa using hlen
  refine add_lists_ints F2 N2 (isList_of (N2.get (.tail _ (.head _)))) (isList_of (N2.get (.head _))) hi1 hi (fun h3 F3 N3 I3 => ?_) (by rw [sizeLine_eq]; omega)
  k_unmd; k_fold
  ktr_unf
  rw [show casts (hexp x.cps.toList) ++ casts ns = casts (hexp x.cps.toList ++ ns) by simp [casts]] at I3
  refine weaken 690 3000 (polymod_call (Wd.of X T F3) (isList_of (n := 0) (N3.get (.head _))) I3 ?_) rfl (Nat.le_of_ble_eq_true rfl) (Nat.le_of_ble_eq_true rfl)
  intro t6 h6 tk6 hk6
  dsimp only at hk6
  have F6 := F3.keeps hk6
  have N6 := N3.grown hk6
  clear F3 N3
  k_unmd; k_fold
  ktr_unf
  have e6 : (((pm (hexp x.cps.toList ++ ns) : Nat) : Int) == 1) = decide (pm (hexp x.cps.toList ++ ns) = 1) := by
    by_cases hc : pm (hexp x.cps.toList ++ ns) = 1
    · rw [hc]; rfl
    · rw [decide_eq_false hc, beq_eq_false_iff_ne]
      intro e
      exact hc (by omega)
  rw [e6]
  exact h _ _ F6.keep
end Mine
end
section
open PySem PySem.W PySem.Calls PyProof.Rows
set_option linter.unusedSimpArgs false
set_option linter.unusedVariables false
namespace Mine
local macro_rules | `(tactic| walk_at "binaryOp LShift int int") => `(tactic| (refine lshift_int_small (by decide) (by decide) (by assumption) ?_))
local macro_rules | `(tactic| walk_at "eval Name") => `(tactic| (k_here; (with_reducible show wpAny _ _ (eval _ (compEnvC _ _ _ _)) _ _ _); k_dflt (first
  | (refine' kcf_cell ?N ?c ?m ?d ?_ ?a ?b ?e; (case a => rfl); (case b => rfl); (case e => decide); (case N => k_asm); (case c => rfl); (case m => k_mem); (case d => k_asm); k_whole)
  | (refine' nmL ?n ?v ?_ ?a ?b ?c; (case a => rfl); (case b => rfl); (case c => decide); (case n => assumption); (case v => assumption); k_whole)
  | (refine' nmB ?F ?X ?T ?e ?v ?n ?_ ?a ?b ?c ?d ?g; (case a => rfl); (case b => rfl); (case c => rfl); (case d => rfl); (case g => decide); (case F => k_asm); (case X => k_asm); (case T => k_asm); (case e => k_is); (case v => boot_fast); (case n => decide); k_whole)
  | (refine' nameG_K ?F ?X ?T ?e ?_ ?a ?b ?c ?d; (case a => rfl); (case b => rfl); (case c => rfl); (case d => decide); (case F => k_asm); (case X => k_asm); (case T => k_asm); (case e => k_is); k_whole))))
local macro_rules | `(tactic| ktr_unf) => `(tactic| (repeat' (first
   | (k_unmd; k_unfold; (try dsimp only))
   | ((fail_if_success (with_reducible show Exists _)); (fail_if_success (with_reducible show Keeps _ _ ∧ _)); (fail_if_success (with_reducible show InvEndN _ _ _ _ _ _ _)); (fail_if_success (with_reducible show wpAny _ _ (exec (Stmt.For _ _ _ _ _) _) _ _ _)); (fail_if_success (with_reducible show wpAny _ _ (pyIter _) _ _ _)); (fail_if_success (with_reducible show wpAny _ _ (PySem.call (Value.ref _) _) _ _ _)); (fail_if_success (with_reducible show wpAny _ _ (exec (Stmt.While _ _ _ _) _) _ _ _)); (fail_if_success (with_reducible show wpAny _ _ (eval (Expr.ListComp _ _ _ _) _) _ _ _)); walk1))))

def CH : List Nat := [113, 112, 122, 114, 121, 57, 120, 56, 103, 102, 50, 116, 118, 100, 119, 48, 115, 51, 106, 110, 53, 52, 107, 104, 99, 101, 54, 109, 117, 97, 55, 108]
def chs (ds : List Nat) : List Nat := ds.map fun d => CH.getD d 0
def addr (x ns : List Nat) : List Nat := x ++ [49] ++ chs (ns ++ create x ns)

theorem charset_is : Str.ofString "qpzry9x8gf2tvdw0s3jn54khce6mua7l" = ⟨CH.toArray⟩ := by decide +kernel
theorem charset_get {n : Nat} (h : n < 32) : (Str.ofString "qpzry9x8gf2tvdw0s3jn54khce6mua7l").cps[n]? = some (CH.getD n 0) := by
  rw [charset_is]
  have hl : CH.length = 32 := rfl
  have : n < CH.length := by omega
  simp [List.getD_eq_getElem?_getD, this]
theorem sums6_lt (p : Nat) : ∀ n ∈ sums6 p, n < 32 := by
  intro n hn
  obtain ⟨i, _, rfl⟩ := List.mem_map.mp hn
  have := Nat.and_le_right (n := p >>> (5 * (5 - i))) (m := 31)
  omega
theorem create_lt (x ns : List Nat) : ∀ n ∈ create x ns, n < 32 := sums6_lt _
theorem strs_of_paired {f : Nat → Nat} {l : List Nat} {ys : List Value} (h : Paired (fun j y => ∃ t, y = Value.str ⟨#[f j]⟩ t) l ys) : StrsAre ys (l.map fun j => (⟨#[f j]⟩ : Str)) := by
  induction h with
  | nil => exact .nil
  | cons h _ ih => obtain ⟨t, rfl⟩ := h; exact .cons _ _ ih
theorem join_ones : ∀ ds : List Nat, Str.join ⟨#[]⟩ (ds.map fun c => (⟨#[c]⟩ : Str)) = ⟨ds.toArray⟩
  | [] => rfl
  | [c] => rfl
  | c :: d :: r => by
    have ih := join_ones (d :: r)
    show (⟨#[c]⟩ : Str) ++ ⟨#[]⟩ ++ Str.join ⟨#[]⟩ ((d :: r).map fun c => (⟨#[c]⟩ : Str)) = _
    rw [ih]
    show (⟨(#[c] ++ #[]) ++ (d :: r).toArray⟩ : Str) = _
    simp
theorem empty_is : Str.ofString "" = ⟨#[]⟩ := by decide +kernel
theorem one_is : Str.ofString "1" = ⟨#[49]⟩ := by decide +kernel
theorem sum_ones : ∀ ds : List Nat, ((ds.map fun c => (⟨#[c]⟩ : Str)).map (·.length)).sum = ds.length
  | [] => rfl
  | c :: r => by
    have := sum_ones r
    simp only [List.map_cons, List.sum_cons, List.length_cons] at this ⊢
    rw [this]
    show 1 + r.length = _
    omega

set_option maxRecDepth 100000 in
set_option maxHeartbeats 8000000 in
theorem encode_call {w : World} {mg mb : Str → Option Value} {s : Shared} {x : Str} {t : Tok} {l : Addr} {vs : List Value} {ns : List Nat} {Q E : Value → Shared → Prop}
    (W : Wd w mg mb s.heap) (hx : x.cps.size ≤ 100) (hl : s.heap.IsList l vs.toArray) (hi : IntsAre vs (casts ns)) (hlen : ns.length ≤ 100) (hb : ∀ n ∈ ns, n < 32)
    (h : ∀ t h' tk, (∀ b o, s.heap.get? b = some o → h'.get? b = some o) → Q (.str ⟨(addr x.cps.toList ns).toArray⟩ t) { s with heap := h', toks := tk }) :
    wpAny (model PySem.Challenge.rw_vn0023_01.row.prog w) (Aat 670 2800) (call (.ref 43) [.str x t, .ref l]) Q E s := by
  have X := W.K
  have T := W.T
  refine' enter (binds := [(Str.ofString "hrp", Value.str x t), (Str.ofString "data", Value.ref l)]) X T.nolimit ?k1 ?k2 ?k3 ?k4 ?k5 ?k6 ?k7 ?k8 ?k9 ?_
  case k1 => k_is
  case k2 => k_is
  case k3 => decide
  case k4 => exact BindsTo.of_eq rfl
  case k5 => exact locs rfl
  case k6 => rfl
  case k7 => rfl
  case k8 => rfl
  case k9 => decide
  intro h₁ F N
  k_unmd; k_fold
  ktr_unf
  rename Fr _ _ _ _ => F1
  rename News _ _ _ _ => N1
  refine weaken 680 2900 (create_call (Wd.of X T F1) hx (isList_keeps hl F1.keep) hi hlen ?_) rfl (Nat.le_of_ble_eq_true rfl) (Nat.le_of_ble_eq_true rfl)
  intro r2 us2 h2 tk2 hk2 hf2 hl2 hi2
  obtain ⟨n2, hl2⟩ := hl2
  dsimp only at hk2 hf2
  have N2 := news_add F1 N1 hk2 hf2 hl2
  have F2 := F1.keeps hk2
  clear F1 N1
  have hc6 : (create x.cps.toList ns).length = 6 := by simp [create, sums6]
  have hlen6 : (casts (create x.cps.toList ns)).length = 6 := by simpa using hc6
  have hlend : (casts ns).length ≤ 100 := by simpa using hlen
  refine add_lists_ints F2 N2 (isList_of (N2.get (.tail _ (.head _)))) (isList_of (N2.get (.head _))) hi hi2 (fun h3 F3 N3 I3 => ?_) (by rw [sizeLine_eq]; omega)
  rw [show casts ns ++ casts (create x.cps.toList ns) = casts (ns ++ create x.cps.toList ns) by simp [casts]] at I3
  k_unmd; k_fold
  ktr_unf
  rename Fr _ _ _ _ => F4
  rename News _ _ _ _ => N4
  have hall : ∀ n ∈ ns ++ create x.cps.toList ns, n < 32 := fun n hn => (List.mem_append.mp hn).elim (hb n) (create_lt _ _ n)
  refine PyProof.Rows.add_str (fun t5 tk5 => ?_) (by rw [sizeLine_eq]; show x.cps.size + 1 ≤ _; omega)
  k_unmd; k_fold
  ktr_unf
  refine comp_eval (fun _ => true) (fun _ j y _ => ∃ t, y = .str ⟨#[CH.getD ((ns ++ create x.cps.toList ns).getD j 0) 0]⟩ t) (fun _ _ _ _ _ h _ => h) rfl (by decide) rfl (by decide) ?_
  ktr_unf
  have hlen3 := IntsAre.length I3
  refine ⟨_, _, ?_, it_list rfl (isList_of (n := 0) (N4.get (.head _))), turn_name (by decide) rfl ?_, ?_⟩
  · rw [sizeLine_eq]
    simp at hlen3 ⊢
    omega
  · rintro i v C bad s₄ m₄ E' hi hv hn hx4 hC hk hbad hCb ⟨h4, tk4, rfl⟩
    dsimp only at hn hk
    obtain ⟨n, u, hin, rfl⟩ := ints_at I3 hv
    have F6 : Fr s.heap s.heap.objs.size h4 _ := F4.keeps hk
    have N6 : News s.heap s.heap.objs.size h4 _ := N4.grown hk
    k_unmd; k_fold
    ktr_unf
    have hn32 : n < 32 := hall n (List.mem_of_getElem? hin)
    refine item_ch (charset_get hn32) (by omega) ?_
    refine ⟨⟨_, _, rfl, fun _ _ e => e⟩, ?_⟩
    have e1 : (ns ++ create x.cps.toList ns).getD i 0 = n := by rw [List.getD_eq_getElem?_getD, hin]; rfl
    rw [e1]
    exact ⟨_, rfl⟩
  · intro D8 bad h8 tk8 ys8 hD hl hP hk8
    dsimp only at hD hk8
    rw [filter_true] at hP
    have I8 := strs_of_paired hP
    have hlen3' : (vs ++ us2).toArray.size = (ns ++ create x.cps.toList ns).length := by simpa using hlen3
    have e0 := map_range_getD (ns ++ create x.cps.toList ns) 0 (fun d => (⟨#[CH.getD d 0]⟩ : Str))
    rw [← hlen3'] at e0
    rw [e0] at I8
    have N8 := news_add F4 N4 hk8 hD hl
    have F8 := F4.keeps hk8
    clear F4 N4 hP e0 hD
    k_unmd; k_fold
    ktr_unf
    have hl8 : h8.IsList D8 ys8.toArray := isList_lst hl
    have hmm : (ns ++ create x.cps.toList ns).map (fun d => (⟨#[CH.getD d 0]⟩ : Str)) = (chs (ns ++ create x.cps.toList ns)).map fun c => (⟨#[c]⟩ : Str) := by
      simp [chs, List.map_map, Function.comp_def]
    rw [hmm] at I8
    have hcl : (chs (ns ++ create x.cps.toList ns)).length = ns.length + 6 := by simp [chs, hc6]
    have hsum := sum_ones (chs (ns ++ create x.cps.toList ns))
    refine join_list (x := Str.ofString "") (items := ys8.toArray) hl8 I8 ?_ (fun t9 k9 => ?_)
    · rw [hsum, hcl, empty_is]
      show _ + _ * 0 ≤ _
      omega
    k_unmd; k_unfold
    rw [empty_is]
    have hj : Txt.join ⟨#[]⟩ ((chs (ns ++ create x.cps.toList ns)).map fun c => (⟨#[c]⟩ : Str)) = ⟨(chs (ns ++ create x.cps.toList ns)).toArray⟩ :=
      (StrLaws.glued_eq_join _ _).trans (join_ones _)
    rw [hj]
    dsimp only
    refine PyProof.Rows.add_str (fun ta tka => ?_) ?_
    · k_unmd; k_unfold
      dsimp only
      have ea : x ++ Str.ofString "1" ++ ⟨(chs (ns ++ create x.cps.toList ns)).toArray⟩ = (⟨(addr x.cps.toList ns).toArray⟩ : Str) := by
        rw [one_is]
        show (⟨x.cps ++ #[49] ++ _⟩ : Str) = _
        congr 1
        simp [addr]
      rw [ea]
      exact h _ _ _ F8.keep
    · rw [sizeLine_eq, one_is]
      show (x.cps ++ #[49]).size + (chs (ns ++ create x.cps.toList ns)).toArray.size ≤ _
      simp [hcl]
      omega
end Mine
end
section
open PySem PySem.W PySem.Calls PyProof.Rows
namespace Mine
def num (f : Nat) (ns : List Nat) : Nat := ns.foldl (fun a v => a * 2 ^ f + v) 0
def outs (N T t i : Nat) : List Nat := (List.range i).map fun j => N >>> (T - t * (j + 1)) &&& (2 ^ t - 1)
def cv (f t : Nat) (ns : List Nat) : List Nat := outs (num f ns) (f * ns.length) t (f * ns.length / t)
def cvPad (f t : Nat) (ns : List Nat) : List Nat := cv f t ns ++ (if f * ns.length % t = 0 then [] else [num f ns <<< (t - f * ns.length % t) &&& (2 ^ t - 1)])

theorem num_snoc (f : Nat) (ns : List Nat) (v : Nat) : num f (ns ++ [v]) = num f ns * 2 ^ f + v := by
  unfold num
  rw [List.foldl_append]
  rfl
theorem outs_succ (N T t i : Nat) : outs N T t (i + 1) = outs N T t i ++ [N >>> (T - t * (i + 1)) &&& (2 ^ t - 1)] := by
  unfold outs
  rw [List.range_succ, List.map_append]
  rfl
theorem outs_length (N T t i : Nat) : (outs N T t i).length = i := by simp [outs]
theorem and_mask (a q : Nat) : a &&& (2 ^ q - 1) = a % 2 ^ q := Nat.and_two_pow_sub_one_eq_mod a q
theorem shr_snoc {f v : Nat} (N s : Nat) (hv : v < 2 ^ f) : (N * 2 ^ f + v) >>> (f + s) = N >>> s := by
  rw [Nat.shiftRight_eq_div_pow, Nat.shiftRight_eq_div_pow, Nat.pow_add, ← Nat.div_div_eq_div_mul]
  congr 1
  rw [Nat.add_comm, Nat.add_mul_div_right _ _ (Nat.two_pow_pos f), Nat.div_eq_of_lt hv, Nat.zero_add]
theorem outs_snoc {f t T i v : Nat} (N : Nat) (hv : v < 2 ^ f) (hi : t * i ≤ T) : outs (N * 2 ^ f + v) (T + f) t i = outs N T t i := by
  unfold outs
  refine List.map_congr_left fun j hj => ?_
  have hj' : j < i := List.mem_range.mp hj
  have h1 : t * (j + 1) ≤ t * i := Nat.mul_le_mul_left t hj'
  have e : T + f - t * (j + 1) = f + (T - t * (j + 1)) := by omega
  rw [e, shr_snoc _ _ hv]
theorem mod_shr_mask {N q s t : Nat} (h : s + t ≤ q) : (N % 2 ^ q) >>> s &&& (2 ^ t - 1) = N >>> s &&& (2 ^ t - 1) := by
  apply Nat.eq_of_testBit_eq
  intro i
  rw [Nat.testBit_and, Nat.testBit_and, Nat.testBit_shiftRight, Nat.testBit_shiftRight, Nat.testBit_mod_two_pow, Nat.testBit_two_pow_sub_one]
  by_cases hi : i < t
  · simp [hi, show s + i < q by omega]
  · simp [hi]
theorem acc_step {N q f v : Nat} (hv : v < 2 ^ f) : ((N % 2 ^ q) <<< f ||| v) &&& (2 ^ q - 1) = (N * 2 ^ f + v) % 2 ^ q := by
  rw [and_mask, ← Nat.shiftLeft_add_eq_or_of_lt hv, Nat.shiftLeft_eq, Nat.add_mod, Nat.mod_mul_mod, ← Nat.add_mod]
theorem mod_shl_mask {N q s t : Nat} (h : t ≤ q + s) : (N % 2 ^ q) <<< s &&& (2 ^ t - 1) = N <<< s &&& (2 ^ t - 1) := by
  apply Nat.eq_of_testBit_eq
  intro i
  rw [Nat.testBit_and, Nat.testBit_and, Nat.testBit_shiftLeft, Nat.testBit_shiftLeft, Nat.testBit_mod_two_pow, Nat.testBit_two_pow_sub_one]
  by_cases hi : i < t
  · by_cases hs : i ≥ s
    · simp [hi, hs, show i - s < q by omega]
    · simp [hs]
  · simp [hi]
theorem or_cast (a b : Nat) : Builtin.bitOr (a : Int) (b : Int) = ((a ||| b : Nat) : Int) := by
  rw [bitOr_and, and_cast]
  have h1 := nat_xor_and a b
  have h2 : (a ||| b) = (a ^^^ b) + (a &&& b) := by
    have h3 : (a ^^^ b) &&& (a &&& b) = 0 := by
      apply Nat.eq_of_testBit_eq
      intro i
      simp only [Nat.testBit_and, Nat.testBit_xor, Nat.zero_testBit]
      cases a.testBit i <;> cases b.testBit i <;> rfl
    have h4 := nat_xor_and (a ^^^ b) (a &&& b)
    rw [h3] at h4
    have h5 : (a ^^^ b) ^^^ (a &&& b) = a ||| b := by
      apply Nat.eq_of_testBit_eq
      intro i
      simp only [Nat.testBit_and, Nat.testBit_xor, Nat.testBit_or]
      cases a.testBit i <;> cases b.testBit i <;> rfl
    omega
  omega
theorem acc_cast {f q v : Nat} (N : Nat) {acc m : Int} (ha : acc = ((N % 2 ^ q : Nat) : Int)) (hm : m = ((2 ^ q - 1 : Nat) : Int)) (hv : v < 2 ^ f) :
    Builtin.bitAnd (Builtin.bitOr (acc * 2 ^ f) (v : Int)) m = (((N * 2 ^ f + v) % 2 ^ q : Nat) : Int) := by
  rw [ha, hm, shl_cast, or_cast, and_cast, acc_step hv]
theorem out_cast {t q s : Nat} (N : Nat) {acc m sh : Int} (ha : acc = ((N % 2 ^ q : Nat) : Int)) (hm : m = ((2 ^ t - 1 : Nat) : Int)) (hs : sh = (s : Int)) (h : s + t ≤ q) :
    Builtin.bitAnd (acc.fdiv (2 ^ sh.toNat)) m = ((N >>> s &&& (2 ^ t - 1) : Nat) : Int) := by
  rw [ha, hm, hs, Int.toNat_natCast, shr_cast, and_cast, mod_shr_mask h]
theorem pad_cast {t q s : Nat} (N : Nat) {acc m sh : Int} (ha : acc = ((N % 2 ^ q : Nat) : Int)) (hm : m = ((2 ^ t - 1 : Nat) : Int)) (hs : sh = (s : Int)) (h : t ≤ q + s) :
    Builtin.bitAnd (acc * 2 ^ sh.toNat) m = ((N <<< s &&& (2 ^ t - 1) : Nat) : Int) := by
  rw [ha, hm, hs, Int.toNat_natCast, shl_cast, and_cast, mod_shl_mask h]
end Mine
end
section
open PySem PySem.W PySem.Calls PyProof.Rows
set_option linter.unusedSimpArgs false
set_option linter.unusedVariables false
namespace Mine
local macro_rules | `(tactic| walk_at "binaryOp LShift int int") => `(tactic| (refine lshift_int_small (by decide) (by decide) (by assumption) ?_))
local macro_rules | `(tactic| walk_at "eval Name") => `(tactic| (k_here; (with_reducible show wpAny _ _ (eval _ (compEnvC _ _ _ _)) _ _ _); k_dflt (first
  | (refine' kcf_cell ?N ?c ?m ?d ?_ ?a ?b ?e; (case a => rfl); (case b => rfl); (case e => decide); (case N => k_asm); (case c => rfl); (case m => k_mem); (case d => k_asm); k_whole)
  | (refine' nmL ?n ?v ?_ ?a ?b ?c; (case a => rfl); (case b => rfl); (case c => decide); (case n => assumption); (case v => assumption); k_whole)
  | (refine' nmB ?F ?X ?T ?e ?v ?n ?_ ?a ?b ?c ?d ?g; (case a => rfl); (case b => rfl); (case c => rfl); (case d => rfl); (case g => decide); (case F => k_asm); (case X => k_asm); (case T => k_asm); (case e => k_is); (case v => boot_fast); (case n => decide); k_whole)
  | (refine' nameG_K ?F ?X ?T ?e ?_ ?a ?b ?c ?d; (case a => rfl); (case b => rfl); (case c => rfl); (case d => decide); (case F => k_asm); (case X => k_asm); (case T => k_asm); (case e => k_is); k_whole))))
local macro_rules | `(tactic| ktr_unf) => `(tactic| (repeat' (first
   | (k_unmd; k_unfold; (try dsimp only))
   | ((fail_if_success (with_reducible show Exists _)); (fail_if_success (with_reducible show Keeps _ _ ∧ _)); (fail_if_success (with_reducible show InvEndN _ _ _ _ _ _ _)); (fail_if_success (with_reducible show KswEnd _ _ _ _ _ _ _ _ _ _ _ _)); (fail_if_success (with_reducible show wpAny _ _ (exec (Stmt.For _ _ _ _ _) _) _ _ _)); (fail_if_success (with_reducible show wpAny _ _ (pyIter _) _ _ _)); (fail_if_success (with_reducible show wpAny _ _ (PySem.call (Value.ref _) _) _ _ _)); (fail_if_success (with_reducible show wpAny _ _ (exec (Stmt.While _ _ _ _) _) _ _ _)); (fail_if_success (with_reducible show wpAny _ _ (eval (Expr.ListComp _ _ _ _) _) _ _ _)); walk1))))

set_option maxRecDepth 100000 in
set_option maxHeartbeats 8000000 in
theorem conv85_call {w : World} {mg mb : Str → Option Value} {s : Shared} {b : Array UInt8} {tb t1 t2 : Tok} {ns : List Nat} {Q E : Value → Shared → Prop}
    (W : Wd w mg mb s.heap) (hb : KBw.bInts b = casts ns) (hlen : ns.length ≤ 100)
    (h : ∀ l vs h' tk, (∀ b o, s.heap.get? b = some o → h'.get? b = some o) → s.heap.get? l = none → LstAt h' l vs → IntsAre vs (casts (cvPad 8 5 ns)) → Q (.ref l) { s with heap := h', toks := tk }) :
    wpAny (model PySem.Challenge.rw_vn0023_01.row.prog w) (Aat 690 3000) (call (.ref 56) [.bytes b tb, .int 8 t1, .int 5 t2]) Q E s := by
  have X := W.K
  have T := W.T
  refine' enter (binds := [(Str.ofString "data", Value.bytes b tb), (Str.ofString "frombits", Value.int 8 t1), (Str.ofString "tobits", Value.int 5 t2), (Str.ofString "pad", Value.bool true)]) X T.nolimit ?k1 ?k2 ?k3 ?k4 ?k5 ?k6 ?k7 ?k8 ?k9 ?_
  case k1 => k_is
  case k2 => k_is
  case k3 => decide
  case k4 => exact binds_K X rfl (by k_is) rfl rfl rfl
  case k5 => exact locs rfl
  case k6 => rfl
  case k7 => rfl
  case k8 => rfl
  case k9 => decide
  intro h₁ F N
  k_unmd; k_fold
  ktr_unf
  rename Fr _ _ _ _ => F1
  rename News _ _ _ _ => N1
  refine For_invV s.heap rfl rfl ?_
  ktr_unf
  refine KStb.kst_bytes (σ := (Int × Tok) × (Int × Tok) × List Value × Nat) (len := ns.length) (fun c => [(_, PySem.W.listOf c.2.2.1.toArray c.2.2.2)]) (fun c => [(Str.ofString "acc", .int c.1.1 c.1.2), (Str.ofString "bits", .int c.2.1.1 c.2.1.2)]) (fun _ => True) []
    (fun pre c => c.1.1 = ((num 8 (pre.map Int.toNat) % 2 ^ 12 : Nat) : Int) ∧ c.2.1.1 = ((8 * pre.length % 5 : Nat) : Int) ∧ IntsAre c.2.2.1 (casts (cv 8 5 (pre.map Int.toNat)))) ((0, _), (0, _), [], 0) hb (by simp) rfl F1 N1 trivial (List.forall_mem_cons.mpr ⟨rfl, List.forall_mem_cons.mpr ⟨rfl, List.forall_mem_nil _⟩⟩) ?_ ?_ ?_
  · exact ⟨rfl, rfl, .nil⟩
  · rintro ⟨⟨acc, ta⟩, ⟨bits, tbi⟩, ret, ep⟩ pre post n t u h2 tk2 own he hlt hn0 hn1 hoff - ⟨hP1, hP2, hP3⟩ F2 N2
    dsimp only at hP1 hP2 hP3 F2 N2 ⊢
    obtain ⟨v, rfl⟩ : ∃ v : Nat, n = (v : Int) := ⟨n.toNat, by omega⟩
    have hv : v < 2 ^ 8 := by omega
    have hz : (v : Int).fdiv (2 ^ Int.toNat 8) = 0 := by
      have e : Int.toNat 8 = 8 := rfl
      rw [e, shr_cast, Nat.shiftRight_eq_div_pow, Nat.div_eq_of_lt hv]; rfl
    have hac : acc.natAbs < 2 ^ 64 := by
      rw [hP1]
      have : num 8 (pre.map Int.toNat) % 2 ^ 12 < 2 ^ 12 := Nat.mod_lt _ (by decide)
      omega
    k_unmd; k_fold
    ktr_unf
    · rename (_ : Int) ≠ 0 => ha
      exact absurd hz ha
    · rename Fr _ _ _ _ => F3
      rename News _ _ _ _ => N3
      generalize hms : pre.map Int.toNat = ms at hP1 hP3
      have hml : ms.length = pre.length := by rw [← hms]; simp
      have eA := acc_cast (f := 8) (q := 12) (v := v) (num 8 ms) hP1 (m := 1 * 2 ^ (8 + 5 - 1 : Int).toNat - 1) rfl hv
      rw [show Int.toNat 8 = 8 from rfl, eA] at F3
      have hdv : 5 * (8 * pre.length / 5) + 8 * pre.length % 5 = 8 * pre.length := Nat.div_add_mod _ _
      have hmd : 8 * pre.length % 5 < 5 := Nat.mod_lt _ (by decide)
      refine ksw_while (σ := (Int × Tok) × List Value × Nat) (fun c => [(_, PySem.W.listOf c.2.1.toArray c.2.2)] ++ own) (fun c => [(Str.ofString "bits", .int c.1.1 c.1.2)]) (fun _ => True) []
        (fun c => ∃ i, 5 * i ≤ 8 * (pre.length + 1) ∧ c.1.1 = ((8 * (pre.length + 1) - 5 * i : Nat) : Int) ∧ 8 * (pre.length + 1) - 5 * i ≤ 12 ∧ IntsAre c.2.1 (casts (outs (num 8 ms * 2 ^ 8 + v) (8 * (pre.length + 1)) 5 i))) (fun c => c.1.1.toNat) ((_, _), ret, ep) F3 N3 trivial (List.forall_mem_cons.mpr ⟨rfl, List.forall_mem_nil _⟩) ?_ ?_
      · refine ⟨8 * pre.length / 5, by omega, ?_, by omega, ?_⟩
        · show bits + 8 = _
          rw [hP2]; omega
        · have e := outs_snoc (f := 8) (t := 5) (T := 8 * pre.length) (i := 8 * pre.length / 5) (v := v) (num 8 ms) hv (by omega)
          rw [show 8 * (pre.length + 1) = 8 * pre.length + 8 by omega, e]
          simpa [cv, hml] using hP3
      · rintro ⟨⟨bb, tb2⟩, rt, ep2⟩ u4 h4 tk4 - ⟨i, hi1, hi2, hi3, hi4⟩ F4 N4
        dsimp only at hi2 hi4 F4 N4 ⊢
        k_unmd; k_fold
        ktr_unf
        · rename Fr _ _ _ _ => F5
          rename News _ _ _ _ => N5
          rename (_ : Int) ≤ bb => hge
          have hi5 : 5 * (i + 1) ≤ 8 * (pre.length + 1) := by omega
          have hrl : rt.length ≤ 200 := by
            have := IntsAre.length hi4
            rw [List.length_map, outs_length] at this
            omega
          refine append_head (its := rt.toArray) F5 N5 (fun p hp => hoff p hp _ List.mem_cons_self) (fun h6 F6 N6 => ?_) (by rw [sizeLine_eq, List.size_toArray]; omega)
          rw [List.push_toArray] at N6
          k_unmd; ktr_unf
          have eo := out_cast (t := 5) (q := 12) (s := 8 * (pre.length + 1) - 5 * (i + 1)) (num 8 ms * 2 ^ 8 + v) rfl (m := 1 * 2 ^ Int.toNat 5 - 1) rfl (sh := bb - 5) (by omega) (by omega)
          refine ksw_end ((bb - 5, _), rt ++ [_], ep2 + 1) F6 N6 (fun p hp => hp) trivial (List.forall_mem_cons.mpr ⟨rfl, List.forall_mem_nil _⟩) ?_ ⟨i + 1, hi5, by dsimp only; omega, by omega, ?_⟩ ?_
          · intro z h2 h3
            have h4 := h2 _ List.mem_cons_self
            dsimp only at h4
            simp [kstB, h4]
          · dsimp only
            rw [eo, outs_succ]
            have := IntsAre.append hi4 (.cons (((num 8 ms * 2 ^ 8 + v) >>> (8 * (pre.length + 1) - 5 * (i + 1)) &&& (2 ^ 5 - 1) : Nat) : Int) (tk4 + 1 + 1 + 1) .nil)
            simpa [casts] using this
          · dsimp only
            omega
        · rename Fr _ _ _ _ => F5
          rename News _ _ _ _ => N5
          rename ¬ (_ ≤ bb) => hge
          have hi5 : i = 8 * (pre.length + 1) / 5 := by omega
          have hb5 : 8 * (pre.length + 1) - 5 * i = 8 * (pre.length + 1) % 5 := by omega
          have hmap : (pre ++ [(v : Int)]).map Int.toNat = ms ++ [v] := by rw [List.map_append, hms]; simp
          have hl1 : (pre ++ [(v : Int)]).length = pre.length + 1 := by simp
          have hl2 : (ms ++ [v]).length = pre.length + 1 := by simp [hml]
          refine kst_end ((_, _), (bb, _), rt, ep2) F5 N5 (fun p hp => List.mem_append_left _ hp) (fun p hp => List.mem_append_right _ hp) rfl trivial
            (List.forall_mem_cons.mpr ⟨rfl, List.forall_mem_cons.mpr ⟨rfl, List.forall_mem_nil _⟩⟩) ?_ ⟨?_, ?_, ?_⟩
          · intro z h1 h2 h3
            have h4 := h2 _ List.mem_cons_self
            have h5 := h2 _ (List.mem_cons_of_mem _ List.mem_cons_self)
            dsimp only at h4 h5
            simp [kstB, h1, h4, h5]
          · rw [hmap, num_snoc]
          · dsimp only
            rw [hl1, hi2, hb5]
          · dsimp only
            rw [hmap]
            unfold cv
            rw [num_snoc, hl2, ← hi5]
            exact hi4
  · rintro ⟨⟨acc, ta⟩, ⟨bits, tbi⟩, ret, ep⟩ u h2 tk2 hlk - ⟨hP1, hP2, hP3⟩ F2 N2
    dsimp only at hP1 hP2 hP3 F2 N2 ⊢
    rw [casts_toNat] at hP1 hP3
    have hcl : (casts ns).length = ns.length := by simp
    rw [hcl] at hP2
    have hac : acc.natAbs < 2 ^ 64 := by
      rw [hP1]
      have : num 8 ns % 2 ^ 12 < 2 ^ 12 := Nat.mod_lt _ (by decide)
      omega
    have hB : 8 * ns.length % 5 < 5 := Nat.mod_lt _ (by decide)
    have hrl : ret.length ≤ 200 := by
      have := IntsAre.length hP3
      simp [cv, outs_length] at this
      omega
    have hnn : 0 ≤ 5 - bits := by omega
    have hnn2 : 5 - bits ≤ 1000000 := by omega
    k_unmd; (try k_fold)
    ktr_unf
    · rename Fr _ _ _ _ => F3
      rename News _ _ _ _ => N3
      rename bits ≠ 0 => hb0
      dsimp only
      k_unmd; k_unfold
      dsimp only
      simp only [List.push_toArray] at N3
      have hB0 : ¬ 8 * ns.length % 5 = 0 := by omega
      have ep := pad_cast (t := 5) (q := 12) (s := 5 - 8 * ns.length % 5) (num 8 ns) hP1 (m := 1 * 2 ^ Int.toNat 5 - 1) rfl (sh := 5 - bits) (by omega) (by omega)
      refine h _ _ _ _ F3.keep (N3.fresh (.head _)) ⟨_, N3.get (.head _)⟩ ?_
      rw [ep]
      unfold cvPad
      rw [if_neg hB0]
      rw [show casts (cv 8 5 ns ++ [num 8 ns <<< (5 - 8 * ns.length % 5) &&& (2 ^ 5 - 1)]) = casts (cv 8 5 ns) ++ [((num 8 ns <<< (5 - 8 * ns.length % 5) &&& (2 ^ 5 - 1) : Nat) : Int)] by simp [casts]]
      exact IntsAre.append hP3 (.cons _ _ .nil)
    · rename bits = 0 => hb0
      dsimp only
      k_unmd; k_unfold
      dsimp only
      have hB0 : 8 * ns.length % 5 = 0 := by omega
      refine h _ _ _ _ F2.keep (N2.fresh (.head _)) ⟨_, N2.get (.head _)⟩ ?_
      unfold cvPad
      rw [if_pos hB0, List.append_nil]
      exact hP3
end Mine
end
section
open PySem PySem.W PySem.Calls PyProof.Rows
set_option linter.unusedSimpArgs false
set_option linter.unusedVariables false
namespace Mine
local macro_rules | `(tactic| walk_at "binaryOp LShift int int") => `(tactic| (refine lshift_int_small (by decide) (by decide) (by assumption) ?_))
local macro_rules | `(tactic| walk_at "eval Name") => `(tactic| (k_here; (with_reducible show wpAny _ _ (eval _ (compEnvC _ _ _ _)) _ _ _); k_dflt (first
  | (refine' kcf_cell ?N ?c ?m ?d ?_ ?a ?b ?e; (case a => rfl); (case b => rfl); (case e => decide); (case N => k_asm); (case c => rfl); (case m => k_mem); (case d => k_asm); k_whole)
  | (refine' nmL ?n ?v ?_ ?a ?b ?c; (case a => rfl); (case b => rfl); (case c => decide); (case n => assumption); (case v => assumption); k_whole)
  | (refine' nmB ?F ?X ?T ?e ?v ?n ?_ ?a ?b ?c ?d ?g; (case a => rfl); (case b => rfl); (case c => rfl); (case d => rfl); (case g => decide); (case F => k_asm); (case X => k_asm); (case T => k_asm); (case e => k_is); (case v => boot_fast); (case n => decide); k_whole)
  | (refine' nameG_K ?F ?X ?T ?e ?_ ?a ?b ?c ?d; (case a => rfl); (case b => rfl); (case c => rfl); (case d => decide); (case F => k_asm); (case X => k_asm); (case T => k_asm); (case e => k_is); k_whole))))
local macro_rules | `(tactic| ktr_unf) => `(tactic| (repeat' (first
   | (k_unmd; k_unfold; (try dsimp only))
   | ((fail_if_success (with_reducible show Exists _)); (fail_if_success (with_reducible show Keeps _ _ ∧ _)); (fail_if_success (with_reducible show InvEndN _ _ _ _ _ _ _)); (fail_if_success (with_reducible show KswEnd _ _ _ _ _ _ _ _ _ _ _ _)); (fail_if_success (with_reducible show wpAny _ _ (exec (Stmt.For _ _ _ _ _) _) _ _ _)); (fail_if_success (with_reducible show wpAny _ _ (pyIter _) _ _ _)); (fail_if_success (with_reducible show wpAny _ _ (PySem.call (Value.ref _) _) _ _ _)); (fail_if_success (with_reducible show wpAny _ _ (exec (Stmt.While _ _ _ _) _) _ _ _)); (fail_if_success (with_reducible show wpAny _ _ (eval (Expr.ListComp _ _ _ _) _) _ _ _)); walk1))))

set_option maxRecDepth 100000 in
set_option maxHeartbeats 8000000 in
theorem conv58_call {w : World} {mg mb : Str → Option Value} {s : Shared} {l : Addr} {vs : List Value} {t1 t2 : Tok} {ns : List Nat} {Q E : Value → Shared → Prop}
    (W : Wd w mg mb s.heap) (hl : s.heap.IsList l vs.toArray) (hi : IntsAre vs (casts ns)) (hlen : ns.length ≤ 100) (hlt : ∀ n ∈ ns, n < 32)
    (hB : 5 * ns.length % 8 < 5) (hpad : num 5 ns <<< (8 - 5 * ns.length % 8) &&& (2 ^ 8 - 1) = 0)
    (h : ∀ l vs h' tk, (∀ b o, s.heap.get? b = some o → h'.get? b = some o) → s.heap.get? l = none → LstAt h' l vs → IntsAre vs (casts (cv 5 8 ns)) → Q (.ref l) { s with heap := h', toks := tk }) :
    wpAny (model PySem.Challenge.rw_vn0023_01.row.prog w) (Aat 690 3000) (call (.ref 56) [.ref l, .int 5 t1, .int 8 t2, .bool false]) Q E s := by
  have X := W.K
  have T := W.T
  refine' enter (binds := [(Str.ofString "data", Value.ref l), (Str.ofString "frombits", Value.int 5 t1), (Str.ofString "tobits", Value.int 8 t2), (Str.ofString "pad", Value.bool false)]) X T.nolimit ?k1 ?k2 ?k3 ?k4 ?k5 ?k6 ?k7 ?k8 ?k9 ?_
  case k1 => k_is
  case k2 => k_is
  case k3 => decide
  case k4 => exact binds_K X rfl (by k_is) rfl rfl rfl
  case k5 => exact locs rfl
  case k6 => rfl
  case k7 => rfl
  case k8 => rfl
  case k9 => decide
  intro h₁ F N
  k_unmd; k_fold
  ktr_unf
  rename Fr _ _ _ _ => F1
  rename News _ _ _ _ => N1
  refine For_invV s.heap rfl rfl ?_
  ktr_unf
  refine kst_list (σ := (Int × Tok) × (Int × Tok) × List Value × Nat) (fun c => [(_, PySem.W.listOf c.2.2.1.toArray c.2.2.2)]) (fun c => [(Str.ofString "acc", .int c.1.1 c.1.2), (Str.ofString "bits", .int c.2.1.1 c.2.1.2)]) (fun _ => True) []
    (fun pre c => c.1.1 = ((num 5 (pre.map Int.toNat) % 2 ^ 12 : Nat) : Int) ∧ c.2.1.1 = ((5 * pre.length % 8 : Nat) : Int) ∧ IntsAre c.2.2.1 (casts (cv 5 8 (pre.map Int.toNat)))) ((0, _), (0, _), [], 0) rfl hl hi F1 N1 trivial (List.forall_mem_cons.mpr ⟨rfl, List.forall_mem_cons.mpr ⟨rfl, List.forall_mem_nil _⟩⟩) ?_ ?_ ?_
  · exact ⟨rfl, rfl, .nil⟩
  · rintro ⟨⟨acc, ta⟩, ⟨bits, tbi⟩, ret, ep⟩ pre post n t u h2 tk2 own he hmem hoff - ⟨hP1, hP2, hP3⟩ F2 N2
    dsimp only at hP1 hP2 hP3 F2 N2 ⊢
    obtain ⟨v, hvm, rfl⟩ := mem_casts hmem
    have hv : v < 2 ^ 5 := hlt v hvm
    have hz : (v : Int).fdiv (2 ^ Int.toNat 5) = 0 := by
      have e : Int.toNat 5 = 5 := rfl
      rw [e, shr_cast, Nat.shiftRight_eq_div_pow, Nat.div_eq_of_lt hv]; rfl
    have hplen : pre.length < ns.length := by
      have := congrArg List.length he
      simp at this
      omega
    have hac : acc.natAbs < 2 ^ 64 := by
      rw [hP1]
      have : num 5 (pre.map Int.toNat) % 2 ^ 12 < 2 ^ 12 := Nat.mod_lt _ (by decide)
      omega
    k_unmd; k_fold
    ktr_unf
    · rename (_ : Int) ≠ 0 => ha
      exact absurd hz ha
    · rename Fr _ _ _ _ => F3
      rename News _ _ _ _ => N3
      generalize hms : pre.map Int.toNat = ms at hP1 hP3
      have hml : ms.length = pre.length := by rw [← hms]; simp
      have eA := acc_cast (f := 5) (q := 12) (v := v) (num 5 ms) hP1 (m := 1 * 2 ^ (5 + 8 - 1 : Int).toNat - 1) rfl hv
      rw [show Int.toNat 5 = 5 from rfl, eA] at F3
      have hdv : 8 * (5 * pre.length / 8) + 5 * pre.length % 8 = 5 * pre.length := Nat.div_add_mod _ _
      have hmd : 5 * pre.length % 8 < 8 := Nat.mod_lt _ (by decide)
      refine ksw_while (σ := (Int × Tok) × List Value × Nat) (fun c => [(_, PySem.W.listOf c.2.1.toArray c.2.2)] ++ own) (fun c => [(Str.ofString "bits", .int c.1.1 c.1.2)]) (fun _ => True) []
        (fun c => ∃ i, 8 * i ≤ 5 * (pre.length + 1) ∧ c.1.1 = ((5 * (pre.length + 1) - 8 * i : Nat) : Int) ∧ 5 * (pre.length + 1) - 8 * i ≤ 12 ∧ IntsAre c.2.1 (casts (outs (num 5 ms * 2 ^ 5 + v) (5 * (pre.length + 1)) 8 i))) (fun c => c.1.1.toNat) ((_, _), ret, ep) F3 N3 trivial (List.forall_mem_cons.mpr ⟨rfl, List.forall_mem_nil _⟩) ?_ ?_
      · refine ⟨5 * pre.length / 8, by omega, ?_, by omega, ?_⟩
        · show bits + 5 = _
          rw [hP2]; omega
        · have e := outs_snoc (f := 5) (t := 8) (T := 5 * pre.length) (i := 5 * pre.length / 8) (v := v) (num 5 ms) hv (by omega)
          rw [show 5 * (pre.length + 1) = 5 * pre.length + 5 by omega, e]
          simpa [cv, hml] using hP3
      · rintro ⟨⟨bb, tb2⟩, rt, ep2⟩ u4 h4 tk4 - ⟨i, hi1, hi2, hi3, hi4⟩ F4 N4
        dsimp only at hi2 hi4 F4 N4 ⊢
        k_unmd; k_fold
        ktr_unf
        · rename Fr _ _ _ _ => F5
          rename News _ _ _ _ => N5
          rename (_ : Int) ≤ bb => hge
          have hi5 : 8 * (i + 1) ≤ 5 * (pre.length + 1) := by omega
          have hrl : rt.length ≤ 200 := by
            have := IntsAre.length hi4
            rw [List.length_map, outs_length] at this
            omega
          refine append_head (its := rt.toArray) F5 N5 (fun p hp => hoff p hp _ List.mem_cons_self) (fun h6 F6 N6 => ?_) (by rw [sizeLine_eq, List.size_toArray]; omega)
          rw [List.push_toArray] at N6
          k_unmd; ktr_unf
          have eo := out_cast (t := 8) (q := 12) (s := 5 * (pre.length + 1) - 8 * (i + 1)) (num 5 ms * 2 ^ 5 + v) rfl (m := 1 * 2 ^ Int.toNat 8 - 1) rfl (sh := bb - 8) (by omega) (by omega)
          refine ksw_end ((bb - 8, _), rt ++ [_], ep2 + 1) F6 N6 (fun p hp => hp) trivial (List.forall_mem_cons.mpr ⟨rfl, List.forall_mem_nil _⟩) ?_ ⟨i + 1, hi5, by dsimp only; omega, by omega, ?_⟩ ?_
          · intro z h2 h3
            have h4 := h2 _ List.mem_cons_self
            dsimp only at h4
            simp [kstB, h4]
          · dsimp only
            rw [eo, outs_succ]
            have := IntsAre.append hi4 (.cons (((num 5 ms * 2 ^ 5 + v) >>> (5 * (pre.length + 1) - 8 * (i + 1)) &&& (2 ^ 8 - 1) : Nat) : Int) (tk4 + 1 + 1 + 1) .nil)
            simpa [casts] using this
          · dsimp only
            omega
        · rename Fr _ _ _ _ => F5
          rename News _ _ _ _ => N5
          rename ¬ (_ ≤ bb) => hge
          have hi5 : i = 5 * (pre.length + 1) / 8 := by omega
          have hb5 : 5 * (pre.length + 1) - 8 * i = 5 * (pre.length + 1) % 8 := by omega
          have hmap : (pre ++ [(v : Int)]).map Int.toNat = ms ++ [v] := by rw [List.map_append, hms]; simp
          have hl1 : (pre ++ [(v : Int)]).length = pre.length + 1 := by simp
          have hl2 : (ms ++ [v]).length = pre.length + 1 := by simp [hml]
          refine kst_end ((_, _), (bb, _), rt, ep2) F5 N5 (fun p hp => List.mem_append_left _ hp) (fun p hp => List.mem_append_right _ hp) rfl trivial
            (List.forall_mem_cons.mpr ⟨rfl, List.forall_mem_cons.mpr ⟨rfl, List.forall_mem_nil _⟩⟩) ?_ ⟨?_, ?_, ?_⟩
          · intro z h1 h2 h3
            have h4 := h2 _ List.mem_cons_self
            have h5 := h2 _ (List.mem_cons_of_mem _ List.mem_cons_self)
            dsimp only at h4 h5
            simp [kstB, h1, h4, h5]
          · rw [hmap, num_snoc]
          · dsimp only
            rw [hl1, hi2, hb5]
          · dsimp only
            rw [hmap]
            unfold cv
            rw [num_snoc, hl2, ← hi5]
            exact hi4
  · rintro ⟨⟨acc, ta⟩, ⟨bits, tbi⟩, ret, ep⟩ u h2 tk2 - ⟨hP1, hP2, hP3⟩ F2 N2
    dsimp only at hP1 hP2 hP3 F2 N2 ⊢
    rw [casts_toNat] at hP1 hP3
    have hcl : (casts ns).length = ns.length := by simp
    rw [hcl] at hP2
    have hac : acc.natAbs < 2 ^ 64 := by
      rw [hP1]
      have : num 5 ns % 2 ^ 12 < 2 ^ 12 := Nat.mod_lt _ (by decide)
      omega
    have hnn : 0 ≤ 8 - bits := by omega
    have hnn2 : 8 - bits ≤ 1000000 := by omega
    have ep := pad_cast (t := 8) (q := 12) (s := 8 - 5 * ns.length % 8) (num 5 ns) hP1 (m := 1 * 2 ^ Int.toNat 8 - 1) rfl (sh := 8 - bits) (by omega) (by omega)
    rw [hpad] at ep
    have hlt5 : bits < 5 := by omega
    k_unmd; (try k_fold)
    ktr_unf
    · rename (_ : Int) ≠ 0 => ha
      exact absurd (ep.trans rfl) ha
    · dsimp only
      k_unmd; k_unfold
      dsimp only
      refine h _ _ _ _ F2.keep (N2.fresh (.head _)) ⟨_, N2.get (.head _)⟩ ?_
      exact hP3
end Mine
end
section
open PySem PySem.W PySem.Calls PyProof.Rows
set_option linter.unusedSimpArgs false
set_option linter.unusedVariables false
set_option maxRecDepth 100000
namespace Mine
/-- a number's octets, the great ones first, in a given count -/
def oct (k n : Nat) : List Nat := outs n (8 * k) 8 k

theorem oct_length (k n : Nat) : (oct k n).length = k := outs_length _ _ _ _
theorem oct_get (k n j : Nat) (h : j < k) : (oct k n)[j]? = some (n >>> (8 * (k - 1 - j)) &&& 255) := by
  unfold oct outs
  rw [List.getElem?_map, List.getElem?_range h]
  have e : 8 * k - 8 * (j + 1) = 8 * (k - 1 - j) := by omega
  simp [e]
theorem little_oct (k n : Nat) : (KTBy.little k (n : Int)).reverse = casts (oct k n) := by
  rw [KTBy.little_eq]
  apply List.ext_getElem?
  intro j
  by_cases hj : j < k
  · rw [List.getElem?_reverse (by simpa using hj)]
    simp only [List.length_map, List.length_range, List.getElem?_map]
    rw [List.getElem?_range (show k - 1 - j < k by omega), oct_get k n j hj]
    have e2 : ((256 : Int) ^ (k - 1 - j)) = ((2 ^ (8 * (k - 1 - j)) : Nat) : Int) := by
      rw [KTBy.p256, Nat.pow_mul]
    simp only [Option.map_some]
    rw [e2, ← Int.natCast_ediv, ← Nat.shiftRight_eq_div_pow, show (255 : Nat) = 2 ^ 8 - 1 from rfl, and_mask]
    congr 1
  · rw [List.getElem?_eq_none (by simpa using Nat.le_of_not_lt hj), List.getElem?_eq_none (by simpa [oct_length] using Nat.le_of_not_lt hj)]

theorem oct_pad {m k n : Nat} (hm : m ≤ k) (hn : n < 2 ^ (8 * m)) : oct k n = List.replicate (k - m) 0 ++ oct m n := by
  apply List.ext_getElem?
  intro j
  by_cases hj : j < k
  · rw [oct_get k n j hj]
    by_cases h2 : j < k - m
    · rw [List.getElem?_append_left (by simpa using h2), List.getElem?_replicate, if_pos h2]
      have hz : n >>> (8 * (k - 1 - j)) = 0 := by
        rw [Nat.shiftRight_eq_div_pow]
        exact Nat.div_eq_of_lt (Nat.lt_of_lt_of_le hn (Nat.pow_le_pow_right (by decide) (by omega)))
      rw [hz]
      rfl
    · rw [List.getElem?_append_right (by simpa using Nat.le_of_not_lt h2), List.length_replicate, oct_get m n _ (by omega)]
      have e : m - 1 - (j - (k - m)) = k - 1 - j := by omega
      rw [e]
  · rw [List.getElem?_eq_none (by rw [oct_length]; omega), List.getElem?_eq_none (by rw [List.length_append, oct_length, List.length_replicate]; omega)]
theorem zeros_ints (k : Nat) : KBw.bInts ((List.replicate k [(0 : UInt8)]).flatten.toArray) = casts (List.replicate k 0) := by
  simp [KBw.bInts, casts, List.flatten_replicate_singleton]
section
variable {prog : Program} {w : World} {M : Model} {A : Around} {E : Value → Shared → Prop} {s : Shared} {t u v : Tok}

theorem toBig {n k : Nat} {kk : Int} {Q : Value → Shared → Prop} (hkk : kk = (k : Int)) (hk : k ≤ 1000) (hn : n < 2 ^ (8 * k))
    (h : ∀ (b : Array UInt8) t' k', KBw.bInts b = casts (oct k n) → Q (.bytes b t') { s with toks := k' }) :
    wpAny (model prog w) A (call (.builtin "int.to_bytes") [.int (n : Int) t, .int kk u, .str (PySem.Str.ofString "big") v]) Q E s := by
  subst hkk
  have hn' : (n : Int) < 256 ^ k := by
    rw [KTBy.p256]
    have : (256 : Nat) ^ k = 2 ^ (8 * k) := by rw [Nat.pow_mul]
    omega
  have hbits : Builtin.Int.intBits (n : Int) ≤ 8 * k := KTBy.bits_le rfl (Int.natCast_nonneg n) hn'
  have no : ∀ {c : Prop} [Decidable c] {a b : Sem Fin} {P : Fin → Shared → Prop} {E' : Value → Shared → Prop} {s' : Shared}, ¬ c → wpAny (model prog w) A.in1 b P E' s' → wpAny (model prog w) A.in1 (if c then a else b) P E' s' := fun hc hb => by rw [if_neg hc]; exact hb
  refine wpAny_call_entry KTBy.slot (typeIs_int s _ t) KTBy.entry ?_ (KTBy.args _ _ _)
  unfold Builtin.«int.to_bytes»
  refine wpAny_bind (wpAny_of_eq (a := (n : Int)) rfl ?_)
  refine wpAny_bind (wpAny_of_eq (a := [some (.int (k : Int) u), some (.str (PySem.Str.ofString "big") v), none]) (by kernel_rfl) ?_)
  refine wpAny_bind (wpAny_of_eq (a := (k : Int)) rfl ?_)
  refine KTBy.if_not (by rw [Bool.or_eq_false_iff]; exact ⟨decide_eq_false (by omega), decide_eq_false (by omega)⟩) ?_
  refine wpAny_bind (wpAny_of_eq (a := PySem.Str.ofString "big") (by kernel_rfl) ?_)
  refine wpAny_bind (wpAny_of_eq (a := false) rfl ?_)
  refine wpAny_bind (wpAny_of_eq (a := false) (by kernel_rfl) ?_)
  refine wpAny_ite_false (decide_eq_false (by omega)) ?_
  refine wpAny_ite_false (decide_eq_false (by omega)) ?_
  refine wpAny_ite_false (decide_eq_false (by rw [sizeLine_eq]; omega)) ?_
  refine KTBy.if_not (by rw [decide_eq_false (show ¬ (n : Int) < 0 by omega)]; rfl) ?_
  refine KTBy.if_not (by show (_ && decide ((Builtin.Int.intBits (n : Int) : Int) > 8 * (k : Int))) = false; rw [decide_eq_false (show ¬ ((Builtin.Int.intBits (n : Int) : Int) > 8 * (k : Int)) by omega), Bool.and_false]) ?_
  have len : (KTBy.low (n : Int) k).reverse.length ≤ sizeLine := by rw [List.length_reverse, KTBy.low_length, sizeLine_eq]; omega
  refine wpAny_bind (wpAny_mkBytes (wpAny_pure ⟨_, rfl, h _ _ _ ?_⟩) (by exact len))
  show (KTBy.low (n : Int) (Int.toNat (k : Int))).reverse.map (fun c : UInt8 => ((c.toNat : Nat) : Int)) = _
  rw [Int.toNat_natCast, List.map_reverse, KTBy.low_ints (Int.natCast_nonneg n) hn', ← KTBy.little_eq, little_oct]

theorem fold_num (b : Array UInt8) (ns : List Nat) (hb : KBw.bInts b = casts ns) : b.toList.foldl (fun (acc : Nat) (c : UInt8) => acc * 256 + c.toNat) 0 = num 8 ns := by
  have e : b.toList.map (fun c : UInt8 => c.toNat) = ns := by
    have h2 := congrArg (List.map Int.toNat) hb
    rw [casts_toNat] at h2
    simpa [KBw.bInts, List.map_map, Function.comp_def] using h2
  unfold num
  rw [← e, List.foldl_map]

theorem fromBig_tree {b : Array UInt8} {ns : List Nat} {P : Fin → Shared → Prop} (hb : KBw.bInts b = casts ns) (hl : ns.length ≤ 1000)
    (h : P (.done (.ret (.int (num 8 ns : Nat) s.toks))) { s with toks := s.toks + 1 }) :
    wpAny M A (Builtin.«int.from_bytes» ⟨[.type "int", .bytes b t, .str (PySem.Str.ofString "big") u], []⟩) P E s := by
  have hsz : b.size = ns.length := by
    have := congrArg List.length hb
    rw [KBw.ints_length] at this
    simpa using this
  have hlt : num 8 ns < 2 ^ 8000 := by
    have h1 := KFB.fold_lt b.toList 0
    rw [fold_num b ns hb, Nat.zero_add, Nat.one_mul, Array.length_toList, hsz] at h1
    have h2 : (256 : Nat) ^ ns.length ≤ 256 ^ 1000 := Nat.pow_le_pow_right (by decide) hl
    have h3 : (256 : Nat) ^ 1000 = 2 ^ 8000 := by rw [show (256 : Nat) = 2 ^ 8 from rfl, ← Nat.pow_mul]
    omega
  have fit : wpAny M A (mkIntGrown ((num 8 ns : Nat) : Int)) (fun v s' => P (.done (.ret v)) s') E s := by
    unfold mkIntGrown
    rw [if_neg ?_]
    · exact wpAny_mkInt h
    · rw [Int.natAbs_natCast, show bitsLine = 134217728 by first | rfl | decide]
      by_cases hz : num 8 ns = 0
      · rw [hz]; decide
      · have := (Nat.log2_lt hz).mpr hlt
        omega
  unfold Builtin.«int.from_bytes»
  refine wpAny_bind (wpAny_of_eq (a := true) KFB.type_int ?_)
  refine KFB.if_not rfl ?_
  refine wpAny_bind (wpAny_of_eq (a := true) F.conv_sub_int ?_)
  refine KFB.if_not rfl ?_
  refine wpAny_bind (wpAny_of_eq (a := [some (.bytes b t), some (.str (PySem.Str.ofString "big") u), none]) (by kernel_rfl) ?_)
  refine wpAny_bind (wpAny_of_eq (a := PySem.Str.ofString "big") (by kernel_rfl) ?_)
  refine wpAny_bind (wpAny_of_eq (a := false) rfl ?_)
  refine wpAny_bind (wpAny_of_eq (a := false) (by kernel_rfl) ?_)
  refine wpAny_bind (wpAny_of_eq (a := b) rfl ?_)
  show wpAny _ _ (mkIntGrown (b.toList.foldl (fun (acc : Int) (b : UInt8) => acc * 256 + (b.toNat : Int)) ((0 : Nat) : Int)) >>= fun v => _) _ _ _
  rw [KFB.foldI_eq, fold_num b ns hb]
  refine wpAny_bind (wpAny_mono fit (fun v s' hp => ?_) fun _ _ x => x)
  refine KFB.if_so (by decide +kernel) ?_
  exact wpAny_bind (wpAny_pure (wpAny_pure hp))
end
end Mine
end
section
open PySem PySem.W PySem.Calls PyProof.Rows
set_option linter.unusedSimpArgs false
set_option linter.unusedVariables false
namespace Mine
local macro_rules | `(tactic| walk_at "binaryOp LShift int int") => `(tactic| (refine lshift_int_small (by decide) (by decide) (by assumption) ?_))
local macro_rules | `(tactic| walk_at "eval Name") => `(tactic| (k_here; (with_reducible show wpAny _ _ (eval _ (compEnvC _ _ _ _)) _ _ _); k_dflt (first
  | (refine' kcf_cell ?N ?c ?m ?d ?_ ?a ?b ?e; (case a => rfl); (case b => rfl); (case e => decide); (case N => k_asm); (case c => rfl); (case m => k_mem); (case d => k_asm); k_whole)
  | (refine' nmL ?n ?v ?_ ?a ?b ?c; (case a => rfl); (case b => rfl); (case c => decide); (case n => assumption); (case v => assumption); k_whole)
  | (refine' nmB ?F ?X ?T ?e ?v ?n ?_ ?a ?b ?c ?d ?g; (case a => rfl); (case b => rfl); (case c => rfl); (case d => rfl); (case g => decide); (case F => k_asm); (case X => k_asm); (case T => k_asm); (case e => k_is); (case v => boot_fast); (case n => decide); k_whole)
  | (refine' nameG_K ?F ?X ?T ?e ?_ ?a ?b ?c ?d; (case a => rfl); (case b => rfl); (case c => rfl); (case d => decide); (case F => k_asm); (case X => k_asm); (case T => k_asm); (case e => k_is); k_whole))))
local macro_rules | `(tactic| ktr_unf) => `(tactic| (repeat' (first
   | (k_unmd; k_unfold; (try dsimp only))
   | ((fail_if_success (with_reducible show Exists _)); (fail_if_success (with_reducible show Keeps _ _ ∧ _)); (fail_if_success (with_reducible show InvEndN _ _ _ _ _ _ _)); (fail_if_success (with_reducible show KswEnd _ _ _ _ _ _ _ _ _ _ _ _)); (fail_if_success (with_reducible show wpAny _ _ (exec (Stmt.For _ _ _ _ _) _) _ _ _)); (fail_if_success (with_reducible show wpAny _ _ (pyIter _) _ _ _)); (fail_if_success (with_reducible show wpAny _ _ (PySem.call (Value.ref _) _) _ _ _)); (fail_if_success (with_reducible show wpAny _ _ (exec (Stmt.While _ _ _ _) _) _ _ _)); (fail_if_success (with_reducible show wpAny _ _ (eval (Expr.ListComp _ _ _ _) _) _ _ _)); walk1))))

set_option maxRecDepth 100000 in
set_option maxHeartbeats 8000000 in
theorem i2b_call {w : World} {mg mb : Str → Option Value} {s : Shared} {n k : Nat} {t : Tok} {Q E : Value → Shared → Prop}
    (W : Wd w mg mb s.heap) (h0 : 0 < n) (hn : n < 2 ^ (8 * k)) (hk : k ≤ 100)
    (h : ∀ b m tb h' tk, (∀ b o, s.heap.get? b = some o → h'.get? b = some o) → m ≤ k → n < 2 ^ (8 * m) → KBw.bInts b = casts (oct m n) → Q (.bytes b tb) { s with heap := h', toks := tk }) :
    wpAny (model PySem.Challenge.rw_vn0023_01.row.prog w) (Aat 690 3000) (call (.ref 70) [.int (n : Int) t]) Q E s := by
  have X := W.K
  have T := W.T
  refine' enter (binds := [(Str.ofString "value", Value.int (n : Int) t)]) X T.nolimit ?k1 ?k2 ?k3 ?k4 ?k5 ?k6 ?k7 ?k8 ?k9 ?_
  case k1 => k_is
  case k2 => k_is
  case k3 => decide
  case k4 => exact BindsTo.of_eq rfl
  case k5 => exact locs rfl
  case k6 => rfl
  case k7 => rfl
  case k8 => rfl
  case k9 => decide
  intro h₁ F N
  k_unmd; k_fold
  ktr_unf
  all_goals (
    have hm1 : n < 2 ^ (8 * ((Builtin.Int.intBits (n : Int) + 7) / 8)) := by
      have h1 := (intBits_le_iff (m := 8 * ((Builtin.Int.intBits (n : Int) + 7) / 8)) (x := (n : Int))).mp (by omega)
      rwa [Int.natAbs_natCast] at h1
    have hm2 : (Builtin.Int.intBits (n : Int) + 7) / 8 ≤ k := by
      have h1 := (intBits_le_iff (m := 8 * k) (x := (n : Int))).mpr (by rwa [Int.natAbs_natCast])
      omega
    have hm3 : ((Builtin.Int.intBits (n : Int) : Int) + 7).fdiv 8 = (((Builtin.Int.intBits (n : Int) + 7) / 8 : Nat) : Int) := by
      rw [Int.fdiv_eq_ediv_of_nonneg _ (by decide)]
      omega)
  · refine toBig hm3 (by omega) hm1 (fun b tb k' hb => ?_)
    k_unmd; k_unfold
    dsimp only
    exact h _ _ _ _ _ F.keep hm2 hm1 hb
  · rename Int.fdiv _ _ = 0 => ha
    exfalso
    rw [hm3] at ha
    have hz : (Builtin.Int.intBits (n : Int) + 7) / 8 = 0 := by omega
    rw [hz] at hm1
    omega

set_option maxRecDepth 100000 in
set_option maxHeartbeats 8000000 in
theorem b2i_call {w : World} {mg mb : Str → Option Value} {s : Shared} {b : Array UInt8} {ns : List Nat} {t : Tok} {Q E : Value → Shared → Prop}
    (W : Wd w mg mb s.heap) (hb : KBw.bInts b = casts ns) (hl : ns.length ≤ 100)
    (h : ∀ tb h' tk, (∀ b o, s.heap.get? b = some o → h'.get? b = some o) → Q (.int (num 8 ns : Nat) tb) { s with heap := h', toks := tk }) :
    wpAny (model PySem.Challenge.rw_vn0023_01.row.prog w) (Aat 690 3000) (call (.ref 63) [.bytes b t]) Q E s := by
  have X := W.K
  have T := W.T
  refine' enter (binds := [(Str.ofString "value", Value.bytes b t)]) X T.nolimit ?k1 ?k2 ?k3 ?k4 ?k5 ?k6 ?k7 ?k8 ?k9 ?_
  case k1 => k_is
  case k2 => k_is
  case k3 => decide
  case k4 => exact BindsTo.of_eq rfl
  case k5 => exact locs rfl
  case k6 => rfl
  case k7 => rfl
  case k8 => rfl
  case k9 => decide
  intro h₁ F N
  k_unmd; k_fold
  ktr_unf
  rename Fr _ _ _ _ => F1
  rename News _ _ _ _ => N1
  refine KFB.call_of (z := ((num 8 ns : Nat) : Int)) (KFB.at_of N1 (.head _)) (fun z => fromBig_tree hb (by omega) z) ?_
  k_unmd; k_unfold
  dsimp only
  exact h _ _ _ F1.keep
end Mine
end
section
open PySem PySem.W PySem.Calls PyProof.Rows
set_option linter.unusedSimpArgs false
set_option linter.unusedVariables false
namespace Mine
local macro_rules | `(tactic| walk_at "binaryOp LShift int int") => `(tactic| (refine lshift_int_small (by decide) (by decide) (by assumption) ?_))
local macro_rules | `(tactic| walk_at "eval Name") => `(tactic| (k_here; (with_reducible show wpAny _ _ (eval _ (compEnvC _ _ _ _)) _ _ _); k_dflt (first
  | (refine' kcf_cell ?N ?c ?m ?d ?_ ?a ?b ?e; (case a => rfl); (case b => rfl); (case e => decide); (case N => k_asm); (case c => rfl); (case m => k_mem); (case d => k_asm); k_whole)
  | (refine' nmL ?n ?v ?_ ?a ?b ?c; (case a => rfl); (case b => rfl); (case c => decide); (case n => assumption); (case v => assumption); k_whole)
  | (refine' nmB ?F ?X ?T ?e ?v ?n ?_ ?a ?b ?c ?d ?g; (case a => rfl); (case b => rfl); (case c => rfl); (case d => rfl); (case g => decide); (case F => k_asm); (case X => k_asm); (case T => k_asm); (case e => k_is); (case v => boot_fast); (case n => decide); k_whole)
  | (refine' nameG_K ?F ?X ?T ?e ?_ ?a ?b ?c ?d; (case a => rfl); (case b => rfl); (case c => rfl); (case d => decide); (case F => k_asm); (case X => k_asm); (case T => k_asm); (case e => k_is); k_whole))))
local macro_rules | `(tactic| ktr_unf) => `(tactic| (repeat' (first
   | (k_unmd; k_unfold; (try dsimp only))
   | ((fail_if_success (with_reducible show Exists _)); (fail_if_success (with_reducible show Keeps _ _ ∧ _)); (fail_if_success (with_reducible show InvEndN _ _ _ _ _ _ _)); (fail_if_success (with_reducible show KswEnd _ _ _ _ _ _ _ _ _ _ _ _)); (fail_if_success (with_reducible show wpAny _ _ (exec (Stmt.For _ _ _ _ _) _) _ _ _)); (fail_if_success (with_reducible show wpAny _ _ (pyIter _) _ _ _)); (fail_if_success (with_reducible show wpAny _ _ (PySem.call (Value.ref _) _) _ _ _)); (fail_if_success (with_reducible show wpAny _ _ (exec (Stmt.While _ _ _ _) _) _ _ _)); (fail_if_success (with_reducible show wpAny _ _ (eval (Expr.ListComp _ _ _ _) _) _ _ _)); walk1))))
local macro_rules | `(tactic| walk_at "getAttr ref") => `(tactic| (k_here; k_dflt (refine' get_own ?k1 ?k2 ?k3 ?k4 ?k5 ?k6 ?k7 ?k8 ?k9 ?_; (case k1 => k_asm); (case k2 => k_asm); (case k3 => exact ⟨Fr.keep (by k_asm) _ _ (by assumption), rfl, rfl, Fr.keep (by k_asm) _ _ (by assumption)⟩); (case k4 => k_is); (case k5 => k_is); (case k6 => k_is); (case k7 => k_is); (case k8 => k_get); (case k9 => k_handed); k_whole)))

abbrev selfDict (size : Nat) (hsh : Int) (tk tv : Tok) (k : Nat) : Obj := dictOf [⟨hsh, .str (Str.ofString "length") tk, .int (size : Int) tv⟩] k

set_option maxRecDepth 100000 in
set_option maxHeartbeats 8000000 in
theorem ser_call {w : World} {mg mb : Str → Option Value} {s : Shared} {x dx : Addr} {size : Nat} {hsh : Int} {tk tv : Tok} {kk : Nat} {n : Nat} {t : Tok} {Q E : Value → Shared → Prop}
    (W : Wd w mg mb s.heap) (hx : s.heap.get? x = some (instObj 157 dx)) (hdx : s.heap.get? dx = some (selfDict size hsh tk tv kk)) (hs : size ≤ 12) (hs1 : 1 ≤ size) (hn : n < 2 ^ (8 * size))
    (h : ∀ b tb h' tk, (∀ b o, s.heap.get? b = some o → h'.get? b = some o) → KBw.bInts b = casts (oct size n) → Q (.bytes b tb) { s with heap := h', toks := tk }) :
    wpAny (model PySem.Challenge.rw_vn0023_01.row.prog w) (Aat 680 2900) (call (.ref 147) [.ref x, .int (n : Int) t]) Q E s := by
  have X := W.K
  have T := W.T
  refine' enter (binds := [(Str.ofString "self", Value.ref x), (Str.ofString "obj", Value.int (n : Int) t)]) X T.nolimit ?k1 ?k2 ?k3 ?k4 ?k5 ?k6 ?k7 ?k8 ?k9 ?_
  case k1 => k_is
  case k2 => k_is
  case k3 => decide
  case k4 => exact BindsTo.of_eq rfl
  case k5 => exact locs rfl
  case k6 => rfl
  case k7 => rfl
  case k8 => rfl
  case k9 => decide
  intro h₁ F N
  have hp : (n : Int) < 256 ^ (size : Int).toNat := by
    rw [Int.toNat_natCast, KTBy.p256]
    have : (256 : Nat) ^ size = 2 ^ (8 * size) := by rw [Nat.pow_mul]
    omega
  k_unmd; k_fold
  ktr_unf
  · rename (n : Int) = 0 => hz
    rename Fr _ _ _ _ => F7
    have hk0 : (if (size : Int) - ((#[] : Array UInt8).size : Int) > 0 then (size : Int) - ((#[] : Array UInt8).size : Int) else 0).toNat = size := by
      have : ((#[] : Array UInt8).size : Int) = 0 := rfl
      rw [this, if_pos (by omega)]
      omega
    refine KBa.add_K (ks := casts (List.replicate size 0)) (ls := []) ?_ rfl ?_ (fun t9 k9 hb9 => ?_)
    · rw [hk0]; exact zeros_ints size
    · simp; omega
    k_unmd; k_unfold
    dsimp only
    refine h _ _ _ _ F7.keep ?_
    have hz0 : n = 0 := by omega
    have ho := oct_pad (m := 0) (k := size) (n := 0) (by omega) (by decide)
    have h00 : oct 0 0 = [] := rfl
    rw [hb9, hz0, ho, h00]
    simp
  · rename (n : Int) ≠ 0 => hz
    refine weaken 690 3000 (i2b_call (k := size) (Wd.of X T F) (by omega) hn (by omega) ?_) rfl (Nat.le_of_ble_eq_true rfl) (Nat.le_of_ble_eq_true rfl)
    intro b m tb h6 tk6 hk6 hm hnm hb
    have hbl : (casts (oct m n)).length = m := by simp [oct_length]
    have F6 := F.keeps hk6
    have N6 := N.grown hk6
    clear F N
    k_unmd; k_fold
    ktr_unf
    rename Fr _ _ _ _ => F7
    have hlo : (oct m n).length = m := oct_length m n
    have hk0 : (if (size : Int) - ((oct m n).length : Int) > 0 then (size : Int) - ((oct m n).length : Int) else 0).toNat = size - m := by
      rw [hlo]
      split <;> omega
    refine KBa.add_K (ks := casts (List.replicate (size - m) 0)) (ls := casts (oct m n)) ?_ hb ?_ (fun t9 k9 hb9 => ?_)
    · rw [hk0]; exact zeros_ints _
    · simp [oct_length]; omega
    k_unmd; k_unfold
    dsimp only
    refine h _ _ _ _ F7.keep ?_
    rw [hb9, oct_pad hm hnm]
    simp [casts]
end Mine
end
section
open PySem PySem.W PySem.Calls PyProof.Rows
set_option linter.unusedSimpArgs false
set_option linter.unusedVariables false
namespace Mine
local macro_rules | `(tactic| walk_at "binaryOp LShift int int") => `(tactic| (refine lshift_int_small (by decide) (by decide) (by assumption) ?_))
local macro_rules | `(tactic| walk_at "eval Name") => `(tactic| (k_here; (with_reducible show wpAny _ _ (eval _ (compEnvC _ _ _ _)) _ _ _); k_dflt (first
  | (refine' kcf_cell ?N ?c ?m ?d ?_ ?a ?b ?e; (case a => rfl); (case b => rfl); (case e => decide); (case N => k_asm); (case c => rfl); (case m => k_mem); (case d => k_asm); k_whole)
  | (refine' nmL ?n ?v ?_ ?a ?b ?c; (case a => rfl); (case b => rfl); (case c => decide); (case n => assumption); (case v => assumption); k_whole)
  | (refine' nmB ?F ?X ?T ?e ?v ?n ?_ ?a ?b ?c ?d ?g; (case a => rfl); (case b => rfl); (case c => rfl); (case d => rfl); (case g => decide); (case F => k_asm); (case X => k_asm); (case T => k_asm); (case e => k_is); (case v => boot_fast); (case n => decide); k_whole)
  | (refine' nameG_K ?F ?X ?T ?e ?_ ?a ?b ?c ?d; (case a => rfl); (case b => rfl); (case c => rfl); (case d => decide); (case F => k_asm); (case X => k_asm); (case T => k_asm); (case e => k_is); k_whole))))
local macro_rules | `(tactic| ktr_unf) => `(tactic| (repeat' (first
   | (k_unmd; k_unfold; (try dsimp only))
   | ((fail_if_success (with_reducible show Exists _)); (fail_if_success (with_reducible show Keeps _ _ ∧ _)); (fail_if_success (with_reducible show InvEndN _ _ _ _ _ _ _)); (fail_if_success (with_reducible show KswEnd _ _ _ _ _ _ _ _ _ _ _ _)); (fail_if_success (with_reducible show wpAny _ _ (exec (Stmt.For _ _ _ _ _) _) _ _ _)); (fail_if_success (with_reducible show wpAny _ _ (pyIter _) _ _ _)); (fail_if_success (with_reducible show wpAny _ _ (PySem.call (Value.ref _) _) _ _ _)); (fail_if_success (with_reducible show wpAny _ _ (exec (Stmt.While _ _ _ _) _) _ _ _)); (fail_if_success (with_reducible show wpAny _ _ (eval (Expr.ListComp _ _ _ _) _) _ _ _)); walk1))))
local macro_rules | `(tactic| walk_at "getAttr ref") => `(tactic| (k_here; k_dflt (refine' get_own ?k1 ?k2 ?k3 ?k4 ?k5 ?k6 ?k7 ?k8 ?k9 ?_; (case k1 => k_asm); (case k2 => k_asm); (case k3 => exact ⟨Fr.keep (by k_asm) _ _ (by assumption), rfl, rfl, Fr.keep (by k_asm) _ _ (by assumption)⟩); (case k4 => k_is); (case k5 => k_is); (case k6 => k_is); (case k7 => k_is); (case k8 => k_get); (case k9 => k_handed); k_whole)))


set_option maxRecDepth 100000 in
set_option maxHeartbeats 8000000 in
theorem des_call {w : World} {mg mb : Str → Option Value} {s : Shared} {x dx : Addr} {size : Nat} {hsh : Int} {tk tv : Tok} {kk : Nat} {b : Array UInt8} {ns : List Nat} {t : Tok} {Q E : Value → Shared → Prop}
    (W : Wd w mg mb s.heap) (hx : s.heap.get? x = some (instObj 157 dx)) (hdx : s.heap.get? dx = some (selfDict size hsh tk tv kk)) (hs : size ≤ 12) (hs1 : 1 ≤ size) (hb : KBw.bInts b = casts ns) (hl : ns.length = size)
    (h : ∀ tb h' tk, (∀ b o, s.heap.get? b = some o → h'.get? b = some o) → Q (.int (num 8 ns : Nat) tb) { s with heap := h', toks := tk }) :
    wpAny (model PySem.Challenge.rw_vn0023_01.row.prog w) (Aat 680 2900) (call (.ref 154) [.ref x, .bytes b t]) Q E s := by
  have X := W.K
  have T := W.T
  refine' enter (binds := [(Str.ofString "self", Value.ref x), (Str.ofString "serial", Value.bytes b t)]) X T.nolimit ?k1 ?k2 ?k3 ?k4 ?k5 ?k6 ?k7 ?k8 ?k9 ?_
  case k1 => k_is
  case k2 => k_is
  case k3 => decide
  case k4 => exact BindsTo.of_eq rfl
  case k5 => exact locs rfl
  case k6 => rfl
  case k7 => rfl
  case k8 => rfl
  case k9 => decide
  intro h₁ F N
  have hcl : (casts ns).length = size := by simpa using hl
  k_unmd; k_fold
  ktr_unf
  · rename (_ : Int) ≠ _ => ha
    exact absurd (by omega) ha
  · rename Fr _ _ _ _ => F1
    refine weaken 690 3000 (b2i_call (Wd.of X T F1) hb (by omega) ?_) rfl (Nat.le_of_ble_eq_true rfl) (Nat.le_of_ble_eq_true rfl)
    intro tb h6 tk6 hk6
    k_unmd; k_unfold
    dsimp only
    exact h _ _ _ (fun b o e => hk6 b o (F1.keep b o e))
end Mine
end
section
open PySem PySem.W PySem.Calls PyProof.Rows
set_option linter.unusedSimpArgs false
set_option linter.unusedVariables false
set_option maxRecDepth 100000
namespace Mine
/-- an iterator that a zip may draw from -/
structure NextIt (prog : Program) (w : World) (I : Addr) (fp : List Addr) (n : Nat) (P : Nat → Value → Prop) (St : Nat → Heap → Prop) : Prop where
  mem : I ∈ fp
  frame : ∀ i h h', St i h → (∀ b ∈ fp, ∀ o, h.get? b = some o → h'.get? b = some o) → St i h'
  obj : ∀ i h, St i h → ∀ b ∈ fp, ∃ o, h.get? b = some o
  item : ∀ i (A : Around) (s : Shared) (Q E : Value → Shared → Prop), A.handled = none → i < n → St i s.heap →
    (∀ v h' tk, P i v → St (i + 1) h' → Heap.SameBut I s.heap h' → Q v { s with heap := h', toks := tk }) → wpAny (model prog w) A (Builtin.SmallTypes.nextOf (.ref I)) Q E s
  done : ∀ (A : Around) (s : Shared) (Q E : Value → Shared → Prop), A.handled = none → St n s.heap →
    (∀ h' e, (∀ c o, c ≠ I → s.heap.get? c = some o → h'.get? c = some o) → (∃ o, h'.get? e = some o ∧ o.cls = .type "StopIteration") → E (.ref e) { s with heap := h' }) →
    wpAny (model prog w) A (Builtin.SmallTypes.nextOf (.ref I)) Q E s

/-- a thing that a zip may be made of -/
structure ZipArg (prog : Program) (w : World) (v : Value) (o : Obj) (n : Nat) (P : Nat → Value → Prop) (G : Heap → Prop) (fx : List Addr) (St : Addr → Nat → Heap → Prop) : Prop where
  iter : ∀ (A : Around) (s : Shared) (Q E : Value → Shared → Prop), G s.heap → Q (.ref s.heap.objs.size) { s with heap := s.heap.push o } → wpAny (model prog w) A (pyIter v) Q E s
  free : o.isFreed = false
  start : ∀ h I, G h → h.get? I = some o → St I 0 h
  next : ∀ I, I ∉ fx → NextIt prog w I (I :: fx) n P (St I)
  mono : ∀ h h', G h → (∀ b o, h.get? b = some o → h'.get? b = some o) → G h'
  there : ∀ h, G h → ∀ b ∈ fx, ∃ o, h.get? b = some o

section
variable {prog : Program} {w : World} {A : Around} {E : Value → Shared → Prop} {s : Shared}

theorem raise_stop {α : Type} {Q : α → Shared → Prop} (hh : A.handled = none)
    (hE : ∀ h' e, (∀ c o, s.heap.get? c = some o → h'.get? c = some o) → (∃ o, h'.get? e = some o ∧ o.cls = .type "StopIteration") → E (.ref e) { s with heap := h' }) :
    wpAny (model prog w) A ((newExc (.type "StopIteration") []) >>= fun e => (raiseNew e : Sem α)) Q E s := by
  refine wpAny_bind ?_
  simp only [newExc, newTuple]
  refine wpAny_bind (wpAny_newObj_type ?_ (by size_fits))
  refine wpAny_bind (m := firstArgMember _ _) (wpAny_of_eq (a := Value.none) (by first | rfl | (simp only [firstArgMember]; rfl)) ?_)
  refine wpAny_newObj_type ?_ (by size_fits)
  simp only [raiseNew]
  refine wpAny_bind (wpAny_handled ?_)
  rw [hh]
  refine wpAny_bind (wpAny_pure (wpAny_throw ?_))
  exact hE _ _ (fun c o e => Heap.get?_push_of_some _ (Heap.get?_push_of_some _ e)) ⟨_, Heap.get?_push_size _ rfl, rfl⟩

theorem next_list (I l : Addr) (hne : I ∉ [l]) (items : Array Value) :
    NextIt prog w I [I, l] items.size (fun i v => items[i]? = some v) (fun i h => h.IsListIter I l i ∧ h.IsList l items) where
  mem := List.mem_cons_self
  frame := fun i h h' st hk => ⟨st.1.at fun o e => hk I (by simp) o e, st.2.at fun o e => hk l (by simp) o e⟩
  obj := fun i h st b hb => by
    rcases List.mem_cons.mp hb with rfl | hb
    · obtain ⟨o, e, _⟩ := st.1; exact ⟨o, e⟩
    · rw [List.mem_singleton.mp hb]; obtain ⟨o, e, _⟩ := st.2; exact ⟨o, e⟩
  item := fun i A s Q E hh hi st hQ => by
    have hl : l ≠ I := fun e => hne (by rw [e]; exact List.mem_cons_self)
    refine wpAny_nextOf_list_item st.1 st.2 (Array.getElem?_eq_getElem hi) fun h' hit hs => ?_
    exact hQ _ h' s.toks (Array.getElem?_eq_getElem hi) ⟨hit, st.2.extBut hs.extBut hl⟩ hs
  done := fun A s Q E hh st hE => by
    refine wpAny_nextOf_list_end hh st.1 st.2 (Array.getElem?_eq_none (Nat.le_refl _)) fun h' e hx he => ?_
    exact hE h' e (fun c o hc q => hx c o hc q) he

theorem zipArg_list {l : Addr} {items : Array Value} : ZipArg prog w (.ref l) { cls := .type "list_iterator", data := .fields #[.ref l, .int 0 0] } items.size (fun i v => items[i]? = some v) (fun h => h.IsList l items) [l]
    (fun I i h => h.IsListIter I l i ∧ h.IsList l items) where
  iter := fun A s Q E hl hQ => wpAny_pyIter_list hl hQ
  free := rfl
  start := fun h I hl e => ⟨⟨_, e, rfl, rfl⟩, hl⟩
  next := fun I hne => next_list I l hne items
  mono := fun h h' hl k => isList_keeps hl k
  there := fun h hl b hb => by rw [List.mem_singleton.mp hb]; obtain ⟨o, e, _⟩ := hl; exact ⟨o, e⟩

theorem next_bytes (I : Addr) (b : Array UInt8) (t : Tok) : NextIt prog w I [I] b.size (fun i v => ∃ c u, b[i]? = some c ∧ v = .int (c.toNat : Int) u) (fun i h => KBw.IsBytesIter h I b t i) where
  mem := List.mem_cons_self
  frame := fun i h h' st hk => let ⟨o, ho, r⟩ := st; ⟨o, hk I (by simp) o ho, r⟩
  obj := fun i h st b hb => by rw [List.mem_singleton.mp hb]; obtain ⟨o, e, _⟩ := st; exact ⟨o, e⟩
  item := fun i A s Q E hh hi hit hQ => by
    obtain ⟨o, ho, hc, hd⟩ := id hit
    have hx : b[i]? = some b[i] := by simp [hi]
    unfold Builtin.SmallTypes.nextOf
    refine wpAny_bind (wpAny_callSpecial?_slot (name := PySem.Str.ofString "__next__") (KBw.iter_typeIs hit) KBw.slot_next
      (wpAny_call_entry KBw.slot_next (KBw.iter_typeIs hit) KBw.entry_next ?_ (KBw.args_next _)))
    show wpAny _ _ (field (.ref I) 0 >>= _) _ _ s
    refine wpAny_bind (wpAny_field ho hd (x := .bytes b t) rfl ?_)
    show wpAny _ _ (if (Value.bytes b t == Value.none) = true then _ else _) _ _ s
    rw [if_neg (show ¬ ((Value.bytes b t == Value.none) = true) from Bool.false_ne_true)]
    show wpAny _ _ (field (.ref I) 1 >>= _) _ _ s
    refine wpAny_bind (wpAny_field ho hd (x := .int i 0) rfl ?_)
    refine wpAny_bind (wpAny_of_eq (a := b) rfl ?_)
    simp only [Int.toNat_natCast, hx]
    refine wpAny_bind (wpAny_setField ho hd (by simp) (wpAny_bind (wpAny_mkInt (wpAny_pure ⟨_, rfl, wpAny_pure (hQ _ _ _ ⟨_, _, hx, rfl⟩ ?_ (Heap.SameBut.update ..))⟩))))
    exact ⟨_, Heap.get?_update_self _ ho (Obj.isFreed_of_fields (Obj.data_mapFields hd _)), (Obj.cls_mapFields ..).trans hc, by
      rw [Obj.data_mapFields hd]; simp [rawInt]⟩
  done := fun A s Q E hh hit hE => by
    obtain ⟨o, ho, hc, hd⟩ := id hit
    have hx : b[b.size]? = none := by simp
    unfold Builtin.SmallTypes.nextOf
    refine wpAny_bind (wpAny_callSpecial?_slot (name := PySem.Str.ofString "__next__") (KBw.iter_typeIs hit) KBw.slot_next
      (wpAny_call_entry KBw.slot_next (KBw.iter_typeIs hit) KBw.entry_next ?_ (KBw.args_next _)))
    show wpAny _ _ (field (.ref I) 0 >>= _) _ _ s
    refine wpAny_bind (wpAny_field ho hd (x := .bytes b t) rfl ?_)
    show wpAny _ _ (if (Value.bytes b t == Value.none) = true then _ else _) _ _ s
    rw [if_neg (show ¬ ((Value.bytes b t == Value.none) = true) from Bool.false_ne_true)]
    show wpAny _ _ (field (.ref I) 1 >>= _) _ _ s
    refine wpAny_bind (wpAny_field ho hd (x := .int b.size 0) rfl ?_)
    refine wpAny_bind (wpAny_of_eq (a := b) rfl ?_)
    simp only [Int.toNat_natCast, hx]
    refine wpAny_bind (wpAny_rule (wpAny_bind (wpAny_setField ho hd (by simp) ?_)))
    refine raise_stop hh fun h' e k he => ?_
    exact hE h' e (fun c o' hc' q => k c o' ((Heap.SameBut.update ..).extBut c o' hc' q)) he

theorem zipArg_bytes {b : Array UInt8} {t : Tok} : ZipArg prog w (.bytes b t) { cls := .type "bytes_iterator", data := .fields #[.bytes b t, .int 0 0] } b.size (fun i v => ∃ c u, b[i]? = some c ∧ v = .int (c.toNat : Int) u) (fun _ => True) []
    (fun I i h => KBw.IsBytesIter h I b t i) where
  iter := fun A s Q E _ hQ => KBw.pyIter_bytes hQ
  free := rfl
  start := fun h I _ e => ⟨_, e, rfl, rfl⟩
  next := fun I _ => next_bytes I b t
  mono := fun _ _ _ _ => trivial
  there := fun _ _ _ hb => nomatch hb

theorem next_ascii (I : Addr) (x : Str) (t : Tok) : NextIt prog w I [I] x.cps.size (SignAt x) (fun i h => h.IsStrIter I "str_ascii_iterator" x t i) where
  mem := List.mem_cons_self
  frame := fun i h h' st hk => let ⟨o, ho, r⟩ := st; ⟨o, hk I (by simp) o ho, r⟩
  obj := fun i h st b hb => by rw [List.mem_singleton.mp hb]; obtain ⟨o, e, _⟩ := st; exact ⟨o, e⟩
  item := fun i A s Q E hh hi hit hQ => by
    obtain ⟨o, ho, hc, hd⟩ := id hit
    have hx : x.cps[i]? = some x.cps[i] := by simp [hi]
    unfold Builtin.SmallTypes.nextOf
    refine wpAny_bind (wpAny_callSpecial?_slot (name := Str.ofString "__next__") hit.typeIs F.slot_str_ascii_iterator_next
      (wpAny_call_entry F.slot_str_ascii_iterator_next hit.typeIs F.entry_str_ascii_iterator_next ?_ (F.args_str_ascii_iterator_next_1 _)))
    show wpAny _ _ (field (.ref I) 0 >>= _) _ _ s
    refine wpAny_bind (wpAny_field ho hd (x := .str x t) rfl ?_)
    show wpAny _ _ (field (.ref I) 1 >>= _) _ _ s
    refine wpAny_bind (wpAny_field ho hd (x := .int i 0) rfl ?_)
    simp only [Int.toNat_natCast, hx]
    refine wpAny_bind (wpAny_setField ho hd (by simp) (wpAny_bind (wpAny_mkStr (wpAny_pure ⟨_, rfl, wpAny_pure (hQ _ _ _ ⟨_, _, hx, rfl⟩ ?_ (Heap.SameBut.update ..))⟩) (by show 1 ≤ sizeLine; decide))))
    exact ⟨_, Heap.get?_update_self _ ho (Obj.isFreed_of_fields (Obj.data_mapFields hd _)), (Obj.cls_mapFields ..).trans hc, by
      rw [Obj.data_mapFields hd]; simp [rawInt]⟩
  done := fun A s Q E hh hit hE => by
    obtain ⟨o, ho, hc, hd⟩ := id hit
    have hx : x.cps[x.cps.size]? = none := by simp
    unfold Builtin.SmallTypes.nextOf
    refine wpAny_bind (wpAny_callSpecial?_slot (name := Str.ofString "__next__") hit.typeIs F.slot_str_ascii_iterator_next
      (wpAny_call_entry F.slot_str_ascii_iterator_next hit.typeIs F.entry_str_ascii_iterator_next ?_ (F.args_str_ascii_iterator_next_1 _)))
    show wpAny _ _ (field (.ref I) 0 >>= _) _ _ s
    refine wpAny_bind (wpAny_field ho hd (x := .str x t) rfl ?_)
    show wpAny _ _ (field (.ref I) 1 >>= _) _ _ s
    refine wpAny_bind (wpAny_field ho hd (x := .int x.cps.size 0) rfl ?_)
    simp only [Int.toNat_natCast, hx]
    refine wpAny_bind (wpAny_rule (wpAny_bind (wpAny_setField ho hd (by simp) (wpAny_bind (wpAny_letGo ?_)))))
    refine raise_stop hh fun h' e k he => ?_
    exact hE h' e (fun c o' hc' q => k c o' ((Heap.SameBut.update ..).extBut c o' hc' q)) he

theorem zipArg_ascii {x : Str} {t : Tok} (ha : x.cps.all (· < 128) = true) : ZipArg prog w (.str x t) { cls := .type "str_ascii_iterator", data := .fields #[.str x t, .int 0 0] } x.cps.size (SignAt x) (fun _ => True) []
    (fun I i h => h.IsStrIter I "str_ascii_iterator" x t i) where
  iter := fun A s Q E _ hQ => wpAny_pyIter_ascii ha hQ
  free := rfl
  start := fun h I _ e => ⟨_, e, rfl, rfl⟩
  next := fun I _ => next_ascii I x t
  mono := fun _ _ _ _ => trivial
  there := fun _ _ _ hb => nomatch hb
end
end Mine
end
section
open PySem PySem.W PySem.Calls PyProof.Rows
set_option linter.unusedSimpArgs false
set_option linter.unusedVariables false
set_option maxRecDepth 100000
namespace Mine
abbrev TupAt (h : Heap) (T : Addr) (vs : Array Value) : Prop := h.get? T = some { cls := .type "tuple", data := .seq vs }

theorem NextIt.still {prog : Program} {w : World} {I : Addr} {fp : List Addr} {n : Nat} {P : Nat → Value → Prop} {St : Nat → Heap → Prop} (N : NextIt prog w I fp n P St) {i : Nat} {h h' : Heap} {X : Addr}
    (st : St i h) (hX : X ∉ fp) (hs : ∀ b o, b ≠ X → h.get? b = some o → h'.get? b = some o) : St i h' :=
  N.frame _ _ _ st fun b hb o e => hs b o (fun q => hX (q ▸ hb)) e

section
variable {prog : Program} {w : World} {A : Around} {E : Value → Shared → Prop} {s : Shared}

theorem updTup {T : Addr} {vs : Array Value} {x : Value} {k : Nat} {Q : Unit → Shared → Prop} (hT : TupAt s.heap T vs)
    (hsz : vs.size ≤ 100) (h : ∀ h', TupAt h' T (vs.setIfInBounds k x) → Heap.SameBut T s.heap h' → Q () { s with heap := h' }) :
    wpAny (model prog w) A (updateSeq T (·.setIfInBounds k x)) Q E s := by
  refine wpAny_updateSeq hT rfl (h _ ?_ (Heap.SameBut.update ..)) (by rw [sizeLine_eq]; omega) (by rw [sizeLine_eq]; simp; omega)
  show (s.heap.update T _).get? T = _
  rw [Heap.get?_update_self _ hT rfl]
  simp [Obj.mapSeq]

/-- all that moves while a zip of three is drawn from, and what must not -/
structure Apart3 (z TI TO i1 i2 i3 : Addr) (f1 f2 f3 : List Addr) : Prop where
  TIz : TI ≠ z
  TOz : TO ≠ z
  TITO : TI ≠ TO
  i1z : i1 ≠ z
  i2z : i2 ≠ z
  i3z : i3 ≠ z
  TIi1 : TI ≠ i1
  TIi2 : TI ≠ i2
  TIi3 : TI ≠ i3
  TOi1 : TO ≠ i1
  TOi2 : TO ≠ i2
  TOi3 : TO ≠ i3
  i12 : i1 ≠ i2
  i13 : i1 ≠ i3
  i23 : i2 ≠ i3
  zf1 : z ∉ f1
  zf2 : z ∉ f2
  zf3 : z ∉ f3
  Tf1 : TO ∉ f1
  Tf2 : TO ∉ f2
  Tf3 : TO ∉ f3
  f12 : i1 ∉ f2
  f13 : i1 ∉ f3
  f21 : i2 ∉ f1
  f23 : i2 ∉ f3
  f31 : i3 ∉ f1
  f32 : i3 ∉ f2

variable {z TI TO i1 i2 i3 : Addr} {f1 f2 f3 : List Addr} {n : Nat} {P1 P2 P3 : Nat → Value → Prop} {S1 S2 S3 : Nat → Heap → Prop}

theorem zip3_item {i : Nat} {a b c : Value} {Q : Value → Shared → Prop} (hh : A.handled = none) (D : Apart3 z TI TO i1 i2 i3 f1 f2 f3)
    (N1 : NextIt prog w i1 f1 n P1 S1) (N2 : NextIt prog w i2 f2 n P2 S2) (N3 : NextIt prog w i3 f3 n P3 S3)
    (hz : IsZip s.heap z TI TO .none) (hTI : TupAt s.heap TI #[.ref i1, .ref i2, .ref i3]) (hTO : TupAt s.heap TO #[a, b, c])
    (h1 : S1 i s.heap) (h2 : S2 i s.heap) (h3 : S3 i s.heap) (hi : i < n)
    (hQ : ∀ T h' tk x y u, P1 i x → P2 i y → P3 i u → s.heap.get? T = none → IsZip h' z TI TO (rawInt T) → TupAt h' TO #[x, y, u] → S1 (i + 1) h' → S2 (i + 1) h' → S3 (i + 1) h' → TupAt h' T #[x, y, u] →
      (∀ c o, c ∉ [z, TO, i1, i2, i3] → s.heap.get? c = some o → h'.get? c = some o) → Q (.ref T) { s with heap := h', toks := tk }) :
    wpAny (model prog w) A (Builtin.«zip.__next__» ⟨[.ref z], []⟩) (fun fin s' => ∃ v, fin = .done (.ret v) ∧ Q v s') E s := by
  show wpAny _ _ (field (.ref z) 2 >>= _) _ _ _
  refine wpAny_bind (wpAny_field hz rfl (x := .bool false) rfl ?_)
  show wpAny _ _ (field (.ref z) 3 >>= _) _ _ _
  refine wpAny_bind (wpAny_field hz rfl (x := .ref TI) rfl ?_)
  refine wpAny_bind (wpAny_seqItems hTI rfl ?_)
  show wpAny _ _ (Builtin.SmallTypes.ownedTupleIsFree (.ref z) >>= _) _ _ _
  refine wpAny_bind ?_
  unfold Builtin.SmallTypes.ownedTupleIsFree
  refine wpAny_bind (wpAny_field hz rfl (x := .none) rfl (wpAny_pure ?_))
  simp only [if_true]
  refine wpAny_bind (wpAny_rule ?_)
  refine wpAny_bind (wpAny_field hz rfl (x := .ref TO) rfl ?_)
  refine wpAny_bind (wpAny_setField_rec hz (by simp) fun h₁ hz₁ hs₁ => ?_)
  replace hz₁ : IsZip h₁ z TI TO .ellipsis := hz₁
  refine wpAny_bind ?_
  simp only [List.zipIdx_cons, List.zipIdx_nil, List.forIn_cons, List.forIn_nil]
  -- the first
  refine wpAny_bind (wpAny_bind (wpAny_onRaise ?_))
  show wpAny _ _ (Builtin.SmallTypes.nextOf (.ref i1) >>= _) _ _ _
  refine wpAny_bind (N1.item i A _ _ _ hh hi (N1.still h1 D.zf1 hs₁.extBut) fun x h₂ tk₂ hx h1₂ hs₂ => wpAny_pure ?_)
  have hTO₂ : TupAt h₂ TO #[a, b, c] := hs₂.extBut _ _ D.TOi1 (hs₁.extBut _ _ D.TOz hTO)
  refine wpAny_bind (wpAny_seqItems hTO₂ rfl ?_)
  refine wpAny_bind (updTup hTO₂ (Nat.le_of_ble_eq_true rfl) fun h₃ hTO₃ hs₃ => ?_)
  replace hTO₃ : TupAt h₃ TO #[x, b, c] := hTO₃
  refine wpAny_bind (wpAny_letGo (wpAny_pure ?_))
  have k₃ : ∀ c o, c ∉ [z, TO, i1] → s.heap.get? c = some o → h₃.get? c = some o := fun c o hc e => by
    simp at hc
    exact hs₃.extBut _ _ hc.2.1 (hs₂.extBut _ _ hc.2.2 (hs₁.extBut _ _ hc.1 e))
  -- the second
  refine wpAny_bind (wpAny_bind (wpAny_onRaise ?_))
  show wpAny _ _ (Builtin.SmallTypes.nextOf (.ref i2) >>= _) _ _ _
  have h2₃ : S2 i h₃ := N2.frame _ _ _ h2 fun b hb o e => k₃ b o (by
    simp
    exact ⟨fun q => D.zf2 (q ▸ hb), fun q => D.Tf2 (q ▸ hb), fun q => D.f12 (q ▸ hb)⟩) e
  refine wpAny_bind (N2.item i A _ _ _ hh hi h2₃ fun y h₄ tk₄ hy h2₄ hs₄ => wpAny_pure ?_)
  have hTO₄ : TupAt h₄ TO #[x, b, c] := hs₄.extBut _ _ D.TOi2 hTO₃
  refine wpAny_bind (wpAny_seqItems hTO₄ rfl ?_)
  refine wpAny_bind (updTup hTO₄ (Nat.le_of_ble_eq_true rfl) fun h₅ hTO₅ hs₅ => ?_)
  replace hTO₅ : TupAt h₅ TO #[x, y, c] := hTO₅
  refine wpAny_bind (wpAny_letGo (wpAny_pure ?_))
  have k₅ : ∀ c o, c ∉ [z, TO, i1, i2] → s.heap.get? c = some o → h₅.get? c = some o := fun c o hc e => by
    simp at hc
    exact hs₅.extBut _ _ hc.2.1 (hs₄.extBut _ _ hc.2.2.2 (k₃ c o (by simp; exact ⟨hc.1, hc.2.1, hc.2.2.1⟩) e))
  -- the third
  refine wpAny_bind (wpAny_bind (wpAny_onRaise ?_))
  show wpAny _ _ (Builtin.SmallTypes.nextOf (.ref i3) >>= _) _ _ _
  have h3₅ : S3 i h₅ := N3.frame _ _ _ h3 fun b hb o e => k₅ b o (by
    simp
    exact ⟨fun q => D.zf3 (q ▸ hb), fun q => D.Tf3 (q ▸ hb), fun q => D.f13 (q ▸ hb), fun q => D.f23 (q ▸ hb)⟩) e
  refine wpAny_bind (N3.item i A _ _ _ hh hi h3₅ fun u h₆ tk₆ hu h3₆ hs₆ => wpAny_pure ?_)
  have hTO₆ : TupAt h₆ TO #[x, y, c] := hs₆.extBut _ _ D.TOi3 hTO₅
  refine wpAny_bind (wpAny_seqItems hTO₆ rfl ?_)
  refine wpAny_bind (updTup hTO₆ (Nat.le_of_ble_eq_true rfl) fun h₇ hTO₇ hs₇ => ?_)
  replace hTO₇ : TupAt h₇ TO #[x, y, u] := hTO₇
  refine wpAny_bind (wpAny_letGo (wpAny_pure (wpAny_pure ?_)))
  have k₇ : ∀ c o, c ∉ [z, TO, i1, i2, i3] → s.heap.get? c = some o → h₇.get? c = some o := fun c o hc e => by
    simp at hc
    exact hs₇.extBut _ _ hc.2.1 (hs₆.extBut _ _ hc.2.2.2.2 (k₅ c o (by simp; exact ⟨hc.1, hc.2.1, hc.2.2.1, hc.2.2.2.1⟩) e))
  -- the tuple
  refine wpAny_bind (wpAny_seqItems hTO₇ rfl ?_)
  refine wpAny_bind (wpAny_newTuple ?_)
  have hz₇ : IsZip h₇ z TI TO .ellipsis := hs₇.extBut _ _ D.TOz.symm (hs₆.extBut _ _ D.i3z.symm (hs₅.extBut _ _ D.TOz.symm (hs₄.extBut _ _ D.i2z.symm (hs₃.extBut _ _ D.TOz.symm (hs₂.extBut _ _ D.i1z.symm hz₁)))))
  have h1₇ : S1 (i + 1) h₇ := N1.still (N1.still (N1.still (N1.still (N1.still h1₂ D.Tf1 hs₃.extBut) D.f21 hs₄.extBut) D.Tf1 hs₅.extBut) D.f31 hs₆.extBut) D.Tf1 hs₇.extBut
  have h2₇ : S2 (i + 1) h₇ := N2.still (N2.still (N2.still h2₄ D.Tf2 hs₅.extBut) D.f32 hs₆.extBut) D.Tf2 hs₇.extBut
  have h3₇ : S3 (i + 1) h₇ := N3.still h3₆ D.Tf3 hs₇.extBut
  have hsz : h₇.objs.size = s.heap.objs.size := by rw [hs₇.1, hs₆.1, hs₅.1, hs₄.1, hs₃.1, hs₂.1, hs₁.1]
  have hzlt : z < h₇.objs.size := Heap.lt_size hz₇
  show wpAny _ _ (Builtin.SmallTypes.ownedTupleHandOut (.ref z) (.ref h₇.objs.size) >>= _) _ _ _
  refine wpAny_bind ?_
  unfold Builtin.SmallTypes.ownedTupleHandOut
  have hz₈ : IsZip (h₇.push { cls := .type "tuple", data := .seq #[x, y, u] }) z TI TO .ellipsis := Heap.get?_push_of_some _ hz₇
  refine wpAny_bind (wpAny_setField_rec hz₈ (by simp) fun h₉ hz₉ hs₉ => ?_)
  replace hz₉ : IsZip h₉ z TI TO (rawInt h₇.objs.size) := hz₉
  refine wpAny_setField_rec hz₉ (by simp) fun ha hza hsa => ?_
  replace hza : IsZip ha z TI TO (rawInt h₇.objs.size) := hza
  have up : ∀ c o, c ≠ z → h₇.get? c = some o → ha.get? c = some o := fun c o c1 e => hsa.extBut _ _ c1 (hs₉.extBut _ _ c1 (Heap.get?_push_of_some _ e))
  have hTa : TupAt ha h₇.objs.size #[x, y, u] := hsa.extBut _ _ (Nat.ne_of_gt hzlt) (hs₉.extBut _ _ (Nat.ne_of_gt hzlt) (Heap.get?_push_size _ rfl))
  refine wpAny_pure ⟨_, rfl, ?_⟩
  refine hQ h₇.objs.size ha _ x y u hx hy hu (by rw [hsz]; exact size_none _) hza (up _ _ D.TOz hTO₇) (N1.still h1₇ D.zf1 up) (N2.still h2₇ D.zf2 up) (N3.still h3₇ D.zf3 up) hTa fun c o hc e => ?_
  refine up c o (fun q => hc (by simp [q])) (k₇ c o hc e)

theorem zip3_end {a b c : Value} {Q : Fin → Shared → Prop} (hh : A.handled = none) (D : Apart3 z TI TO i1 i2 i3 f1 f2 f3) (N1 : NextIt prog w i1 f1 n P1 S1)
    (hz : IsZip s.heap z TI TO .none) (hTI : TupAt s.heap TI #[.ref i1, .ref i2, .ref i3]) (hTO : TupAt s.heap TO #[a, b, c]) (h1 : S1 n s.heap)
    (hE : ∀ h' e, (∀ c o, c ∉ [z, TO, i1, i2, i3] → s.heap.get? c = some o → h'.get? c = some o) → (∃ o, h'.get? e = some o ∧ o.cls = .type "StopIteration") → E (.ref e) { s with heap := h' }) :
    wpAny (model prog w) A (Builtin.«zip.__next__» ⟨[.ref z], []⟩) Q E s := by
  show wpAny _ _ (field (.ref z) 2 >>= _) _ _ _
  refine wpAny_bind (wpAny_field hz rfl (x := .bool false) rfl ?_)
  show wpAny _ _ (field (.ref z) 3 >>= _) _ _ _
  refine wpAny_bind (wpAny_field hz rfl (x := .ref TI) rfl ?_)
  refine wpAny_bind (wpAny_seqItems hTI rfl ?_)
  show wpAny _ _ (Builtin.SmallTypes.ownedTupleIsFree (.ref z) >>= _) _ _ _
  refine wpAny_bind ?_
  unfold Builtin.SmallTypes.ownedTupleIsFree
  refine wpAny_bind (wpAny_field hz rfl (x := .none) rfl (wpAny_pure ?_))
  simp only [if_true]
  refine wpAny_bind (wpAny_rule ?_)
  refine wpAny_bind (wpAny_field hz rfl (x := .ref TO) rfl ?_)
  refine wpAny_bind (wpAny_setField_rec hz (by simp) fun h₁ hz₁ hs₁ => ?_)
  replace hz₁ : IsZip h₁ z TI TO .ellipsis := hz₁
  refine wpAny_bind ?_
  simp only [List.zipIdx_cons, List.zipIdx_nil, List.forIn_cons, List.forIn_nil]
  refine wpAny_bind (wpAny_bind (wpAny_onRaise ?_))
  show wpAny _ _ (Builtin.SmallTypes.nextOf (.ref i1) >>= _) _ _ _
  refine wpAny_bind (N1.done A _ _ _ hh (N1.still h1 D.zf1 hs₁.extBut) fun h₂ e hs₂ he => ?_)
  obtain ⟨oe, hoe, hce⟩ := he
  have hz₂ : IsZip h₂ z TI TO .ellipsis := hs₂ _ _ D.i1z.symm hz₁
  have hez : e ≠ z := fun x => by subst x; rw [hz₂] at hoe; cases hoe; simp at hce
  refine wpAny_setField_rec hz₂ (by simp) fun h₃ _ hs₃ => hE h₃ e (fun c o hc x => ?_) ⟨oe, hs₃.extBut _ _ hez hoe, hce⟩
  simp at hc
  exact hs₃.extBut _ _ hc.1 (hs₂ _ _ hc.2.2.1 (hs₁.extBut _ _ hc.1 x))

def Zip3St (z TI TO i1 i2 i3 : Addr) (S1 S2 S3 : Nat → Heap → Prop) (i : Nat) (h : Heap) : Prop :=
  IsZip h z TI TO .none ∧ TupAt h TI #[.ref i1, .ref i2, .ref i3] ∧ (∃ a b c, TupAt h TO #[a, b, c]) ∧ S1 i h ∧ S2 i h ∧ S3 i h
def Zip3P (P1 P2 P3 : Nat → Value → Prop) (i : Nat) (v : Value) (h : Heap) : Prop := ∃ T x y u, v = .ref T ∧ TupAt h T #[x, y, u] ∧ P1 i x ∧ P2 i y ∧ P3 i u
def Zip3Md (z TI TO i1 i2 i3 : Addr) (P1 P2 P3 : Nat → Value → Prop) (S1 S2 S3 : Nat → Heap → Prop) (i : Nat) (v : Value) (h : Heap) : Prop :=
  ∃ T x y u, v = .ref T ∧ TupAt h T #[x, y, u] ∧ T ≠ z ∧ P1 i x ∧ P2 i y ∧ P3 i u ∧ IsZip h z TI TO (rawInt T) ∧ TupAt h TI #[.ref i1, .ref i2, .ref i3] ∧ (∃ a b c, TupAt h TO #[a, b, c]) ∧ S1 (i + 1) h ∧ S2 (i + 1) h ∧ S3 (i + 1) h

theorem zip3_turns {elts : List Expr} {k : Nat} {pos : Pos} (hh : A.handled = none) (D : Apart3 z TI TO i1 i2 i3 f1 f2 f3)
    (N1 : NextIt prog w i1 f1 n P1 S1) (N2 : NextIt prog w i2 f2 n P2 S2) (N3 : NextIt prog w i3 f3 n P3 S3) :
    KTurns prog w A (.Tuple elts k pos) z (z :: TI :: TO :: (f1 ++ f2 ++ f3)) [z, TO, i1, i2, i3] n (Zip3P P1 P2 P3) (Zip3Md z TI TO i1 i2 i3 P1 P2 P3 S1 S2 S3) (Zip3St z TI TO i1 i2 i3 S1 S2 S3) where
  sub := fun b hb => by
    have m1 := N1.mem; have m2 := N2.mem; have m3 := N3.mem
    simp at hb ⊢
    rcases hb with rfl | rfl | rfl | rfl | rfl <;> simp [*]
  frame := fun i h h' st hk => by
    obtain ⟨hz, hTI, ⟨a, b, c, hTO⟩, h1, h2, h3⟩ := st
    exact ⟨hk z (by simp) _ hz, hk TI (by simp) _ hTI, ⟨a, b, c, hk TO (by simp) _ hTO⟩, N1.frame _ _ _ h1 fun b hb o e => hk b (by simp [hb]) o e, N2.frame _ _ _ h2 fun b hb o e => hk b (by simp [hb]) o e,
      N3.frame _ _ _ h3 fun b hb o e => hk b (by simp [hb]) o e⟩
  item := fun i s Q E hi st hQ => by
    obtain ⟨hz, hTI, ⟨a, b, c, hTO⟩, h1, h2, h3⟩ := st
    have hT : s.TypeIs (.ref z) "zip" := ⟨_, hz, rfl⟩
    unfold pyNext
    refine wpAny_bind (wpAny_attempt (wpAny_callSpecial?_slot (name := Str.ofString "__next__") hT F.slot_zip_next
      (wpAny_call_entry F.slot_zip_next hT F.entry_zip_next
        (zip3_item (i := i) hh D N1 N2 N3 hz hTI hTO h1 h2 h3 hi fun T h' tk x y u hx hy hu hTn hz' hTO' h1' h2' h3' hT' hk => wpAny_pure ?_) (F.args_zip_next_1 _))))
    have hTz : T ≠ z := by
      rintro rfl
      have hz2 : s.heap.get? T = some _ := hz
      rw [hTn] at hz2; cases hz2
    refine hQ (.ref T) h' tk ⟨T, x, y, u, rfl, hT', hTz, hx, hy, hu, hz', hk _ _ ?_ hTI, ⟨_, _, _, hTO'⟩, h1', h2', h3'⟩ hk
    simp [D.TIz, D.TITO, D.TIi1, D.TIi2, D.TIi3]
  go := fun i v s Q E hm hQ => by
    obtain ⟨T, x, y, u, rfl, hT', hTz, hx, hy, hu, hz', hTI', ⟨a, b, c, hTO'⟩, h1', h2', h3'⟩ := hm
    refine wpAny_letOwnedTupleGo_zip hz' fun h' hz'' hs' => hQ h' ⟨T, x, y, u, rfl, hs'.extBut _ _ hTz hT', hx, hy, hu⟩
      ⟨hz'', hs'.extBut _ _ D.TIz hTI', ⟨a, b, c, hs'.extBut _ _ D.TOz hTO'⟩, N1.still h1' D.zf1 hs'.extBut, N2.still h2' D.zf2 hs'.extBut, N3.still h3' D.zf3 hs'.extBut⟩ fun c o hc e => hs'.extBut _ _ (fun q => hc (by simp [q])) e
  done := fun s Q E st hQ => by
    obtain ⟨hz, hTI, ⟨a, b, c, hTO⟩, h1, h2, h3⟩ := st
    have hT : s.TypeIs (.ref z) "zip" := ⟨_, hz, rfl⟩
    unfold pyNext
    refine wpAny_bind (wpAny_attempt (wpAny_callSpecial?_slot (name := Str.ofString "__next__") hT F.slot_zip_next
      (wpAny_call_entry F.slot_zip_next hT F.entry_zip_next (zip3_end hh D N1 hz hTI hTO h1 fun h' e hk he => ?_) (F.args_zip_next_1 _))))
    obtain ⟨o, ho, hc⟩ := he
    refine wpAny_bind (wpAny_isInstance (T := "StopIteration") (b := true) ⟨o, ho, hc⟩ isSubtype_stop ?_)
    exact wpAny_pure (hQ _ _ hk)

abbrev zpH3 (h : Heap) (o1 o2 o3 : Obj) : Heap := ((h.push o1).push o2).push o3
abbrev zpH4 (h : Heap) (o1 o2 o3 : Obj) : Heap := (zpH3 h o1 o2 o3).push { cls := .type "tuple", data := .seq #[.ref h.objs.size, .ref (h.push o1).objs.size, .ref ((h.push o1).push o2).objs.size] }
abbrev zpH5 (h : Heap) (o1 o2 o3 : Obj) : Heap := (zpH4 h o1 o2 o3).push { cls := .type "tuple", data := .seq #[.none, .none, .none] }
abbrev zpH6 (h : Heap) (o1 o2 o3 : Obj) : Heap := (zpH5 h o1 o2 o3).push { cls := .type "zip", data := .fields #[.none, .bool false, .bool false, .ref (zpH3 h o1 o2 o3).objs.size, .ref (zpH4 h o1 o2 o3).objs.size] }
theorem meets_zip3 {v1 v2 v3 : Value} {o1 o2 o3 : Obj} {n1 n2 n3 : Nat} {P1 P2 P3 : Nat → Value → Prop} {G1 G2 G3 : Heap → Prop} {x1 x2 x3 : List Addr} {S1 S2 S3 : Addr → Nat → Heap → Prop}
    (Z1 : ZipArg prog w v1 o1 n1 P1 G1 x1 S1) (Z2 : ZipArg prog w v2 o2 n2 P2 G2 x2 S2) (Z3 : ZipArg prog w v3 o3 n3 P3 G3 x3 S3) :
    MeetsIn prog w (Builtin.«zip.__new__» ⟨[.type "zip", v1, v2, v3], []⟩) (fun _ R s => G1 s.heap ∧ G2 s.heap ∧ G3 s.heap ∧
      R (.ok (.ret (.ref (zpH5 s.heap o1 o2 o3).objs.size))) { s with heap := zpH6 s.heap o1 o2 o3 }) :=
  .of_wp fun A R s h => by
    obtain ⟨hp, g, d, tk, os⟩ := s
    obtain ⟨g1, g2, g3, h⟩ := h
    have hsub := sub_zip
    have g2' := Z2.mono _ (hp.push o1) g2 fun _ _ e => Heap.get?_push_of_some _ e
    have g3' := Z3.mono _ ((hp.push o1).push o2) g3 fun _ _ e => Heap.get?_push_of_some _ (Heap.get?_push_of_some _ e)
    have p1 := fun Q E q => Z1.iter A.in1 ⟨hp, g, d, tk, os⟩ Q E g1 q
    have p2 := fun Q E q => Z2.iter A.in1 ⟨hp.push o1, g, d, tk, os⟩ Q E g2' q
    have p3 := fun Q E q => Z3.iter A.in1 ⟨(hp.push o1).push o2, g, d, tk, os⟩ Q E g3' q
    wp_walk using (p1 _ _), (p2 _ _), (p3 _ _)
    exact ⟨_, rfl, h⟩

theorem typeCall_zip_3 (a b c : Value) : checkTypeCall "zip" ⟨[a, b, c], []⟩ = pure () := by kernel_rfl
theorem newCall_zip_3 (a b c : Value) : checkBuiltinCall "zip.__new__" ⟨[.type "zip", a, b, c], []⟩ = pure () := by kernel_rfl
theorem args_object_init_4 (a b c d : Value) : argsOk "object.__init__" ⟨[a, b, c, d], []⟩ := by
  unfold argsOk; rw [signature?_of (id := "object.__init__") (n := ['_', '_', 't', 'i', 'n', 'i', '_', '_']) (o := ['t', 'c', 'e', 'j', 'b', 'o']) (by kernel_rfl) F.owner_object]; kernel_rfl

theorem call_zip3 {v1 v2 v3 : Value} {o1 o2 o3 : Obj} {n1 n2 n3 : Nat} {P1 P2 P3 : Nat → Value → Prop} {G1 G2 G3 : Heap → Prop} {x1 x2 x3 : List Addr} {S1 S2 S3 : Addr → Nat → Heap → Prop}
    (Z1 : ZipArg prog w v1 o1 n1 P1 G1 x1 S1) (Z2 : ZipArg prog w v2 o2 n2 P2 G2 x2 S2) (Z3 : ZipArg prog w v3 o3 n3 P3 G3 x3 S3) (g1 : G1 s.heap) (g2 : G2 s.heap) (g3 : G3 s.heap) {Q : Value → Shared → Prop}
    (h : ∀ h' z TI TO i1 i2 i3, IsZip h' z TI TO .none → TupAt h' TI #[.ref i1, .ref i2, .ref i3] → TupAt h' TO #[.none, .none, .none] → h'.get? i1 = some o1 → h'.get? i2 = some o2 → h'.get? i3 = some o3 →
      s.heap.objs.size = i1 → i2 = i1 + 1 → i3 = i1 + 2 → TI = i1 + 3 → TO = i1 + 4 → z = i1 + 5 → (∀ c o, s.heap.get? c = some o → h'.get? c = some o) → Q (.ref z) { s with heap := h' }) :
    wpAny (model prog w) A (call (.type "zip") [v1, v2, v3]) Q E s := by
  refine callType_newIn F.called_zip (by decide) (typeCall_zip_3 _ _ _) (newCall_zip_3 _ _ _) (fun obj => args_object_init_4 obj _ _ _) F.entry_zip_new
    (meets_zip3 Z1 Z2 Z3) ⟨g1, g2, g3, ?_⟩
  have z1 : (s.heap.push o1).objs.size = s.heap.objs.size + 1 := Heap.size_push ..
  have z2 : ((s.heap.push o1).push o2).objs.size = s.heap.objs.size + 2 := by rw [Heap.size_push, z1]
  have z3 : (zpH3 s.heap o1 o2 o3).objs.size = s.heap.objs.size + 3 := by rw [Heap.size_push, z2]
  have z4 : (zpH4 s.heap o1 o2 o3).objs.size = s.heap.objs.size + 4 := by rw [Heap.size_push, z3]
  have z5 : (zpH5 s.heap o1 o2 o3).objs.size = s.heap.objs.size + 5 := by rw [Heap.size_push, z4]
  have e6 : (zpH6 s.heap o1 o2 o3).get? (zpH5 s.heap o1 o2 o3).objs.size = some _ := Heap.get?_push_size _ rfl
  have e5 : (zpH6 s.heap o1 o2 o3).get? (zpH4 s.heap o1 o2 o3).objs.size = some _ := Heap.get?_push_of_some _ (Heap.get?_push_size _ rfl)
  have e4 : (zpH6 s.heap o1 o2 o3).get? (zpH3 s.heap o1 o2 o3).objs.size = some _ := Heap.get?_push_of_some _ (Heap.get?_push_of_some _ (Heap.get?_push_size _ rfl))
  have e3 : (zpH6 s.heap o1 o2 o3).get? ((s.heap.push o1).push o2).objs.size = some _ := Heap.get?_push_of_some _ (Heap.get?_push_of_some _ (Heap.get?_push_of_some _ (Heap.get?_push_size _ Z3.free)))
  have e2 : (zpH6 s.heap o1 o2 o3).get? (s.heap.push o1).objs.size = some _ := Heap.get?_push_of_some _ (Heap.get?_push_of_some _ (Heap.get?_push_of_some _ (Heap.get?_push_of_some _ (Heap.get?_push_size _ Z2.free))))
  have e1 : (zpH6 s.heap o1 o2 o3).get? s.heap.objs.size = some _ := Heap.get?_push_of_some _ (Heap.get?_push_of_some _ (Heap.get?_push_of_some _ (Heap.get?_push_of_some _ (Heap.get?_push_of_some _ (Heap.get?_push_size _ Z1.free)))))
  show _ ∧ _
  refine ⟨⟨_, e6, rfl⟩, h _ _ _ _ _ _ _ e6 e4 e5 e1 e2 e3 rfl z1 z2 z3 z4 z5 fun c o x => ?_⟩
  exact Heap.get?_push_of_some _ (Heap.get?_push_of_some _ (Heap.get?_push_of_some _ (Heap.get?_push_of_some _ (Heap.get?_push_of_some _ (Heap.get?_push_of_some _ x)))))
end
end Mine
end
section
open PySem PySem.W PySem.Calls PyProof.Rows
set_option linter.unusedSimpArgs false
set_option linter.unusedVariables false
set_option maxRecDepth 100000
namespace Mine
section
variable {prog : Program} {w : World} {A : Around} {E : Value → Shared → Prop} {s : Shared} {env : Env}

theorem tup_assign3 {a b c : Str} {pa pb pc tp : Pos} {kk : Nat} {T : Addr} {x y u : Value} {m : Str → Option Value} {Q : Unit → Shared → Prop} (hh : A.handled = none) (ht : TupAt s.heap T #[x, y, u])
    (ha : env.kindOf a = some .local) (hb : env.kindOf b = some .local) (hc : env.kindOf c = some .local) (hp : (env.scope.kind == .class || (env.scope.kind == .module && env.locals != env.globals)) = false) (hn : s.heap.Ns env.locals m)
    (h : ∀ (h' : Heap) (tk : Nat), h'.Ns env.locals (fun z => if z = c then some u else if z = b then some y else if z = a then some x else m z) → (∀ c o, c ≠ env.locals → s.heap.get? c = some o → h'.get? c = some o) → Q () { s with heap := h', toks := tk }) :
    wpAny (model prog w) A (assign (.Tuple [.Name a pa, .Name b pb, .Name c pc] kk tp) env (.ref T)) Q E s := by
  refine wpAny_assign_Tuple hh ⟨_, ht, rfl, 0, rfl⟩ rfl rfl fun h₁ he₁ => ?_
  have hL : env.locals ≠ s.heap.objs.size := Nat.ne_of_lt hn.lt
  have hn₁ : h₁.Ns env.locals m := hn.at' fun o e => he₁ _ o hL e
  have up₁ : ∀ c o, s.heap.get? c = some o → h₁.get? c = some o := fun c o e => he₁ c o (Nat.ne_of_lt (Heap.lt_size e)) e
  show wpAny _ _ (assignInOrder [assign (.Name a pa) env, assign (.Name b pb) env, assign (.Name c pc) env] [x, y, u]) _ _ _
  refine assignInOrder_cons ?_
  refine wpAny_assign_Name (wpAny_storeName_local ha hn₁ (fun h₂ hn₂ hs₂ => ?_) hp)
  refine assignInOrder_cons ?_
  refine wpAny_assign_Name (wpAny_storeName_local hb hn₂ (fun h₃ hn₃ hs₃ => ?_) hp)
  refine assignInOrder_cons ?_
  refine wpAny_assign_Name (wpAny_storeName_local hc hn₃ (fun h₄ hn₄ hs₄ => ?_) hp)
  refine assignInOrder_nil ?_
  exact h h₄ _ hn₄ fun c o hc e => hs₄.extBut c o hc (hs₃.extBut c o hc (hs₂.extBut c o hc (up₁ c o e)))

theorem turn_tup3 {a b c : Str} {pa pb pc tp : Pos} {kk : Nat} {scope : Scope} {cl : List (Str × Addr)} {elt : Expr} {n : Nat} {P1 P2 P3 : Nat → Value → Prop} {R : List Addr → Nat → Value → Heap → Prop} {s₁ : Shared}
    (hh : A.handled = none) (ha : scope.names.lookup a = some .local) (hb : scope.names.lookup b = some .local) (hc : scope.names.lookup c = some .local) (hkind : scope.kind = .function) (hab : a ≠ b ∧ a ≠ c ∧ b ≠ c)
    (el : ∀ i x y u C bad s₄ m₄ (E' : Value → Shared → Prop), i < n → P1 i x → P2 i y → P3 i u → s₄.heap.Ns C m₄ → m₄ a = some x → m₄ b = some y → m₄ c = some u → s₁.heap.get? C = none →
      (∀ b o, s₁.heap.get? b = some o → s₄.heap.get? b = some o) → (∀ b ∈ bad, ∃ o, s₄.heap.get? b = some o) → C ∈ bad → (∃ h tk, s₄ = { s₁ with heap := h, toks := tk }) →
      wpAny (model prog w) A (eval elt (compEnvC scope cl C env)) (fun y s₆ => Keeps s₄ s₆ ∧ R bad i y s₆.heap) E' s₄) :
    Turn1 prog w A env scope cl (.Tuple [.Name a pa, .Name b pb, .Name c pc] kk tp) [] elt n (Zip3P P1 P2 P3) (fun _ => true) R s₁ := by
  rintro i v C bad s₃ m₃ E' hi ⟨T, x, y, u, rfl, hT, hx, hy, hu⟩ hn hC hk hbad hCb ⟨h₃, tk₃, rfl⟩
  refine tup_assign3 (env := compEnvC scope cl C env) hh hT (lookup_relabel_local ha) (lookup_relabel_local hb) (lookup_relabel_local hc) (by simp [compEnvC, relabel, hkind]) hn fun h₄ tk₄ hn₄ hs₄ => ?_
  refine ⟨h₄, _, _, rfl, hn₄, hs₄, wpAny_tests_nil ⟨rfl, ⟨_, _, rfl, fun _ _ e => e⟩, fun _ => ?_⟩⟩
  refine el i x y u C bad _ _ E' hi hx hy hu hn₄ (by simp [hab]) (by simp [hab]) (by simp) hC (fun b o e => hs₄ b o (by rintro rfl; rw [hC] at e; cases e) (hk b o e)) (fun b hb => ?_) hCb ⟨h₄, _, rfl⟩
  by_cases hbC : b = C
  · subst hbC; obtain ⟨o, _, _, e, _⟩ := hn₄; exact ⟨o, e⟩
  · obtain ⟨o, e⟩ := hbad b hb; exact ⟨o, hs₄ b o hbC e⟩

theorem apart3_of {L : Nat} {x1 x2 x3 : List Addr} (h1 : ∀ b ∈ x1, b < L) (h2 : ∀ b ∈ x2, b < L) (h3 : ∀ b ∈ x3, b < L) :
    Apart3 (L + 5) (L + 3) (L + 4) L (L + 1) (L + 2) (L :: x1) ((L + 1) :: x2) ((L + 2) :: x3) := by
  have k : ∀ {xs : List Addr} (j i : Nat), (∀ b ∈ xs, b < L) → j ≠ i → L + j ∉ ((L + i) :: xs) := fun j i h ne hm => by
    rcases List.mem_cons.mp hm with e | hm
    · have : L + j = L + i := e
      omega
    · have : L + j < L := h _ hm
      omega
  have ne : ∀ i j : Nat, i ≠ j → (L + i : Nat) ≠ L + j := fun i j h => by omega
  exact ⟨ne 3 5 (by decide), ne 4 5 (by decide), ne 3 4 (by decide), ne 0 5 (by decide), ne 1 5 (by decide), ne 2 5 (by decide), ne 3 0 (by decide), ne 3 1 (by decide), ne 3 2 (by decide),
    ne 4 0 (by decide), ne 4 1 (by decide), ne 4 2 (by decide), ne 0 1 (by decide), ne 0 2 (by decide), ne 1 2 (by decide), k 5 0 h1 (by decide), k 5 1 h2 (by decide), k 5 2 h3 (by decide),
    k 4 0 h1 (by decide), k 4 1 h2 (by decide), k 4 2 h3 (by decide), k 0 1 h2 (by decide), k 0 2 h3 (by decide), k 1 0 h1 (by decide), k 1 2 h3 (by decide), k 2 0 h1 (by decide), k 2 1 h2 (by decide)⟩

theorem no_lt {L b : Nat} (j : Nat) (e : b = L + j) (h : b < L) : False := by omega
theorem up_lt {L c n : Nat} (h1 : L + 5 < n) (h2 : c < L) : c < n := by omega
theorem it_zip3 {s₀ s₁ : Shared} {elts : List Expr} {kk : Nat} {pos : Pos} {v1 v2 v3 : Value} {o1 o2 o3 : Obj} {n : Nat} {P1 P2 P3 : Nat → Value → Prop} {G1 G2 G3 : Heap → Prop} {x1 x2 x3 : List Addr} {S1 S2 S3 : Addr → Nat → Heap → Prop} {z TI TO i1 i2 i3 : Addr}
    (hh : A.handled = none) (Z1 : ZipArg prog w v1 o1 n P1 G1 x1 S1) (Z2 : ZipArg prog w v2 o2 n P2 G2 x2 S2) (Z3 : ZipArg prog w v3 o3 n P3 G3 x3 S3) (g1 : G1 s₀.heap) (g2 : G2 s₀.heap) (g3 : G3 s₀.heap)
    (hz : IsZip s₁.heap z TI TO .none) (hTI : TupAt s₁.heap TI #[.ref i1, .ref i2, .ref i3]) (hTO : TupAt s₁.heap TO #[.none, .none, .none]) (e1 : s₁.heap.get? i1 = some o1) (e2 : s₁.heap.get? i2 = some o2) (e3 : s₁.heap.get? i3 = some o3)
    (q1 : s₀.heap.objs.size = i1) (q2 : i2 = i1 + 1) (q3 : i3 = i1 + 2) (q4 : TI = i1 + 3) (q5 : TO = i1 + 4) (q6 : z = i1 + 5) (k : Keeps s₀ s₁) :
    wpAny (model prog w) A (pyIter (.ref z)) (ItG prog w A (.Tuple elts kk pos) n (Zip3P P1 P2 P3) s₀) E s₁ := by
  obtain ⟨h₁, tk₁, rfl, hk⟩ := k
  subst q1 q2 q3 q4 q5 q6
  have l1 : ∀ b ∈ x1, b < s₀.heap.objs.size := fun b hb => by obtain ⟨o, e⟩ := Z1.there _ g1 b hb; exact Heap.lt_size e
  have l2 : ∀ b ∈ x2, b < s₀.heap.objs.size := fun b hb => by obtain ⟨o, e⟩ := Z2.there _ g2 b hb; exact Heap.lt_size e
  have l3 : ∀ b ∈ x3, b < s₀.heap.objs.size := fun b hb => by obtain ⟨o, e⟩ := Z3.there _ g3 b hb; exact Heap.lt_size e
  have nm : ∀ {xs : List Addr} (j : Nat), (∀ b ∈ xs, b < s₀.heap.objs.size) → s₀.heap.objs.size + j ∉ xs := fun j h hm => by
    have : s₀.heap.objs.size + j < s₀.heap.objs.size := h _ hm
    omega
  have D := apart3_of l1 l2 l3
  have N1 := Z1.next s₀.heap.objs.size (nm 0 l1)
  have N2 := Z2.next (s₀.heap.objs.size + 1) (nm 1 l2)
  have N3 := Z3.next (s₀.heap.objs.size + 2) (nm 2 l3)
  have st : Zip3St (s₀.heap.objs.size + 5) (s₀.heap.objs.size + 3) (s₀.heap.objs.size + 4) s₀.heap.objs.size (s₀.heap.objs.size + 1) (s₀.heap.objs.size + 2) (S1 s₀.heap.objs.size) (S2 (s₀.heap.objs.size + 1)) (S3 (s₀.heap.objs.size + 2)) 0 h₁ :=
    ⟨hz, hTI, ⟨_, _, _, hTO⟩, Z1.start _ _ (Z1.mono _ _ g1 hk) e1, Z2.start _ _ (Z2.mono _ _ g2 hk) e2, Z3.start _ _ (Z3.mono _ _ g3 hk) e3⟩
  refine wpAny_pyIter_zip hz ?_
  refine ⟨_, _, _, _, _, rfl, zip3_turns (elts := elts) (k := kk) (pos := pos) hh D N1 N2 N3, fun s Q E st' hQ => wpAny_pyIter_zip st'.1 hQ, ?_, ?_, st, ?_, ⟨h₁, _, rfl, hk⟩⟩
  · rintro i h ⟨hz', _, ⟨_, _, _, hTO'⟩, h1, h2, h3⟩ b hb
    simp only [List.mem_cons, List.not_mem_nil, or_false] at hb
    rcases hb with rfl | rfl | rfl | rfl | rfl
    · exact ⟨_, hz'⟩
    · exact ⟨_, hTO'⟩
    · exact N1.obj _ _ h1 _ N1.mem
    · exact N2.obj _ _ h2 _ N2.mem
    · exact N3.obj _ _ h3 _ N3.mem
  · intro b hb
    cases e : s₀.heap.get? b with
    | none => rfl
    | some o =>
      have := Heap.lt_size e
      simp only [List.mem_cons, List.not_mem_nil, or_false] at hb
      have e' : b = s₀.heap.objs.size + 5 ∨ b = s₀.heap.objs.size + 4 ∨ b = s₀.heap.objs.size ∨ b = s₀.heap.objs.size + 1 ∨ b = s₀.heap.objs.size + 2 := hb
      exfalso
      have hlt : (b : Nat) < s₀.heap.objs.size := this
      rcases e' with e' | e' | e' | e' | e'
      · exact no_lt 5 e' hlt
      · exact no_lt 4 e' hlt
      · exact no_lt 0 e' hlt
      · exact no_lt 1 e' hlt
      · exact no_lt 2 e' hlt
  · intro b hb
    simp only [List.mem_cons, List.mem_append] at hb
    have hz' := Heap.lt_size hz
    have up : ∀ c : Addr, c < s₀.heap.objs.size → c < h₁.objs.size := fun c hc => up_lt hz' hc
    rcases hb with rfl | rfl | rfl | ((rfl | hb) | (rfl | hb)) | (rfl | hb)
    · exact hz'
    · exact Heap.lt_size hTI
    · exact Heap.lt_size hTO
    · exact Heap.lt_size e1
    · exact up _ (l1 _ hb)
    · exact Heap.lt_size e2
    · exact up _ (l2 _ hb)
    · exact Heap.lt_size e3
    · exact up _ (l3 _ hb)

/-- a thing of whole numbers that a zip may be made of -/
def ZInts (prog : Program) (w : World) (h : Heap) (v : Value) (ns : List Nat) : Prop :=
  ∃ o P G x S, ZipArg prog w v o ns.length P G x S ∧ G h ∧ ∀ i v, P i v → ∃ t, v = .int (ns.getD i 0 : Nat) t

theorem ZInts.keeps {h h' : Heap} {v : Value} {ns : List Nat} (z : ZInts prog w h v ns) (k : ∀ b o, h.get? b = some o → h'.get? b = some o) : ZInts prog w h' v ns := by
  obtain ⟨o, P, G, x, S, Z, g, hP⟩ := z
  exact ⟨o, P, G, x, S, Z, Z.mono _ _ g k, hP⟩

theorem zInts_list {h : Heap} {l : Addr} {vs : List Value} {ns : List Nat} (hl : h.IsList l vs.toArray) (hi : IntsAre vs (casts ns)) : ZInts prog w h (.ref l) ns := by
  have hlen : vs.toArray.size = ns.length := by have := hi.length; simpa using this
  refine ⟨_, _, _, _, _, hlen ▸ zipArg_list, hl, fun i v e => ?_⟩
  obtain ⟨n, t, e1, rfl⟩ := ints_at hi e
  exact ⟨t, by simp [List.getD, e1]⟩

theorem zInts_bytes {h : Heap} {b : Array UInt8} {t : Tok} {ns : List Nat} (hb : KBw.bInts b = casts ns) : ZInts prog w h (.bytes b t) ns := by
  have hlen : b.size = ns.length := by have := congrArg List.length hb; simpa [KBw.bInts] using this
  refine ⟨_, _, _, _, _, hlen ▸ zipArg_bytes, trivial, ?_⟩
  rintro i v ⟨c, u, e, rfl⟩
  have h2 : (KBw.bInts b)[i]? = some (c.toNat : Int) := by simp [KBw.bInts, e]
  rw [hb] at h2
  simp [casts] at h2
  obtain ⟨m, e1, e2⟩ := h2
  refine ⟨u, ?_⟩
  simp [List.getD, e1, e2]
end
end Mine
end
section
open PySem PySem.W PySem.Calls PyProof.Rows
set_option linter.unusedSimpArgs false
set_option linter.unusedVariables false
namespace Mine
local macro_rules | `(tactic| walk_at "binaryOp LShift int int") => `(tactic| (refine lshift_int_small (by decide) (by decide) (by assumption) ?_))
local macro_rules | `(tactic| walk_at "eval Name") => `(tactic| (k_here; (with_reducible show wpAny _ _ (eval _ (compEnvC _ _ _ _)) _ _ _); k_dflt (first
  | (refine' kcf_cell ?N ?c ?m ?d ?_ ?a ?b ?e; (case a => rfl); (case b => rfl); (case e => decide); (case N => k_asm); (case c => rfl); (case m => k_mem); (case d => k_asm); k_whole)
  | (refine' nmL ?n ?v ?_ ?a ?b ?c; (case a => rfl); (case b => rfl); (case c => decide); (case n => assumption); (case v => assumption); k_whole)
  | (refine' nmB ?F ?X ?T ?e ?v ?n ?_ ?a ?b ?c ?d ?g; (case a => rfl); (case b => rfl); (case c => rfl); (case d => rfl); (case g => decide); (case F => k_asm); (case X => k_asm); (case T => k_asm); (case e => k_is); (case v => boot_fast); (case n => decide); k_whole)
  | (refine' nameG_K ?F ?X ?T ?e ?_ ?a ?b ?c ?d; (case a => rfl); (case b => rfl); (case c => rfl); (case d => decide); (case F => k_asm); (case X => k_asm); (case T => k_asm); (case e => k_is); k_whole))))
local macro_rules | `(tactic| ktr_unf) => `(tactic| (repeat' (first
   | (k_unmd; k_unfold; (try dsimp only))
   | ((fail_if_success (with_reducible show Exists _)); (fail_if_success (with_reducible show Keeps _ _ ∧ _)); (fail_if_success (with_reducible show InvEndN _ _ _ _ _ _ _)); (fail_if_success (with_reducible show KswEnd _ _ _ _ _ _ _ _ _ _ _ _)); (fail_if_success (with_reducible show wpAny _ _ (exec (Stmt.For _ _ _ _ _) _) _ _ _)); (fail_if_success (with_reducible show wpAny _ _ (pyIter _) _ _ _)); (fail_if_success (with_reducible show wpAny _ _ (PySem.call (Value.ref _) _) _ _ _)); (fail_if_success (with_reducible show wpAny _ _ (PySem.call (Value.type "zip") _) _ _ _)); (fail_if_success (with_reducible show wpAny _ _ (exec (Stmt.While _ _ _ _) _) _ _ _)); (fail_if_success (with_reducible show wpAny _ _ (eval (Expr.ListComp _ _ _ _) _) _ _ _)); walk1))))

def xor3 (a b c : List Nat) : List Nat := (List.range a.length).map fun i => a.getD i 0 ^^^ b.getD i 0 ^^^ c.getD i 0

set_option maxRecDepth 100000 in
set_option maxHeartbeats 8000000 in
theorem joined_call {w : World} {mg mb : Str → Option Value} {s : Shared} {l : Addr} {vs : List Value} {v1 v2 v3 : Value} {n1 n2 n3 : List Nat} {Q E : Value → Shared → Prop}
    (W : Wd w mg mb s.heap) (hl : s.heap.IsList l vs.toArray) (e1 : vs[0]? = some v1) (e2 : vs[1]? = some v2) (e3 : vs[2]? = some v3)
    (z1 : ZInts PySem.Challenge.rw_vn0023_01.row.prog w s.heap v1 n1) (z2 : ZInts PySem.Challenge.rw_vn0023_01.row.prog w s.heap v2 n2) (z3 : ZInts PySem.Challenge.rw_vn0023_01.row.prog w s.heap v3 n3)
    (hlen : n1.length ≤ 100) (h12 : n2.length = n1.length) (h13 : n3.length = n1.length)
    (h : ∀ r us h' tk, (∀ b o, s.heap.get? b = some o → h'.get? b = some o) → s.heap.get? r = none → LstAt h' r us → IntsAre us (casts (xor3 n1 n2 n3)) → Q (.ref r) { s with heap := h', toks := tk }) :
    wpAny (model PySem.Challenge.rw_vn0023_01.row.prog w) (Aat 690 3000) (call (.ref 166) [.ref l]) Q E s := by
  have X := W.K
  have T := W.T
  refine' enter (binds := [(Str.ofString "rows", Value.ref l)]) X T.nolimit ?k1 ?k2 ?k3 ?k4 ?k5 ?k6 ?k7 ?k8 ?k9 ?_
  case k1 => k_is
  case k2 => k_is
  case k3 => decide
  case k4 => exact BindsTo.of_eq rfl
  case k5 => exact locs rfl
  case k6 => rfl
  case k7 => rfl
  case k8 => rfl
  case k9 => decide
  intro h₁ F N
  k_unmd; k_fold
  ktr_unf
  refine comp_eval0 (fun _ => true) (fun _ j y _ => ∃ t, y = .int ((n1.getD j 0 ^^^ n2.getD j 0 ^^^ n3.getD j 0 : Nat) : Int) t) (fun _ _ _ _ _ h _ => h) rfl (by decide) rfl (by decide) ?_
  ktr_unf
  have hl' : h₁.IsList l vs.toArray := isList_keeps hl F.keep
  refine item_listR hl' (by decide) (by decide) (x := v1) (by simpa using e1) ?_
  ktr_unf
  refine item_listR hl' (by decide) (by decide) (x := v2) (by simpa using e2) ?_
  ktr_unf
  refine item_listR hl' (by decide) (by decide) (x := v3) (by simpa using e3) ?_
  ktr_unf
  obtain ⟨o1, P1, G1, x1, S1, Z1, g1, p1⟩ := z1.keeps F.keep
  obtain ⟨o2, P2, G2, x2, S2, Z2, g2, p2⟩ := z2.keeps F.keep
  obtain ⟨o3, P3, G3, x3, S3, Z3, g3, p3⟩ := z3.keeps F.keep
  rw [h12] at Z2
  rw [h13] at Z3
  refine call_zip3 Z1 Z2 Z3 g1 g2 g3 fun h' z TI TO i1 i2 i3 hz hTI hTO q1 q2 q3 a1 a2 a3 a4 a5 a6 hk' => ?_
  ktr_unf
  refine ⟨{ s with heap := h₁, toks := tk + 1 + 1 + 1 }, n1.length, _, by rw [sizeLine_eq]; omega, it_zip3 rfl Z1 Z2 Z3 g1 g2 g3 hz hTI hTO q1 q2 q3 a1 a2 a3 a4 a5 a6 ⟨h', _, rfl, hk'⟩, turn_tup3 rfl (by decide) (by decide) (by decide) rfl (by decide) ?_, ?_⟩
  · rintro i xv yv uv C bad s₄ m₄ E' hi hx hy hu hn hxm hym hum hC hk hbad hCb ⟨h4, tk4, rfl⟩
    obtain ⟨tx, rfl⟩ := p1 _ _ hx
    obtain ⟨ty, rfl⟩ := p2 _ _ hy
    obtain ⟨tu, rfl⟩ := p3 _ _ hu
    dsimp only at hn hk
    have F4 : Fr s.heap s.heap.objs.size h4 _ := F.keeps hk
    have N4 : News s.heap s.heap.objs.size h4 _ := N.grown hk
    k_unmd; k_fold
    ktr_unf
    refine ⟨⟨_, _, rfl, fun _ _ e => e⟩, ?_⟩
    rw [xor_cast, xor_cast]
    exact ⟨_, rfl⟩
  · intro D8 bad h8 tk8 ys8 hD hl8 hP hk8
    dsimp only at hD hk8
    rw [filter_true] at hP
    have I8 := ints_of_paired hP
    k_unmd; k_unfold
    dsimp only
    refine h _ _ _ _ (fun b o e => hk8 b o (F.keep b o e)) (none_of_keeps F.keep hD) ⟨_, hl8⟩ ?_
    simpa [xor3, casts, List.map_map, Function.comp_def] using I8
end Mine
end
section
open PySem PySem.W PySem.Calls PyProof.Rows
set_option linter.unusedSimpArgs false
set_option linter.unusedVariables false
set_option maxRecDepth 100000
namespace Mine
section
variable {prog : Program} {w : World} {A : Around} {E : Value → Shared → Prop} {s : Shared}

structure Apart2 (z TI TO i1 i2 : Addr) (f1 f2 : List Addr) : Prop where
  TIz : TI ≠ z
  TOz : TO ≠ z
  TITO : TI ≠ TO
  i1z : i1 ≠ z
  i2z : i2 ≠ z
  TIi1 : TI ≠ i1
  TIi2 : TI ≠ i2
  TOi1 : TO ≠ i1
  TOi2 : TO ≠ i2
  i12 : i1 ≠ i2
  zf1 : z ∉ f1
  zf2 : z ∉ f2
  Tf1 : TO ∉ f1
  Tf2 : TO ∉ f2
  f12 : i1 ∉ f2
  f21 : i2 ∉ f1

variable {z TI TO i1 i2 : Addr} {f1 f2 : List Addr} {n : Nat} {P1 P2 : Nat → Value → Prop} {S1 S2 : Nat → Heap → Prop}

theorem zip2_item {i : Nat} {a b : Value} {Q : Value → Shared → Prop} (hh : A.handled = none) (D : Apart2 z TI TO i1 i2 f1 f2)
    (N1 : NextIt prog w i1 f1 n P1 S1) (N2 : NextIt prog w i2 f2 n P2 S2)
    (hz : IsZip s.heap z TI TO .none) (hTI : TupAt s.heap TI #[.ref i1, .ref i2]) (hTO : TupAt s.heap TO #[a, b])
    (h1 : S1 i s.heap) (h2 : S2 i s.heap) (hi : i < n)
    (hQ : ∀ T h' tk x y, P1 i x → P2 i y → s.heap.get? T = none → IsZip h' z TI TO (rawInt T) → TupAt h' TO #[x, y] → S1 (i + 1) h' → S2 (i + 1) h' → TupAt h' T #[x, y] →
      (∀ c o, c ∉ [z, TO, i1, i2] → s.heap.get? c = some o → h'.get? c = some o) → Q (.ref T) { s with heap := h', toks := tk }) :
    wpAny (model prog w) A (Builtin.«zip.__next__» ⟨[.ref z], []⟩) (fun fin s' => ∃ v, fin = .done (.ret v) ∧ Q v s') E s := by
  show wpAny _ _ (field (.ref z) 2 >>= _) _ _ _
  refine wpAny_bind (wpAny_field hz rfl (x := .bool false) rfl ?_)
  show wpAny _ _ (field (.ref z) 3 >>= _) _ _ _
  refine wpAny_bind (wpAny_field hz rfl (x := .ref TI) rfl ?_)
  refine wpAny_bind (wpAny_seqItems hTI rfl ?_)
  show wpAny _ _ (Builtin.SmallTypes.ownedTupleIsFree (.ref z) >>= _) _ _ _
  refine wpAny_bind ?_
  unfold Builtin.SmallTypes.ownedTupleIsFree
  refine wpAny_bind (wpAny_field hz rfl (x := .none) rfl (wpAny_pure ?_))
  simp only [if_true]
  refine wpAny_bind (wpAny_rule ?_)
  refine wpAny_bind (wpAny_field hz rfl (x := .ref TO) rfl ?_)
  refine wpAny_bind (wpAny_setField_rec hz (by simp) fun h₁ hz₁ hs₁ => ?_)
  replace hz₁ : IsZip h₁ z TI TO .ellipsis := hz₁
  refine wpAny_bind ?_
  simp only [List.zipIdx_cons, List.zipIdx_nil, List.forIn_cons, List.forIn_nil]
  refine wpAny_bind (wpAny_bind (wpAny_onRaise ?_))
  show wpAny _ _ (Builtin.SmallTypes.nextOf (.ref i1) >>= _) _ _ _
  refine wpAny_bind (N1.item i A _ _ _ hh hi (N1.still h1 D.zf1 hs₁.extBut) fun x h₂ tk₂ hx h1₂ hs₂ => wpAny_pure ?_)
  have hTO₂ : TupAt h₂ TO #[a, b] := hs₂.extBut _ _ D.TOi1 (hs₁.extBut _ _ D.TOz hTO)
  refine wpAny_bind (wpAny_seqItems hTO₂ rfl ?_)
  refine wpAny_bind (updTup hTO₂ (Nat.le_of_ble_eq_true rfl) fun h₃ hTO₃ hs₃ => ?_)
  replace hTO₃ : TupAt h₃ TO #[x, b] := hTO₃
  refine wpAny_bind (wpAny_letGo (wpAny_pure ?_))
  have k₃ : ∀ c o, c ∉ [z, TO, i1] → s.heap.get? c = some o → h₃.get? c = some o := fun c o hc e => by
    simp at hc
    exact hs₃.extBut _ _ hc.2.1 (hs₂.extBut _ _ hc.2.2 (hs₁.extBut _ _ hc.1 e))
  refine wpAny_bind (wpAny_bind (wpAny_onRaise ?_))
  show wpAny _ _ (Builtin.SmallTypes.nextOf (.ref i2) >>= _) _ _ _
  have h2₃ : S2 i h₃ := N2.frame _ _ _ h2 fun b hb o e => k₃ b o (by
    simp
    exact ⟨fun q => D.zf2 (q ▸ hb), fun q => D.Tf2 (q ▸ hb), fun q => D.f12 (q ▸ hb)⟩) e
  refine wpAny_bind (N2.item i A _ _ _ hh hi h2₃ fun y h₄ tk₄ hy h2₄ hs₄ => wpAny_pure ?_)
  have hTO₄ : TupAt h₄ TO #[x, b] := hs₄.extBut _ _ D.TOi2 hTO₃
  refine wpAny_bind (wpAny_seqItems hTO₄ rfl ?_)
  refine wpAny_bind (updTup hTO₄ (Nat.le_of_ble_eq_true rfl) fun h₅ hTO₅ hs₅ => ?_)
  replace hTO₅ : TupAt h₅ TO #[x, y] := hTO₅
  refine wpAny_bind (wpAny_letGo (wpAny_pure (wpAny_pure ?_)))
  have k₅ : ∀ c o, c ∉ [z, TO, i1, i2] → s.heap.get? c = some o → h₅.get? c = some o := fun c o hc e => by
    simp at hc
    exact hs₅.extBut _ _ hc.2.1 (hs₄.extBut _ _ hc.2.2.2 (k₃ c o (by simp; exact ⟨hc.1, hc.2.1, hc.2.2.1⟩) e))
  refine wpAny_bind (wpAny_seqItems hTO₅ rfl ?_)
  refine wpAny_bind (wpAny_newTuple ?_)
  have hz₅ : IsZip h₅ z TI TO .ellipsis := hs₅.extBut _ _ D.TOz.symm (hs₄.extBut _ _ D.i2z.symm (hs₃.extBut _ _ D.TOz.symm (hs₂.extBut _ _ D.i1z.symm hz₁)))
  have h1₅ : S1 (i + 1) h₅ := N1.still (N1.still (N1.still h1₂ D.Tf1 hs₃.extBut) D.f21 hs₄.extBut) D.Tf1 hs₅.extBut
  have h2₅ : S2 (i + 1) h₅ := N2.still h2₄ D.Tf2 hs₅.extBut
  have hsz : h₅.objs.size = s.heap.objs.size := by rw [hs₅.1, hs₄.1, hs₃.1, hs₂.1, hs₁.1]
  have hzlt : z < h₅.objs.size := Heap.lt_size hz₅
  show wpAny _ _ (Builtin.SmallTypes.ownedTupleHandOut (.ref z) (.ref h₅.objs.size) >>= _) _ _ _
  refine wpAny_bind ?_
  unfold Builtin.SmallTypes.ownedTupleHandOut
  have hz₈ : IsZip (h₅.push { cls := .type "tuple", data := .seq #[x, y] }) z TI TO .ellipsis := Heap.get?_push_of_some _ hz₅
  refine wpAny_bind (wpAny_setField_rec hz₈ (by simp) fun h₉ hz₉ hs₉ => ?_)
  replace hz₉ : IsZip h₉ z TI TO (rawInt h₅.objs.size) := hz₉
  refine wpAny_setField_rec hz₉ (by simp) fun ha hza hsa => ?_
  replace hza : IsZip ha z TI TO (rawInt h₅.objs.size) := hza
  have up : ∀ c o, c ≠ z → h₅.get? c = some o → ha.get? c = some o := fun c o c1 e => hsa.extBut _ _ c1 (hs₉.extBut _ _ c1 (Heap.get?_push_of_some _ e))
  have hTa : TupAt ha h₅.objs.size #[x, y] := hsa.extBut _ _ (Nat.ne_of_gt hzlt) (hs₉.extBut _ _ (Nat.ne_of_gt hzlt) (Heap.get?_push_size _ rfl))
  refine wpAny_pure ⟨_, rfl, ?_⟩
  refine hQ h₅.objs.size ha _ x y hx hy (by rw [hsz]; exact size_none _) hza (up _ _ D.TOz hTO₅) (N1.still h1₅ D.zf1 up) (N2.still h2₅ D.zf2 up) hTa fun c o hc e => ?_
  refine up c o (fun q => hc (by simp [q])) (k₅ c o hc e)

theorem zip2_end {a b : Value} {Q : Fin → Shared → Prop} (hh : A.handled = none) (D : Apart2 z TI TO i1 i2 f1 f2) (N1 : NextIt prog w i1 f1 n P1 S1)
    (hz : IsZip s.heap z TI TO .none) (hTI : TupAt s.heap TI #[.ref i1, .ref i2]) (hTO : TupAt s.heap TO #[a, b]) (h1 : S1 n s.heap)
    (hE : ∀ h' e, (∀ c o, c ∉ [z, TO, i1, i2] → s.heap.get? c = some o → h'.get? c = some o) → (∃ o, h'.get? e = some o ∧ o.cls = .type "StopIteration") → E (.ref e) { s with heap := h' }) :
    wpAny (model prog w) A (Builtin.«zip.__next__» ⟨[.ref z], []⟩) Q E s := by
  show wpAny _ _ (field (.ref z) 2 >>= _) _ _ _
  refine wpAny_bind (wpAny_field hz rfl (x := .bool false) rfl ?_)
  show wpAny _ _ (field (.ref z) 3 >>= _) _ _ _
  refine wpAny_bind (wpAny_field hz rfl (x := .ref TI) rfl ?_)
  refine wpAny_bind (wpAny_seqItems hTI rfl ?_)
  show wpAny _ _ (Builtin.SmallTypes.ownedTupleIsFree (.ref z) >>= _) _ _ _
  refine wpAny_bind ?_
  unfold Builtin.SmallTypes.ownedTupleIsFree
  refine wpAny_bind (wpAny_field hz rfl (x := .none) rfl (wpAny_pure ?_))
  simp only [if_true]
  refine wpAny_bind (wpAny_rule ?_)
  refine wpAny_bind (wpAny_field hz rfl (x := .ref TO) rfl ?_)
  refine wpAny_bind (wpAny_setField_rec hz (by simp) fun h₁ hz₁ hs₁ => ?_)
  replace hz₁ : IsZip h₁ z TI TO .ellipsis := hz₁
  refine wpAny_bind ?_
  simp only [List.zipIdx_cons, List.zipIdx_nil, List.forIn_cons, List.forIn_nil]
  refine wpAny_bind (wpAny_bind (wpAny_onRaise ?_))
  show wpAny _ _ (Builtin.SmallTypes.nextOf (.ref i1) >>= _) _ _ _
  refine wpAny_bind (N1.done A _ _ _ hh (N1.still h1 D.zf1 hs₁.extBut) fun h₂ e hs₂ he => ?_)
  obtain ⟨oe, hoe, hce⟩ := he
  have hz₂ : IsZip h₂ z TI TO .ellipsis := hs₂ _ _ D.i1z.symm hz₁
  have hez : e ≠ z := fun x => by subst x; rw [hz₂] at hoe; cases hoe; simp at hce
  refine wpAny_setField_rec hz₂ (by simp) fun h₃ _ hs₃ => hE h₃ e (fun c o hc x => ?_) ⟨oe, hs₃.extBut _ _ hez hoe, hce⟩
  simp at hc
  exact hs₃.extBut _ _ hc.1 (hs₂ _ _ hc.2.2.1 (hs₁.extBut _ _ hc.1 x))

def Zip2St (z TI TO i1 i2 : Addr) (S1 S2 : Nat → Heap → Prop) (i : Nat) (h : Heap) : Prop :=
  IsZip h z TI TO .none ∧ TupAt h TI #[.ref i1, .ref i2] ∧ (∃ a b, TupAt h TO #[a, b]) ∧ S1 i h ∧ S2 i h
def Zip2P (P1 P2 : Nat → Value → Prop) (i : Nat) (v : Value) (h : Heap) : Prop := ∃ T x y, v = .ref T ∧ TupAt h T #[x, y] ∧ P1 i x ∧ P2 i y
def Zip2Md (z TI TO i1 i2 : Addr) (P1 P2 : Nat → Value → Prop) (S1 S2 : Nat → Heap → Prop) (i : Nat) (v : Value) (h : Heap) : Prop :=
  ∃ T x y, v = .ref T ∧ TupAt h T #[x, y] ∧ T ≠ z ∧ P1 i x ∧ P2 i y ∧ IsZip h z TI TO (rawInt T) ∧ TupAt h TI #[.ref i1, .ref i2] ∧ (∃ a b, TupAt h TO #[a, b]) ∧ S1 (i + 1) h ∧ S2 (i + 1) h

theorem zip2_turns {elts : List Expr} {k : Nat} {pos : Pos} (hh : A.handled = none) (D : Apart2 z TI TO i1 i2 f1 f2)
    (N1 : NextIt prog w i1 f1 n P1 S1) (N2 : NextIt prog w i2 f2 n P2 S2) :
    KTurns prog w A (.Tuple elts k pos) z (z :: TI :: TO :: (f1 ++ f2)) [z, TO, i1, i2] n (Zip2P P1 P2) (Zip2Md z TI TO i1 i2 P1 P2 S1 S2) (Zip2St z TI TO i1 i2 S1 S2) where
  sub := fun b hb => by
    have m1 := N1.mem; have m2 := N2.mem
    simp at hb ⊢
    rcases hb with rfl | rfl | rfl | rfl <;> simp [*]
  frame := fun i h h' st hk => by
    obtain ⟨hz, hTI, ⟨a, b, hTO⟩, h1, h2⟩ := st
    exact ⟨hk z (by simp) _ hz, hk TI (by simp) _ hTI, ⟨a, b, hk TO (by simp) _ hTO⟩, N1.frame _ _ _ h1 fun b hb o e => hk b (by simp [hb]) o e, N2.frame _ _ _ h2 fun b hb o e => hk b (by simp [hb]) o e⟩
  item := fun i s Q E hi st hQ => by
    obtain ⟨hz, hTI, ⟨a, b, hTO⟩, h1, h2⟩ := st
    have hT : s.TypeIs (.ref z) "zip" := ⟨_, hz, rfl⟩
    unfold pyNext
    refine wpAny_bind (wpAny_attempt (wpAny_callSpecial?_slot (name := Str.ofString "__next__") hT F.slot_zip_next
      (wpAny_call_entry F.slot_zip_next hT F.entry_zip_next
        (zip2_item (i := i) hh D N1 N2 hz hTI hTO h1 h2 hi fun T h' tk x y hx hy hTn hz' hTO' h1' h2' hT' hk => wpAny_pure ?_) (F.args_zip_next_1 _))))
    have hTz : T ≠ z := by
      rintro rfl
      have hz2 : s.heap.get? T = some _ := hz
      rw [hTn] at hz2; cases hz2
    refine hQ (.ref T) h' tk ⟨T, x, y, rfl, hT', hTz, hx, hy, hz', hk _ _ ?_ hTI, ⟨_, _, hTO'⟩, h1', h2'⟩ hk
    simp [D.TIz, D.TITO, D.TIi1, D.TIi2]
  go := fun i v s Q E hm hQ => by
    obtain ⟨T, x, y, rfl, hT', hTz, hx, hy, hz', hTI', ⟨a, b, hTO'⟩, h1', h2'⟩ := hm
    refine wpAny_letOwnedTupleGo_zip hz' fun h' hz'' hs' => hQ h' ⟨T, x, y, rfl, hs'.extBut _ _ hTz hT', hx, hy⟩
      ⟨hz'', hs'.extBut _ _ D.TIz hTI', ⟨a, b, hs'.extBut _ _ D.TOz hTO'⟩, N1.still h1' D.zf1 hs'.extBut, N2.still h2' D.zf2 hs'.extBut⟩ fun c o hc e => hs'.extBut _ _ (fun q => hc (by simp [q])) e
  done := fun s Q E st hQ => by
    obtain ⟨hz, hTI, ⟨a, b, hTO⟩, h1, h2⟩ := st
    have hT : s.TypeIs (.ref z) "zip" := ⟨_, hz, rfl⟩
    unfold pyNext
    refine wpAny_bind (wpAny_attempt (wpAny_callSpecial?_slot (name := Str.ofString "__next__") hT F.slot_zip_next
      (wpAny_call_entry F.slot_zip_next hT F.entry_zip_next (zip2_end hh D N1 hz hTI hTO h1 fun h' e hk he => ?_) (F.args_zip_next_1 _))))
    obtain ⟨o, ho, hc⟩ := he
    refine wpAny_bind (wpAny_isInstance (T := "StopIteration") (b := true) ⟨o, ho, hc⟩ isSubtype_stop ?_)
    exact wpAny_pure (hQ _ _ hk)

abbrev zqH2 (h : Heap) (o1 o2 : Obj) : Heap := (h.push o1).push o2
abbrev zqH3 (h : Heap) (o1 o2 : Obj) : Heap := (zqH2 h o1 o2).push { cls := .type "tuple", data := .seq #[.ref h.objs.size, .ref (h.push o1).objs.size] }
abbrev zqH4 (h : Heap) (o1 o2 : Obj) : Heap := (zqH3 h o1 o2).push { cls := .type "tuple", data := .seq #[.none, .none] }
abbrev zqH5 (h : Heap) (o1 o2 : Obj) : Heap := (zqH4 h o1 o2).push { cls := .type "zip", data := .fields #[.none, .bool false, .bool false, .ref (zqH2 h o1 o2).objs.size, .ref (zqH3 h o1 o2).objs.size] }
theorem meets_zip2 {v1 v2 : Value} {o1 o2 : Obj} {n1 n2 : Nat} {P1 P2 : Nat → Value → Prop} {G1 G2 : Heap → Prop} {x1 x2 : List Addr} {S1 S2 : Addr → Nat → Heap → Prop}
    (Z1 : ZipArg prog w v1 o1 n1 P1 G1 x1 S1) (Z2 : ZipArg prog w v2 o2 n2 P2 G2 x2 S2) :
    MeetsIn prog w (Builtin.«zip.__new__» ⟨[.type "zip", v1, v2], []⟩) (fun _ R s => G1 s.heap ∧ G2 s.heap ∧
      R (.ok (.ret (.ref (zqH4 s.heap o1 o2).objs.size))) { s with heap := zqH5 s.heap o1 o2 }) :=
  .of_wp fun A R s h => by
    obtain ⟨hp, g, d, tk, os⟩ := s
    obtain ⟨g1, g2, h⟩ := h
    have hsub := sub_zip
    have g2' := Z2.mono _ (hp.push o1) g2 fun _ _ e => Heap.get?_push_of_some _ e
    have p1 := fun Q E q => Z1.iter A.in1 ⟨hp, g, d, tk, os⟩ Q E g1 q
    have p2 := fun Q E q => Z2.iter A.in1 ⟨hp.push o1, g, d, tk, os⟩ Q E g2' q
    wp_walk using (p1 _ _), (p2 _ _)
    exact ⟨_, rfl, h⟩

theorem call_zip2 {v1 v2 : Value} {o1 o2 : Obj} {n1 n2 : Nat} {P1 P2 : Nat → Value → Prop} {G1 G2 : Heap → Prop} {x1 x2 : List Addr} {S1 S2 : Addr → Nat → Heap → Prop}
    (Z1 : ZipArg prog w v1 o1 n1 P1 G1 x1 S1) (Z2 : ZipArg prog w v2 o2 n2 P2 G2 x2 S2) (g1 : G1 s.heap) (g2 : G2 s.heap) {Q : Value → Shared → Prop}
    (h : ∀ h' z TI TO i1 i2, IsZip h' z TI TO .none → TupAt h' TI #[.ref i1, .ref i2] → TupAt h' TO #[.none, .none] → h'.get? i1 = some o1 → h'.get? i2 = some o2 →
      s.heap.objs.size = i1 → i2 = i1 + 1 → TI = i1 + 2 → TO = i1 + 3 → z = i1 + 4 → (∀ c o, s.heap.get? c = some o → h'.get? c = some o) → Q (.ref z) { s with heap := h' }) :
    wpAny (model prog w) A (call (.type "zip") [v1, v2]) Q E s := by
  refine callType_newIn F.called_zip (by decide) (F.typeCall_zip_2 _ _) (F.newCall_zip_2 _ _) (fun obj => F.args_object_init_3 obj _ _) F.entry_zip_new
    (meets_zip2 Z1 Z2) ⟨g1, g2, ?_⟩
  have z1 : (s.heap.push o1).objs.size = s.heap.objs.size + 1 := Heap.size_push ..
  have z2 : (zqH2 s.heap o1 o2).objs.size = s.heap.objs.size + 2 := by rw [Heap.size_push, z1]
  have z3 : (zqH3 s.heap o1 o2).objs.size = s.heap.objs.size + 3 := by rw [Heap.size_push, z2]
  have z4 : (zqH4 s.heap o1 o2).objs.size = s.heap.objs.size + 4 := by rw [Heap.size_push, z3]
  have e6 : (zqH5 s.heap o1 o2).get? (zqH4 s.heap o1 o2).objs.size = some _ := Heap.get?_push_size _ rfl
  have e5 : (zqH5 s.heap o1 o2).get? (zqH3 s.heap o1 o2).objs.size = some _ := Heap.get?_push_of_some _ (Heap.get?_push_size _ rfl)
  have e4 : (zqH5 s.heap o1 o2).get? (zqH2 s.heap o1 o2).objs.size = some _ := Heap.get?_push_of_some _ (Heap.get?_push_of_some _ (Heap.get?_push_size _ rfl))
  have e2 : (zqH5 s.heap o1 o2).get? (s.heap.push o1).objs.size = some _ := Heap.get?_push_of_some _ (Heap.get?_push_of_some _ (Heap.get?_push_of_some _ (Heap.get?_push_size _ Z2.free)))
  have e1 : (zqH5 s.heap o1 o2).get? s.heap.objs.size = some _ := Heap.get?_push_of_some _ (Heap.get?_push_of_some _ (Heap.get?_push_of_some _ (Heap.get?_push_of_some _ (Heap.get?_push_size _ Z1.free))))
  show _ ∧ _
  refine ⟨⟨_, e6, rfl⟩, h _ _ _ _ _ _ e6 e4 e5 e1 e2 rfl z1 z2 z3 z4 fun c o x => ?_⟩
  exact Heap.get?_push_of_some _ (Heap.get?_push_of_some _ (Heap.get?_push_of_some _ (Heap.get?_push_of_some _ (Heap.get?_push_of_some _ x))))

theorem apart2_of {L : Nat} {x1 x2 : List Addr} (h1 : ∀ b ∈ x1, b < L) (h2 : ∀ b ∈ x2, b < L) :
    Apart2 (L + 4) (L + 2) (L + 3) L (L + 1) (L :: x1) ((L + 1) :: x2) := by
  have k : ∀ {xs : List Addr} (j i : Nat), (∀ b ∈ xs, b < L) → j ≠ i → L + j ∉ ((L + i) :: xs) := fun j i h ne hm => by
    rcases List.mem_cons.mp hm with e | hm
    · have : L + j = L + i := e
      omega
    · have : L + j < L := h _ hm
      omega
  have ne : ∀ i j : Nat, i ≠ j → (L + i : Nat) ≠ L + j := fun i j h => by omega
  exact ⟨ne 2 4 (by decide), ne 3 4 (by decide), ne 2 3 (by decide), ne 0 4 (by decide), ne 1 4 (by decide), ne 2 0 (by decide), ne 2 1 (by decide),
    ne 3 0 (by decide), ne 3 1 (by decide), ne 0 1 (by decide), k 4 0 h1 (by decide), k 4 1 h2 (by decide),
    k 3 0 h1 (by decide), k 3 1 h2 (by decide), k 0 1 h2 (by decide), k 1 0 h1 (by decide)⟩

theorem up_lt2 {L c n : Nat} (h1 : L + 4 < n) (h2 : c < L) : c < n := by omega
theorem it_zip2 {s₀ s₁ : Shared} {elts : List Expr} {kk : Nat} {pos : Pos} {v1 v2 : Value} {o1 o2 : Obj} {n : Nat} {P1 P2 : Nat → Value → Prop} {G1 G2 : Heap → Prop} {x1 x2 : List Addr} {S1 S2 : Addr → Nat → Heap → Prop} {z TI TO i1 i2 : Addr}
    (hh : A.handled = none) (Z1 : ZipArg prog w v1 o1 n P1 G1 x1 S1) (Z2 : ZipArg prog w v2 o2 n P2 G2 x2 S2) (g1 : G1 s₀.heap) (g2 : G2 s₀.heap)
    (hz : IsZip s₁.heap z TI TO .none) (hTI : TupAt s₁.heap TI #[.ref i1, .ref i2]) (hTO : TupAt s₁.heap TO #[.none, .none]) (e1 : s₁.heap.get? i1 = some o1) (e2 : s₁.heap.get? i2 = some o2)
    (q1 : s₀.heap.objs.size = i1) (q2 : i2 = i1 + 1) (q4 : TI = i1 + 2) (q5 : TO = i1 + 3) (q6 : z = i1 + 4) (k : Keeps s₀ s₁) :
    wpAny (model prog w) A (pyIter (.ref z)) (ItG prog w A (.Tuple elts kk pos) n (Zip2P P1 P2) s₀) E s₁ := by
  obtain ⟨h₁, tk₁, rfl, hk⟩ := k
  subst q1 q2 q4 q5 q6
  have l1 : ∀ b ∈ x1, b < s₀.heap.objs.size := fun b hb => by obtain ⟨o, e⟩ := Z1.there _ g1 b hb; exact Heap.lt_size e
  have l2 : ∀ b ∈ x2, b < s₀.heap.objs.size := fun b hb => by obtain ⟨o, e⟩ := Z2.there _ g2 b hb; exact Heap.lt_size e
  have nm : ∀ {xs : List Addr} (j : Nat), (∀ b ∈ xs, b < s₀.heap.objs.size) → s₀.heap.objs.size + j ∉ xs := fun j h hm => by
    have : s₀.heap.objs.size + j < s₀.heap.objs.size := h _ hm
    omega
  have D := apart2_of l1 l2
  have N1 := Z1.next s₀.heap.objs.size (nm 0 l1)
  have N2 := Z2.next (s₀.heap.objs.size + 1) (nm 1 l2)
  have st : Zip2St (s₀.heap.objs.size + 4) (s₀.heap.objs.size + 2) (s₀.heap.objs.size + 3) s₀.heap.objs.size (s₀.heap.objs.size + 1) (S1 s₀.heap.objs.size) (S2 (s₀.heap.objs.size + 1)) 0 h₁ :=
    ⟨hz, hTI, ⟨_, _, hTO⟩, Z1.start _ _ (Z1.mono _ _ g1 hk) e1, Z2.start _ _ (Z2.mono _ _ g2 hk) e2⟩
  refine wpAny_pyIter_zip hz ?_
  refine ⟨_, _, _, _, _, rfl, zip2_turns (elts := elts) (k := kk) (pos := pos) hh D N1 N2, fun s Q E st' hQ => wpAny_pyIter_zip st'.1 hQ, ?_, ?_, st, ?_, ⟨h₁, _, rfl, hk⟩⟩
  · rintro i h ⟨hz', _, ⟨_, _, hTO'⟩, h1, h2⟩ b hb
    simp only [List.mem_cons, List.not_mem_nil, or_false] at hb
    rcases hb with rfl | rfl | rfl | rfl
    · exact ⟨_, hz'⟩
    · exact ⟨_, hTO'⟩
    · exact N1.obj _ _ h1 _ N1.mem
    · exact N2.obj _ _ h2 _ N2.mem
  · intro b hb
    cases e : s₀.heap.get? b with
    | none => rfl
    | some o =>
      have := Heap.lt_size e
      simp only [List.mem_cons, List.not_mem_nil, or_false] at hb
      have e' : b = s₀.heap.objs.size + 4 ∨ b = s₀.heap.objs.size + 3 ∨ b = s₀.heap.objs.size ∨ b = s₀.heap.objs.size + 1 := hb
      exfalso
      have hlt : (b : Nat) < s₀.heap.objs.size := this
      rcases e' with e' | e' | e' | e'
      · exact no_lt 4 e' hlt
      · exact no_lt 3 e' hlt
      · exact no_lt 0 e' hlt
      · exact no_lt 1 e' hlt
  · intro b hb
    simp only [List.mem_cons, List.mem_append] at hb
    have hz' := Heap.lt_size hz
    have up : ∀ c : Addr, c < s₀.heap.objs.size → c < h₁.objs.size := fun c hc => up_lt2 hz' hc
    rcases hb with rfl | rfl | rfl | ((rfl | hb) | (rfl | hb))
    · exact hz'
    · exact Heap.lt_size hTI
    · exact Heap.lt_size hTO
    · exact Heap.lt_size e1
    · exact up _ (l1 _ hb)
    · exact Heap.lt_size e2
    · exact up _ (l2 _ hb)
end

section
variable {prog : Program} {w : World} {A : Around} {E : Value → Shared → Prop} {s : Shared} {env : Env}
theorem tup_assign2 {a b : Str} {pa pb tp : Pos} {kk : Nat} {T : Addr} {x y : Value} {m : Str → Option Value} {Q : Unit → Shared → Prop} (hh : A.handled = none) (ht : TupAt s.heap T #[x, y])
    (ha : env.kindOf a = some .local) (hb : env.kindOf b = some .local) (hp : (env.scope.kind == .class || (env.scope.kind == .module && env.locals != env.globals)) = false) (hn : s.heap.Ns env.locals m)
    (h : ∀ (h' : Heap) (tk : Nat), h'.Ns env.locals (fun z => if z = b then some y else if z = a then some x else m z) → (∀ c o, c ≠ env.locals → s.heap.get? c = some o → h'.get? c = some o) → Q () { s with heap := h', toks := tk }) :
    wpAny (model prog w) A (assign (.Tuple [.Name a pa, .Name b pb] kk tp) env (.ref T)) Q E s :=
  kcp_assign hh ⟨_, ht, rfl, 0, rfl⟩ ha hb hp hn h

/-- two names and one test -/
theorem turn_tup2 {a b : Str} {pa pb tp : Pos} {kk : Nat} {scope : Scope} {cl : List (Str × Addr)} {elt cond : Expr} {n : Nat} {P1 P2 : Nat → Value → Prop} {p : Nat → Bool} {R : List Addr → Nat → Value → Heap → Prop} {s₁ : Shared}
    (hh : A.handled = none) (ha : scope.names.lookup a = some .local) (hb : scope.names.lookup b = some .local) (hkind : scope.kind = .function) (hab : a ≠ b)
    (el : ∀ i x y C s₄ m₄ (E' : Value → Shared → Prop), i < n → P1 i x → P2 i y → s₄.heap.Ns C m₄ → m₄ a = some x → m₄ b = some y → s₁.heap.get? C = none →
      (∀ b o, s₁.heap.get? b = some o → s₄.heap.get? b = some o) → (∃ h tk, s₄ = { s₁ with heap := h, toks := tk }) →
      wpAny (model prog w) A (isTrue cond (compEnvC scope cl C env) (eval cond (compEnvC scope cl C env))) (fun b s₅ => b = p i ∧ Keeps s₄ s₅) E' s₄)
    (el2 : ∀ i C (bad : List Addr) s₄ (E' : Value → Shared → Prop), i < n → (∀ b o, s₁.heap.get? b = some o → s₄.heap.get? b = some o) → (∃ h tk, s₄ = { s₁ with heap := h, toks := tk }) →
      wpAny (model prog w) A (eval elt (compEnvC scope cl C env)) (fun y s₆ => Keeps s₄ s₆ ∧ R bad i y s₆.heap) E' s₄) :
    Turn1 prog w A env scope cl (.Tuple [.Name a pa, .Name b pb] kk tp) [cond] elt n (Zip2P P1 P2) p R s₁ := by
  rintro i v C bad s₃ m₃ E' hi ⟨T, x, y, rfl, hT, hx, hy⟩ hn hC hk hbad hCb ⟨h₃, tk₃, rfl⟩
  refine tup_assign2 (env := compEnvC scope cl C env) hh hT (lookup_relabel_local ha) (lookup_relabel_local hb) (by simp [compEnvC, relabel, hkind]) hn fun h₄ tk₄ hn₄ hs₄ => ?_
  have kk4 : ∀ b o, s₁.heap.get? b = some o → h₄.get? b = some o := fun b o e => hs₄ b o (by rintro rfl; rw [hC] at e; cases e) (hk b o e)
  refine ⟨h₄, _, _, rfl, hn₄, hs₄, wpAny_tests_one (wpAny_mono (el i x y C _ _ E' hi hx hy hn₄ (by simp [hab]) (by simp) hC kk4 ⟨h₄, _, rfl⟩) (fun b s₅ hb => ?_) fun _ _ e => e)⟩
  obtain ⟨hb1, hb2⟩ := hb
  refine ⟨hb1, hb2, fun _ => ?_⟩
  obtain ⟨h₅, tk₅, rfl, k₅⟩ := hb2
  exact el2 i C bad _ E' hi (fun b o e => k₅ _ _ (kk4 b o e)) ⟨h₅, _, rfl⟩
end
end Mine
end
section
open PySem PySem.W PySem.Calls PyProof.Rows
set_option linter.unusedSimpArgs false
set_option linter.unusedVariables false
set_option maxRecDepth 100000
namespace Mine
section
variable {prog : Program} {w : World} {A : Around} {E : Value → Shared → Prop} {s : Shared} {env : Env}

/-- a generator object that hands on n truths, and writes to nothing that stood in hOld -/
def GenB (prog : Program) (w : World) (A : Around) (a : Addr) (n : Nat) (p : Nat → Bool) (hOld : Heap) (s : Shared) : Prop :=
  ∃ fp wr g St, WalksS prog w A.in4 a fp wr (GenOnlyQ g) n (fun j v => v = .bool (p j)) St ∧ St 0 s ∧ ∀ b ∈ wr, hOld.get? b = none

theorem passing_all (n : Nat) : passing (fun _ => true) n 0 = List.range n := by simp [passing]

theorem none_ge {h : Heap} {b : Addr} (hb : h.objs.size ≤ b) : h.get? b = none := by
  cases e : h.get? b with
  | none => rfl
  | some o => exact absurd (Heap.lt_size e) (Nat.not_lt.mpr hb)

theorem gen_made {elt iter : Expr} {x : Str} {px : Pos} {scope : Scope} {cl : List (Str × Addr)} {pos : Pos} {Q : Value → Shared → Prop} {c P : Addr} (p : Nat → Bool)
    (hcode : env.code = .ref c) (hh : A.handled = none) (hco : scope.isCoroutine = false) (hclos : closureFor scope env = pure cl) (hcell : ∀ y ∈ scope.names, y.2 ≠ .cell) (h0 : scope.names.lookup (".0" : Str) = some NameKind.local)
    (hx : scope.names.lookup x = some .local) (hkind : scope.kind = .function) (hroom : A.depth < recursionLimit)
    (h : wpAny (model prog w) A (eval iter env) (fun xv s₁ => ∃ y t mg bm ob ps, xv = .str y t ∧ y.cps.all (· < 128) = true ∧ s₁.heap.IsCode c P ps ∧ s₁.heap.TableAt c P ps ∧ BMod s₁.heap env.globals mg bm ob ∧ s₁.heap.NoLimit ∧ AllBare s₁.gens ∧
      (∀ C code (A' : Around) (E' : Value → Shared → Prop) i k u (t' : Shared) m₂, A'.handled = none → A'.depth ≤ A.depth + 1 → A'.units ≤ A.units + 8 → y.cps[i]? = some k → t'.heap.Ns C m₂ → m₂ x = some (.str ⟨#[k]⟩ u) →
        (∀ b o, b ≠ P → s₁.heap.get? b = some o → t'.heap.get? b = some o) →
        wpAny (model prog w) A' (eval elt (genEnv scope cl C code builtinsNs env)) (fun v s₃ => v = .bool (p i) ∧ Keeps t' s₃) E' t') ∧
      ∀ a s₅ more, GenB prog w A a y.cps.size p s₁.heap s₅ → AllBare s₅.gens → s₅.os = s₁.os → (∀ b o, b ≠ P → s₁.heap.get? b = some o → s₅.heap.get? b = some o) →
        s₅.heap.IsCode c P (ps ++ more) → s₅.heap.TableAt c P (ps ++ more) → Q (.ref a) s₅) E s)
    (hs : ∀ x, genFold iter env x = pure x) :
    wpAny (model prog w) A (eval (.GeneratorExp elt [⟨.Name x px, iter, [], 0⟩] scope pos) env) Q E s := by
  refine wpAny_GeneratorExp_walksQD hh hco hclos hcell h0 hx hkind hroom (wpAny_mono h (fun xv s₁ h₁ => ?_) fun _ _ e => e) hs
  obtain ⟨y, t, mg, bm, ob, ps, rfl, ha, hc, ht, M, hlim, hb, hel, hQ⟩ := h₁
  refine wpAny_pyIter_ascii ha ?_
  refine ⟨hlim.push _, ?_⟩
  have hI : s₁.heap.get? s₁.heap.objs.size = none := none_ge (Nat.le_refl _)
  have hit : (s₁.heap.push { cls := .type "str_ascii_iterator", data := .fields #[.str y t, .int 0 0] }).get? s₁.heap.objs.size = some { cls := .type "str_ascii_iterator", data := .fields #[.str y t, .int 0 0] } := Heap.get?_push_size _ rfl
  generalize hH : s₁.heap.push { cls := .type "str_ascii_iterator", data := .fields #[.str y t, .int 0 0] } = H at hit ⊢
  have kH : ∀ b o, s₁.heap.get? b = some o → H.get? b = some o := fun b o e => hH ▸ Heap.get?_push_of_some _ e
  have sH : H.objs.size = s₁.heap.objs.size + 1 := by rw [← hH, Heap.size_push]
  have hPlt : P < s₁.heap.objs.size := Heap.lt_size ht.2
  have hIP : s₁.heap.objs.size ≠ P := Nat.ne_of_gt hPlt
  have hlim' : H.NoLimit := hlim.keeps kH
  have cont : ∀ (code : Value) (h₃ : Heap) (tk₃ : Nat) (more : Array Value), Heap.ExtBut P H h₃ → H.objs.size ≤ h₃.objs.size → h₃.IsCode c P (ps ++ more) → h₃.TableAt c P (ps ++ more) →
      wpAny (model prog w) A (builtinsFor env.globals env.builtins) (fun bi s₄ =>
        ∃ I fp wr n₀ P' St₀ pz F, Value.ref s₁.heap.objs.size = .ref I ∧ (∀ A' : Around, A'.handled = none → Walks prog w A' I fp wr n₀ P' St₀) ∧ St₀ 0 s₄.heap ∧ (∀ b ∈ fp, b < s₄.heap.objs.size) ∧ s₄.heap.NoLimit ∧ cStatics ∉ wr ∧
          (∀ href : Heap, (∀ b o, s₄.heap.get? b = some o → href.get? b = some o) →
            QuietGenD prog w (genEnv scope cl s₄.heap.objs.size code bi env) x [] elt (List.range s₄.heap.objs.size) wr P' pz F href (A.depth + 1) (A.units + 8)) ∧
          (∀ a h₅ tk gs, gs.bare = true → s₄.heap.objs.size < a → h₅.objs.size = a + 1 → (∀ b o, s₄.heap.get? b = some o → h₅.get? b = some o) →
            WalksS prog w A.in4 a (a :: s₄.heap.objs.size :: List.range s₄.heap.objs.size) (s₄.heap.objs.size :: wr) (GenOnlyQ s₄.gens.size) (passing pz n₀ 0).length
              (fun j y => ∃ i, (passing pz n₀ 0)[j]? = some i ∧ F i y) (GenAt prog w A.in4 a s₄.gens.size s₄.heap.objs.size (List.range s₄.heap.objs.size) wr pz n₀ F) →
            GenAt prog w A.in4 a s₄.gens.size s₄.heap.objs.size (List.range s₄.heap.objs.size) wr pz n₀ F 0 { s₄ with gens := s₄.gens.push gs, toks := tk, heap := h₅ } →
            Q (.ref a) { s₄ with gens := s₄.gens.push gs, toks := tk, heap := h₅ })) E { s₁ with heap := h₃, toks := tk₃ } := by
    intro code h₃ tk₃ more hx₃ hsz hc₃ ht₃
    have kk : ∀ b o, b ≠ P → s₁.heap.get? b = some o → h₃.get? b = some o := fun b o hb e => hx₃ b o hb (kH b o e)
    have M₃ : BMod h₃ env.globals mg bm ob := M.extBut ht kk
    have hcP : cStatics ≠ P := fun e => by
      obtain ⟨_, hns, _⟩ := hlim
      obtain ⟨o, es, ep, ho, hd, _⟩ := hns
      rw [e, ht.2] at ho; cases ho; cases hd
    have hl₃ : h₃.NoLimit := hlim'.extBut hx₃ hcP
    have hsI : s₁.heap.objs.size < h₃.objs.size := by
      have : (s₁.heap.objs.size + 1 : Nat) ≤ h₃.objs.size := sH ▸ hsz
      exact this
    refine wpAny_builtinsFor M₃.ns M₃.name M₃.ne M₃.obj M₃.cls M₃.dict M₃.data ?_
    refine ⟨_, _, _, _, _, _, fun _ => true, fun i v => v = .bool (p i), rfl, (fun A' hA => Walks.strAscii hA s₁.heap.objs.size y t), ⟨_, hx₃ _ _ hIP hit, rfl, rfl⟩, ?_, hl₃, ?_, (fun href hhref => ⟨?_, ?_⟩), fun a h₅ tk gs hgb hag hsz₅ hk₅ W hat => ?_⟩
    · intro b hb
      rw [List.mem_singleton.mp hb]; exact hsI
    · intro hm
      have e := List.mem_singleton.mp hm
      obtain ⟨_, hns, _⟩ := hlim
      obtain ⟨o, es, ep, ho, _⟩ := hns
      rw [e, hI] at ho; cases ho
    · intro A' E' i v s₂ m₂ _ _ _ _ _ _ _
      exact wpAny_tests_nil ⟨rfl, ⟨_, _, rfl, fun _ _ e => e⟩⟩
    · rintro A' E' i v s₂ m₂ hA hD hU ⟨k, u, hk, rfl⟩ _ hn hm hkp
      refine hel h₃.objs.size code A' E' i k u s₂ m₂ hA hD hU hk hn hm fun b o hb e => ?_
      refine hkp b (List.mem_range.mpr (Heap.lt_size (kk b o hb e))) (fun hw => ?_) o (hhref b o (kk b o hb e))
      rw [List.mem_singleton.mp hw, hI] at e; cases e
    · rw [passing_all] at W
      rw [List.length_range] at W
      refine hQ a _ more ⟨_, _, _, _, W.imp fun j v hv => ?_, hat, fun b hb => ?_⟩ (hb.push hgb) rfl (fun b o hb e => hk₅ b o (kk b o hb e)) (hc₃.keeps hk₅) (ht₃.keeps hk₅)
      · obtain ⟨i, hi, hv⟩ := hv
        rw [List.getElem?_range] at hi
        · cases hi; exact hv
        · rcases Nat.lt_or_ge j y.cps.size with q | q
          · exact q
          · rw [List.getElem?_eq_none (by simpa using q)] at hi; cases hi
      · rcases List.mem_cons.mp hb with rfl | hb
        · exact none_ge (Nat.le_of_lt hsI)
        · rw [List.mem_singleton.mp hb]; exact hI
  have hcH : H.IsCode c P ps := hc.keeps kH
  have htH : H.TableAt c P ps := ht.keeps kH
  cases hf : codeAmong pos ps.toList with
  | none =>
    refine wpAny_genexprCodeX hcode hcH htH hf fun c' h₃ tk₃ hx₃ hge hlt hcode₃ _ htab₃ _ => ?_
    exact cont _ _ _ _ hx₃ (Nat.le_trans hge (Nat.le_of_lt hlt)) hcode₃ htab₃
  | some c' =>
    refine wpAny_genexprCode_hit hcode hcH hf ?_
    have e0 : ps ++ (#[] : Array Value) = ps := by simp
    exact cont c' H s₁.toks #[] (fun _ _ _ e => e) (Nat.le_refl _) (by rw [e0]; exact hcH) (by rw [e0]; exact htH)

theorem any_made {a : Addr} {n : Nat} {p : Nat → Bool} {hOld : Heap} {Q : Value → Shared → Prop} (G : AllBare s.gens) (X : GenB prog w A a n p hOld s)
    (hQ : ∀ s', AllBare s'.gens → s'.os = s.os → (∀ b o o', hOld.get? b = some o' → s.heap.get? b = some o → s'.heap.get? b = some o) → Q (.bool ((List.range n).any p)) s') :
    wpAny (model prog w) A (call (.builtin "any") [.ref a]) Q E s := by
  obtain ⟨fp, wr, g, St, W, hst, hwr⟩ := X
  have W := W.in4_1
  exact call_any_walkS (W.self 0 _ _ _ hst ⟨a, _, _, _, _, _, _, p, rfl, W, hst, (fun j v s Q E hv hQ => by subst hv; exact wpAny_truthy_bool hQ), fun s' hm =>
    hQ s' (G.movedS hm) hm.os fun b o o' e' e => hm.heap b o (fun hmem => by rw [hwr b hmem] at e'; cases e') e⟩)
theorem all_made {a : Addr} {n : Nat} {p : Nat → Bool} {hOld : Heap} {Q : Value → Shared → Prop} (G : AllBare s.gens) (X : GenB prog w A a n p hOld s)
    (hQ : ∀ s', AllBare s'.gens → s'.os = s.os → (∀ b o o', hOld.get? b = some o' → s.heap.get? b = some o → s'.heap.get? b = some o) → Q (.bool ((List.range n).all p)) s') :
    wpAny (model prog w) A (call (.builtin "all") [.ref a]) Q E s := by
  obtain ⟨fp, wr, g, St, W, hst, hwr⟩ := X
  have W := W.in4_1
  exact call_all_walkS (W.self 0 _ _ _ hst ⟨a, _, _, _, _, _, _, p, rfl, W, hst, (fun j v s Q E hv hQ => by subst hv; exact wpAny_truthy_bool hQ), fun s' hm =>
    hQ s' (G.movedS hm) hm.os fun b o o' e' e => hm.heap b o (fun hmem => by rw [hwr b hmem] at e'; cases e') e⟩)
end

/-- a heap in which nothing but the code's table P has changed -/
theorem fr_regrown {h₀ h h' : Heap} {c P L : Addr} {ps' : Array Value} {ps : Array Value} {m : Str → Option Value} (F : Fr h₀ L h m) (t₀ : h₀.TableAt c P ps) (ht : h'.TableAt c P ps') (hk : ∀ b o, b ≠ P → h.get? b = some o → h'.get? b = some o) :
    Fr (regrown h₀ P ps') L h' m := by
  have hPlt : P < h₀.objs.size := Heap.lt_size t₀.2
  have hLP : L ≠ P := Nat.ne_of_gt (Nat.lt_of_lt_of_le hPlt F.above)
  refine ⟨F.ns.extBut hk hLP, fun b o e => ?_, Nat.le_trans (Nat.le_of_eq (Heap.SameBut.update h₀ P _).1) F.above⟩
  by_cases hb : b = P
  · subst hb
    rw [show (regrown h₀ b ps').get? b = some { cls := .none, data := .fields ps' } from Heap.get?_update_self _ t₀.2 rfl] at e
    cases e; exact ht.2
  · rw [show (regrown h₀ P ps').get? b = h₀.get? b from Heap.get?_update_other _ _ (Ne.symm hb)] at e
    exact hk b o hb (F.keep b o e)

theorem ns_but {h h' : Heap} {c P a : Addr} {ps : Array Value} {m : Str → Option Value} (B : Based h h c P ps) (G : h.Ns a m) (hk : ∀ b o, b ≠ P → h.get? b = some o → h'.get? b = some o) : h'.Ns a m :=
  G.extBut hk (B.ne_of_ns G)
theorem top_but {h h' : Heap} {c P : Addr} {ps : Array Value} {p : Program} {loose : List Str} {mg mb : Str → Option Value} (B : Based h h c P ps) (T : TopRead p loose mg mb h) (hk : ∀ b o, b ≠ P → h.get? b = some o → h'.get? b = some o) : TopRead p loose mg mb h' := by
  obtain ⟨mc, h1, h2⟩ := T.nolimit
  exact ⟨ns_but B T.g hk, ns_but B T.b hk, ⟨mc, ns_but B h1 hk, h2⟩, T.builtins, T.free⟩
theorem in_but {h h' : Heap} {c P : Addr} {ps : Array Value} {mg : Str → Option Value} {K : Frag} (B : Based h h c P ps) (X : K.In h) (G : h.Ns mainGlobals mg) (hK : kb_classed K = true) (hk : ∀ b o, b ≠ P → h.get? b = some o → h'.get? b = some o) : K.In h' := by
  intro a o e
  have ha := X a o e
  have hne : a ≠ P := by
    rintro rfl
    have hr := kb_in_regrown (ps' := ps.push .none) B X G hK a o e
    rw [show (regrown h a (ps.push .none)).get? a = some { cls := .none, data := .fields (ps.push .none) } from Heap.get?_update_self _ B.tab.2 rfl] at hr
    rw [B.tab.2] at ha
    cases ha
    injection hr with hr
    injection hr with _ _ hr
    injection hr with hr
    have := congrArg Array.size hr
    simp at this
  exact hk a o hne ha

theorem table_moved {h0 h5 h6 : Heap} {c P : Addr} {ps ps' : Array Value} (t0 : h0.TableAt c P ps) (t5 : h5.TableAt c P ps') (hk : ∀ b o o', h0.get? b = some o' → h5.get? b = some o → h6.get? b = some o) : h6.TableAt c P ps' := by
  obtain ⟨⟨o0, vs0, e0, _⟩, eP0⟩ := t0
  obtain ⟨⟨o, vs, e, r⟩, eP⟩ := t5
  exact ⟨⟨o, vs, hk _ _ _ e0 e, r⟩, hk _ _ _ eP0 eP⟩
theorem code_moved {h0 h5 h6 : Heap} {c P : Addr} {ps ps' : Array Value} (t0 : h0.TableAt c P ps) (t5 : h5.IsCode c P ps') (hk : ∀ b o o', h0.get? b = some o' → h5.get? b = some o → h6.get? b = some o) : h6.IsCode c P ps' := by
  obtain ⟨⟨o0, vs0, e0, _⟩, eP0⟩ := t0
  obtain ⟨o, vs, file, tf, flags, tg, inF, text, tt, op, a, r1, r2, r3, r4, r5, r6, b, r⟩ := t5
  exact ⟨o, vs, file, tf, flags, tg, inF, text, tt, op, hk _ _ _ e0 a, r1, r2, r3, r4, r5, r6, hk _ _ _ eP0 b, r⟩

theorem basedSelf {h₁ h₀ : Heap} {c P : Addr} {ps : Array Value} (B : Based h₁ h₀ c P ps) : Based h₀ h₀ c P ps := .start B.code B.tab B.notStatics
theorem basedTo {h₁ h₀ : Heap} {c P : Addr} {ps : Array Value} (B : Based h₁ h₀ c P ps) : ∀ b o, b ≠ P → h₁.get? b = some o → h₀.get? b = some o := fun b o hb e => (B.same.2 b hb).trans e
theorem basedBack {h₁ h₀ : Heap} {c P : Addr} {ps : Array Value} (B : Based h₁ h₀ c P ps) {b : Addr} (e : h₀.get? b = none) : h₁.get? b = none := by
  by_cases hb : b = P
  · subst hb; rw [B.tab.2] at e; cases e
  · exact (B.same.2 b hb).symm.trans e

theorem switch {h₁ h₀ h h' : Heap} {c P L bm : Addr} {ps more : Array Value} {m mg mb mgx : Str → Option Value} {p : Program} {loose : List Str} {K : Frag} {ob : Obj} (B : Based h₁ h₀ c P ps) (F : Fr h₀ L h m) (X : K.In h₀) (hK : kb_classed K = true) (T : TopRead p loose mg mb h₀)
    (M : BMod h₀ mainGlobals mgx bm ob) (hx : ∀ b o, b ≠ P → h.get? b = some o → h'.get? b = some o) (hc' : h'.IsCode c P (ps ++ more)) (ht' : h'.TableAt c P (ps ++ more)) :
    ∃ g, Fr g L h' m ∧ K.In g ∧ TopRead p loose mg mb g ∧ BMod g mainGlobals mgx bm ob ∧ Based h₁ g c P (ps ++ more) := by
  obtain ⟨B', F'⟩ := B.grow F hx hc' ht'
  exact ⟨_, F', kb_in_regrown B X T.g hK, LGe.top_regrown F' T B, M.regrown B, B'⟩
end Mine
end
section
open PySem PySem.W PySem.Calls PyProof.Rows
namespace Mine
open PySem.Builtin PySem.Builtin.Str
open PySem.StrLaws in
theorem at_one {y : PySem.Str} {k : Nat} : At y ⟨#[49]⟩ y.length k ↔ y.cps.toList[k]? = some 49 := by
  have e : ∀ hk : k < y.cps.size, y.cps.extract k (k + 1) = #[y.cps[k]] := fun hk => by
    apply Array.ext
    · simp; omega
    · intro i h1 h2
      have h0 : i = 0 := by simpa using h2
      subst h0
      simp
  show (k + 1 ≤ y.cps.size ∧ (y.cps.extract k (k + 1) == #[49]) = true) ↔ _
  rw [Array.getElem?_toList]
  constructor
  · rintro ⟨h1, h2⟩
    rw [e h1, beq_iff_eq] at h2
    rw [Array.getElem?_eq_getElem h1]
    have := congrArg (fun a => a[0]?) h2
    simpa using this
  · intro h
    have hk : k < y.cps.size := by
      rcases Nat.lt_or_ge k y.cps.size with q | q
      · exact q
      · rw [Array.getElem?_eq_none q] at h; cases h
    rw [Array.getElem?_eq_getElem hk] at h
    cases h' : y.cps[k]
    · rw [h'] at h; cases h
    · refine ⟨hk, ?_⟩
      rw [e hk]
      simpa using h
open PySem.StrLaws in
theorem rfind_one {y : PySem.Str} {xs zs : List Nat} (hy : y.cps.toList = xs ++ [49] ++ zs) (hz : ∀ c ∈ zs, c ≠ 49) : (Txt.rfind y (PySem.Str.ofString "1") : Int) = (xs.length : Int) := by
  have h1 : PySem.Str.ofString "1" = ⟨#[49]⟩ := by decide +kernel
  have yes : At y (PySem.Str.ofString "1") y.length xs.length := by
    rw [h1, at_one, hy]
    simp
  have no : ∀ k, xs.length < k → ¬ At y (PySem.Str.ofString "1") y.length k := by
    intro k hk
    rw [h1, at_one, hy, List.append_assoc, List.getElem?_append_right (Nat.le_of_lt hk)]
    obtain ⟨j, hj⟩ : ∃ j, k - xs.length = j + 1 := ⟨k - xs.length - 1, by omega⟩
    rw [hj]
    intro hc
    simp at hc
    exact hz 49 (List.mem_of_getElem? hc) rfl
  unfold Txt.rfind
  rcases last_spec y (PySem.Str.ofString "1") with ⟨_, h⟩ | ⟨i, e, hi, hk⟩
  · exact absurd yes (h _)
  · rw [e]
    have : i = xs.length := by
      rcases Nat.lt_trichotomy i xs.length with q | q | q
      · exact absurd yes (hk _ q)
      · exact q
      · exact absurd hi (no _ q)
    rw [this]
theorem chs_ne : ∀ d, CH.getD d 0 ≠ 49 := by
  intro d
  by_cases h : d < 32
  · revert d; decide
  · rw [List.getD, List.getElem?_eq_none (by simpa [CH] using h)]; decide
theorem chs_no1 (cs : List Nat) : ∀ c ∈ chs cs, c ≠ 49 := by
  intro c hc
  obtain ⟨d, _, rfl⟩ := List.mem_map.mp hc
  exact chs_ne d

theorem occ_ch : ∀ n, n < 32 → (occurrences (PySem.Str.ofString "qpzry9x8gf2tvdw0s3jn54khce6mua7l") ⟨#[CH.getD n 0]⟩ 0 (PySem.Str.ofString "qpzry9x8gf2tvdw0s3jn54khce6mua7l").length 1) = [n] := by
  rw [charset_is]
  decide +kernel
theorem find_ch {n : Nat} (h : n < 32) : Txt.find (PySem.Str.ofString "qpzry9x8gf2tvdw0s3jn54khce6mua7l") ⟨#[CH.getD n 0]⟩ = (n : Int) := by
  unfold Txt.find
  rw [occ_ch n h]
theorem slice_to {y : PySem.Str} {xs zs : List Nat} (hy : y.cps.toList = xs ++ zs) : (Txt.slice y none (some (xs.length : Int))).cps.toList = xs := by
  show (StrLaws.sliceText y none (some (xs.length : Int))).cps.toList = xs
  rw [StrLaws.sliceText_to (by rw [hy]; simp; omega), hy]
  simp
theorem slice_from {y : PySem.Str} {xs zs : List Nat} {i : Int} (hy : y.cps.toList = xs ++ zs) (hi : i = (xs.length : Int)) : (Txt.slice y (some i) none).cps.toList = zs := by
  subst hi
  show (StrLaws.sliceText y (some (xs.length : Int)) none).cps.toList = zs
  rw [StrLaws.sliceText_from (by rw [hy]; simp; omega), hy]
  simp
  apply List.take_of_length_le
  omega
end Mine
end
section
open PySem PySem.W PySem.Calls PyProof.Rows
set_option linter.unusedSimpArgs false
set_option linter.unusedVariables false
namespace Mine
section
variable {M : Model} {A : Around} {E : Value → Shared → Prop} {s : Shared} {K : Frag} {h₀ : Heap} {L C : Addr} {m mg mb : Str → Option Value} {p : Program} {loose : List Str} {x : Str} {pos : Pos} {v code : Value} {Q : Value → Shared → Prop}
  {scope : Scope} {cl : List (Str × Addr)} {env : Env} {bi : Addr}
theorem gnB' (X : K.In s.heap) (T : TopRead p loose mg mb s.heap) (e : nsIn K mainGlobals x = some none) (hv : bootBuiltins x = some v) (hn : x ≠ "__name__") (h : Q v s)
    (hg : (genEnv scope cl C code bi env).globals = mainGlobals) (hb : (genEnv scope cl C code bi env).builtins = builtinsNs) (hk : (genEnv scope cl C code bi env).scope.kind = .function) (hx : (genEnv scope cl C code bi env).kindOf x = some .globalImplicit) (hd : (x == ("__debug__" : Str)) = false) :
    wpAny M A (eval (.Name x pos) (genEnv scope cl C code bi env)) Q E s :=
  Name_function_global hk hx (loadGlobal_builtin (env := genEnv scope cl C code bi env) (by rw [hg]; exact T.g) (mg_none_of X T.g e) (by rw [hb]; exact T.b) ((T.builtins x hn).trans hv) h) hd
theorem gnG' (X : K.In s.heap) (T : TopRead p loose mg mb s.heap) (e : nsIn K mainGlobals x = some (some v)) (h : Q v s)
    (hg : (genEnv scope cl C code bi env).globals = mainGlobals) (hk : (genEnv scope cl C code bi env).scope.kind = .function) (hx : (genEnv scope cl C code bi env).kindOf x = some .globalImplicit) (hd : (x == ("__debug__" : Str)) = false) :
    wpAny M A (eval (.Name x pos) (genEnv scope cl C code bi env)) Q E s :=
  Name_function_global hk hx (loadGlobal_global (env := genEnv scope cl C code bi env) (by rw [hg]; exact T.g) (mg_of X T.g e) h) hd
theorem gnL (hn : s.heap.Ns C m) (hv : m x = some v) (h : Q v s) (hk : (genEnv scope cl C code bi env).scope.kind = .function) (hx : (genEnv scope cl C code bi env).kindOf x = some .local) (hd : (x == ("__debug__" : Str)) = false) :
    wpAny M A (eval (.Name x pos) (genEnv scope cl C code bi env)) Q E s :=
  wpAny_Name (wpAny_loadName_local (env := genEnv scope cl C code bi env) hk hx hn hv h) hd
end
/-- a small letter or a figure -/
def okc (c : Nat) : Bool := (97 ≤ c && c ≤ 122) || (48 ≤ c && c ≤ 57)
theorem okc_range {c : Nat} (h : okc c = true) : 33 ≤ c ∧ c ≤ 126 := by simp [okc] at h; omega
theorem all_ok {y : Str} (h : ∀ c ∈ y.cps.toList, okc c = true) : y.cps.all (· < 128) = true := by
  rw [Array.all_eq_true]
  intro i hi
  have := okc_range (h y.cps[i] (by simp))
  simp; omega
theorem at_ok {y : Str} (h : ∀ c ∈ y.cps.toList, okc c = true) {i k : Nat} (e : y.cps[i]? = some k) : okc k = true := h k (by
  have := Array.mem_of_getElem? e; simpa using this)

local macro_rules | `(tactic| walk_at "binaryOp LShift int int") => `(tactic| (refine lshift_int_small (by decide) (by decide) (by assumption) ?_))
local macro_rules | `(tactic| walk_at "eval Name") => `(tactic| (k_here; (with_reducible show wpAny _ _ (eval _ (compEnvC _ _ _ _)) _ _ _); k_dflt (first
  | (refine' kcf_cell ?N ?c ?m ?d ?_ ?a ?b ?e; (case a => rfl); (case b => rfl); (case e => decide); (case N => k_asm); (case c => rfl); (case m => k_mem); (case d => k_asm); k_whole)
  | (refine' nmL ?n ?v ?_ ?a ?b ?c; (case a => rfl); (case b => rfl); (case c => decide); (case n => assumption); (case v => assumption); k_whole)
  | (refine' nmB ?F ?X ?T ?e ?v ?n ?_ ?a ?b ?c ?d ?g; (case a => rfl); (case b => rfl); (case c => rfl); (case d => rfl); (case g => decide); (case F => k_asm); (case X => k_asm); (case T => k_asm); (case e => k_is); (case v => boot_fast); (case n => decide); k_whole)
  | (refine' nameG_K ?F ?X ?T ?e ?_ ?a ?b ?c ?d; (case a => rfl); (case b => rfl); (case c => rfl); (case d => decide); (case F => k_asm); (case X => k_asm); (case T => k_asm); (case e => k_is); k_whole))))
local macro_rules | `(tactic| walk_at "eval Name") => `(tactic| (k_here; (with_reducible show wpAny _ _ (eval _ (genEnv _ _ _ _ _ _)) _ _ _); k_dflt (first
  | (refine' gnL ?n ?v ?_ ?a ?b ?c; (case a => rfl); (case b => rfl); (case c => decide); (case n => assumption); (case v => assumption); k_whole)
  | (refine' gnB' ?X ?T ?e ?v ?n ?_ ?a ?b ?c ?d ?g; (case a => rfl); (case b => rfl); (case c => rfl); (case d => rfl); (case g => decide); (case X => assumption); (case T => assumption); (case e => k_is); (case v => boot_fast); (case n => decide); k_whole)
  | (refine' gnG' ?X ?T ?e ?_ ?a ?b ?c ?d; (case a => rfl); (case b => rfl); (case c => rfl); (case d => decide); (case X => assumption); (case T => assumption); (case e => k_is); k_whole))))
local macro_rules | `(tactic| ktr_unf) => `(tactic| (repeat' (first
   | (k_unmd; k_unfold; (try dsimp only))
   | ((fail_if_success (with_reducible show Exists _)); (fail_if_success (with_reducible show Keeps _ _ ∧ _)); (fail_if_success (with_reducible show InvEndN _ _ _ _ _ _ _)); (fail_if_success (with_reducible show KswEnd _ _ _ _ _ _ _ _ _ _ _ _)); (fail_if_success (with_reducible show wpAny _ _ (exec (Stmt.For _ _ _ _ _) _) _ _ _)); (fail_if_success (with_reducible show wpAny _ _ (pyIter _) _ _ _)); (fail_if_success (with_reducible show wpAny _ _ (eval (Expr.GeneratorExp _ _ _ _) _) _ _ _)); (fail_if_success (with_reducible show wpAny _ _ (PySem.call (Value.builtin "any") _) _ _ _)); (fail_if_success (with_reducible show wpAny _ _ (PySem.call (Value.builtin "str.rfind") _) _ _ _)); (fail_if_success (with_reducible show wpAny _ _ (PySem.call (Value.builtin "all") _) _ _ _)); (fail_if_success (with_reducible show wpAny _ _ (PySem.call (Value.ref _) _) _ _ _)); (fail_if_success (with_reducible show wpAny _ _ (exec (Stmt.While _ _ _ _) _) _ _ _)); (fail_if_success (with_reducible show wpAny _ _ (eval (Expr.ListComp _ _ _ _) _) _ _ _)); (fail_if_success (with_reducible show wpAny _ _ (exec (Stmt.Assign _ (Expr.ListComp _ _ _ _) _) _) _ _ _)); walk1))))

set_option maxRecDepth 100000 in
set_option maxHeartbeats 8000000 in
theorem decode_call {w : World} {mg mb mgx : Str → Option Value} {s : Shared} {y : Str} {t : Tok} {xs cs : List Nat} {P bm : Addr} {ob : Obj} {ps : Array Value} {Q E : Value → Shared → Prop}
    (W : Wd w mg mb s.heap) (M : BMod s.heap mainGlobals mgx bm ob) (hc : s.heap.IsCode 47 P ps) (ht : s.heap.TableAt 47 P ps) (hP : P ≠ cStatics) (hb : AllBare s.gens)
    (hy : y.cps.toList = xs ++ [49] ++ chs cs) (hok : ∀ c ∈ y.cps.toList, okc c = true) (hlx : xs.length ≤ 10) (hlx1 : 1 ≤ xs.length) (hlc : cs.length ≤ 60) (hlc6 : 6 ≤ cs.length) (h32 : ∀ n ∈ cs, n < 32)
    (hv : pm (hexp xs ++ cs) = 1)
    (h : ∀ s' Tp l x' t' us more, AllBare s'.gens → s'.os = s.os → (∀ b o, b ≠ P → s.heap.get? b = some o → s'.heap.get? b = some o) → s'.heap.IsCode 47 P (ps ++ more) → s'.heap.TableAt 47 P (ps ++ more) →
      s.heap.get? Tp = none → s'.heap.get? Tp = some { cls := .type "tuple", data := .seq #[.str x' t', .ref l] } → x'.cps.toList = xs → s.heap.get? l = none → LstAt s'.heap l us → IntsAre us (casts (cs.take (cs.length - 6))) → Q (.ref Tp) s') :
    wpAny (model PySem.Challenge.rw_vn0023_01.row.prog w) (Aat 670 2800) (call (.ref 48) [.str y t]) Q E s := by
  have X := W.K
  have T := W.T
  have hstill : KXs.Still y := fun c hc => by have := hok c hc; simp [okc] at this; omega
  have hyl : (y.length : Int) = xs.length + 1 + cs.length := by
    have := congrArg List.length hy
    simp [chs] at this
    show ((y.cps.size : Nat) : Int) = _
    omega
  have hylen : y.length ≤ 5592405 := by omega
  have hcl : kb_classed (hd.heap_39 w.params) = true := by kernel_rfl
  have hB : Based s.heap s.heap 47 P ps := .start hc ht hP
  refine' enter (binds := [(Str.ofString "bech", Value.str y t)]) X T.nolimit ?k1 ?k2 ?k3 ?k4 ?k5 ?k6 ?k7 ?k8 ?k9 ?_
  case k1 => k_is
  case k2 => k_is
  case k3 => decide
  case k4 => exact BindsTo.of_eq rfl
  case k5 => exact locs rfl
  case k6 => rfl
  case k7 => rfl
  case k8 => rfl
  case k9 => decide
  intro h₁ F N
  k_unmd; k_fold
  ktr_unf
  refine gen_made (c := 47) (P := P) (fun _ => false) rfl rfl rfl rfl (by decide) rfl rfl rfl (Nat.le_of_ble_eq_true rfl) ?_ (fun _ => rfl)
  ktr_unf
  refine ⟨y, _, _, _, _, ps, rfl, all_ok hok, hc.keeps F.keep, ht.keeps F.keep, M.keeps F.keep, T.nolimit.keeps F.keep, hb, ?_, ?_⟩
  · intro C code A' E' i k u t' m₂ hA hD hU hk hn hm hkp
    obtain ⟨k1, k2⟩ := okc_range (at_ok hok hk)
    have kk : ∀ b o, b ≠ P → s.heap.get? b = some o → t'.heap.get? b = some o := fun b o hb e => hkp b o hb (F.keep b o e)
    have X' : (hd.heap_39 w.params).In t'.heap := in_but hB X T.g hcl kk
    have T' := top_but hB T kk
    refine weaken 675 2850 ?_ hA (Nat.le_trans hD (Nat.le_of_ble_eq_true rfl)) (Nat.le_trans hU (Nat.le_of_ble_eq_true rfl))
    k_unmd; k_fold
    ktr_unf
    · exact congrArg Value.bool (decide_eq_false (by omega))
    · exact ⟨_, _, rfl, fun _ _ e => e⟩
  intro a s5 more1 X5 hb5 hos5 hk5 hc5 ht5
  k_unmd; k_fold
  ktr_unf
  refine any_made hb5 X5 ?_
  intro s6 hb6 hos6 hk6
  have t1 := ht.keeps F.keep
  obtain ⟨g6, F6, X6, T6, M6, B6⟩ := switch hB F X hcl T M (fun b o hb e => hk6 b o o e (hk5 b o hb e)) (code_moved t1 hc5 hk6) (table_moved t1 ht5 hk6)
  have N6 : News g6 s.heap.objs.size s6.heap [] := News.nil
  have e6 : (List.range y.cps.size).any (fun _ => false) = false := by simp
  rw [e6]
  clear F N X5
  dsimp only at hos5 hos6
  k_unmd; k_fold
  ktr_unf
  all_goals (try (exfalso; (rename (bne y y) = true => hz); simp at hz; done))
  refine KXw.rfind (rfind_one hy (chs_no1 cs)) ?_
  intro t7 k7
  k_unmd; k_fold
  ktr_unf
  refine gen_made (c := 47) (P := P) (fun _ => true) rfl rfl rfl rfl (by decide) rfl rfl rfl (Nat.le_of_ble_eq_true rfl) ?_ (fun _ => rfl)
  ktr_unf
  rename Fr _ _ _ _ => F8
  rename News _ _ _ _ => N8
  rename ((Txt.slice _ _ _).length ≤ _) => hz0
  have hz : (Txt.slice y (some (↑xs.length + 1)) none).cps.toList = chs cs := slice_from (xs := xs ++ [49]) hy (by simp)
  have hzok : ∀ c ∈ (Txt.slice y (some (↑xs.length + 1)) none).cps.toList, okc c = true := by
    rw [hz]; exact fun c hc => hok c (by rw [hy]; simp [hc])
  generalize Txt.slice y (some (↑xs.length + 1)) none = z at hz hzok hz0 ⊢
  refine ⟨z, _, _, _, _, ps ++ more1, rfl, all_ok hzok, B6.codeAt F8, B6.tabAt F8, M6.keeps F8.keep, T6.nolimit.keeps F8.keep, hb6, ?_, ?_⟩
  · intro C code A' E' i k u t' m₂ hA hD hU hk hn hm hkp
    have hkc : k ∈ chs cs := by rw [← hz]; simpa using Array.mem_of_getElem? hk
    have kk : ∀ b o, b ≠ P → g6.get? b = some o → t'.heap.get? b = some o := fun b o hb e => hkp b o hb (F8.keep b o e)
    have X' : (hd.heap_39 w.params).In t'.heap := in_but (basedSelf B6) X6 T6.g hcl kk
    have T' := top_but (basedSelf B6) T6 kk
    refine weaken 675 2850 ?_ hA (Nat.le_trans hD (Nat.le_of_ble_eq_true rfl)) (Nat.le_trans hU (Nat.le_of_ble_eq_true rfl))
    k_unmd; k_fold
    ktr_unf
    · obtain ⟨n, hn, rfl⟩ := List.mem_map.mp hkc
      rw [occ_ch n (h32 n hn)]
      rfl
    · exact ⟨_, _, rfl, fun _ _ e => e⟩
  intro a s9 more2 X9 hb9 hos9 hk9 hc9 ht9
  k_unmd; k_fold
  ktr_unf
  refine all_made hb9 X9 ?_
  intro sA hbA hosA hkA
  have tA := B6.tabAt F8
  obtain ⟨gA, FA, XA, TA, MA, BA⟩ := switch B6 F8 X6 hcl T6 M6 (fun b o hb e => hkA b o o e (hk9 b o hb e)) (code_moved tA hc9 hkA) (table_moved tA ht9 hkA)
  have NA : News gA s.heap.objs.size sA.heap [] := News.nil
  have eA : (List.range z.cps.size).all (fun _ => true) = true := by simp
  rw [eA]
  clear F8 N8 X9
  dsimp only at hos9 hosA
  k_unmd; k_fold
  ktr_unf
  rename ((Txt.slice _ _ _).length ≤ _) => hx0
  have hxx : (Txt.slice y none (some ↑xs.length)).cps.toList = xs := slice_to (zs := [49] ++ chs cs) (by rw [hy]; simp)
  rename Fr _ _ _ _ => FB
  rename News _ _ _ _ => NB
  generalize Txt.slice y none (some ↑xs.length) = x' at hxx hx0 FB ⊢
  refine comp_assign (fun _ => true) (fun _ j y _ => ∃ t, y = .int ((cs.getD j 0 : Nat) : Int) t) (fun _ _ _ _ _ h _ => h) rfl rfl (by decide) rfl (by decide) rfl rfl ?_
  ktr_unf
  rename Fr _ _ _ _ => FC
  rename News _ _ _ _ => NC
  rename ((Txt.slice _ _ _).length ≤ _) => hz0
  have hz2 : (Txt.slice y (some (↑xs.length + 1)) none).cps.toList = chs cs := slice_from (xs := xs ++ [49]) hy (by simp)
  generalize Txt.slice y (some (↑xs.length + 1)) none = z2 at hz2 hz0 ⊢
  have hsz2 : z2.cps.size = cs.length := by have := congrArg List.length hz2; simpa [chs] using this
  refine ⟨z2.cps.size, _, _, by rw [sizeLine_eq, hsz2]; omega, FC.ns, it_str rfl, turn_name (by decide) rfl ?_, ?_⟩
  · rintro i v C bad s₄ m₄ E' hi ⟨k, u, hk, rfl⟩ hn hx4 hC hkp hbad hCb ⟨h4, tk4, rfl⟩
    dsimp only at hn hkp
    have F4 : Fr gA s.heap.objs.size h4 _ := FC.keeps hkp
    have N4 : News gA s.heap.objs.size h4 _ := NC.grown hkp
    have hk2 : (chs cs)[i]? = some k := by rw [← hz2, Array.getElem?_toList]; exact hk
    obtain ⟨n, hn1, rfl⟩ : ∃ n, cs[i]? = some n ∧ k = CH.getD n 0 := by
      simp only [chs, List.getElem?_map, Option.map_eq_some_iff] at hk2
      obtain ⟨n, e1, e2⟩ := hk2
      exact ⟨n, e1, e2.symm⟩
    k_unmd; k_fold
    ktr_unf
    refine ⟨⟨_, _, rfl, fun _ _ e => e⟩, ?_⟩
    rw [find_ch (h32 n (List.mem_of_getElem? hn1))]
    refine ⟨tk4, ?_⟩
    rw [List.getD, hn1]
    rfl
  · intro D bad h' tk' ys hD hl hP hNs hkD
    dsimp only at hD hNs hkD
    rw [filter_true] at hP
    have I8 := ints_of_paired hP
    have FD : Fr gA s.heap.objs.size h' _ := ⟨hNs, fun b o e => hkD b o (Nat.ne_of_lt (Nat.lt_of_lt_of_le (Heap.lt_size e) FC.above)) (FC.keep b o e), FC.above⟩
    have ND : News gA s.heap.objs.size h' [(D, LCg.lst ys)] := by
      intro p hp
      rw [List.mem_singleton.mp hp]
      refine ⟨hl, ?_, none_of_keeps FC.keep hD⟩
      rintro rfl
      obtain ⟨o', _, _, e, _⟩ := FC.ns
      rw [hD] at e; cases e
    k_unmd
    try k_unfold
    dsimp only
    try k_fold
    ktr_unf
    have eI : casts ((List.range z2.cps.size).map fun j => cs.getD j 0) = casts cs := by rw [hsz2]; exact congrArg casts ((map_range_getD cs 0 id).trans (List.map_id cs))
    have I9 : IntsAre ys (casts cs) := by rw [← eI]; simpa [casts, List.map_map, Function.comp_def] using I8
    clear I8 hP
    refine weaken 680 2900 (verify_call (Wd.of XA TA FD) (by show x'.length ≤ 100; have := congrArg List.length hxx; simp at this; show x'.cps.size ≤ 100; omega) (isList_lst hl) I9 (by omega) ?_) rfl (Nat.le_of_ble_eq_true rfl) (Nat.le_of_ble_eq_true rfl)
    intro hE tkE hkE
    rw [hxx, decide_eq_true hv]
    have FE := FD.keeps hkE
    have NE := ND.grown hkE
    clear FD ND
    k_unmd
    try k_unfold
    dsimp only
    try k_fold
    ktr_unf
    rename Fr _ _ _ _ => FF
    rename News _ _ _ _ => NF
    rename IntsAre _ (List.take _ _) => IF
    refine h _ _ _ x' _ _ (more1 ++ more2) hbA (hosA.trans (hos9.trans (hos6.trans hos5))) (fun b o hb e => FF.keep _ _ (basedTo BA b o hb e)) ?_ ?_ (basedBack BA (NF _ (.head _)).2.2) (NF.get (.head _)) hxx
      (basedBack BA (NF _ (.tail _ (.head _))).2.2) ⟨0, NF.get (.tail _ (.head _))⟩ ?_
    · have := BA.codeAt FF
      rwa [Array.append_assoc] at this
    · have := BA.tabAt FF
      rwa [Array.append_assoc] at this
    · have e : casts (cs.take (cs.length - 6)) = (casts cs).take ((casts cs).length - 6) := by simp [casts, List.map_take]
      rw [e]; exact IF
end Mine
end
section
open PySem PySem.W PySem.Calls PyProof.Rows
set_option linter.unusedSimpArgs false
set_option linter.unusedVariables false
set_option maxRecDepth 100000
namespace Mine
abbrev tbl (ps : Array Value) : Obj := { cls := .none, data := .fields ps }
/-- a heap with the table P taken out -/
def bare (h : Heap) (P : Addr) : Heap := h.update P fun _ => { cls := .none, data := .freed }
theorem bare_other {h : Heap} {P b : Addr} (hb : b ≠ P) : (bare h P).get? b = h.get? b := Heap.get?_update_other _ _ (Ne.symm hb)
theorem bare_none {h : Heap} {P : Addr} : (bare h P).get? P = none := by
  cases e : (bare h P).get? P with
  | none => rfl
  | some o =>
    obtain ⟨e1, e2⟩ := Heap.get?_some_iff.mp e
    unfold bare at e1
    cases h
    simp only [Heap.update, Array.getElem?_modify, if_true] at e1
    rename_i objs life
    cases hx : objs[P]? with
    | none => rw [hx] at e1; cases e1
    | some x => rw [hx] at e1; cases e1; cases e2
theorem bare_size {h : Heap} {P : Addr} : (bare h P).objs.size = h.objs.size := (Heap.SameBut.update h P _).1
theorem bare_to {h : Heap} {P b : Addr} {o : Obj} (e : (bare h P).get? b = some o) : b ≠ P ∧ h.get? b = some o := by
  by_cases hb : b = P
  · subst hb; rw [bare_none] at e; cases e
  · exact ⟨hb, (bare_other hb).symm.trans e⟩
theorem bare_back {h : Heap} {P b : Addr} {ps : Array Value} (hb : b ≠ P) (e : (bare h P).get? b = none) : h.get? b = none := (bare_other hb).symm.trans e
theorem to_bare {h₀ h : Heap} {L P : Addr} {m : Str → Option Value} {news : List (Addr × Obj)} {ps : Array Value} (F : Fr h₀ L h m) (N : News h₀ L h news) (ht : h₀.get? P = some (tbl ps)) :
    Fr (bare h₀ P) L h m ∧ News (bare h₀ P) L h (news ++ [(P, tbl ps)]) := by
  refine ⟨⟨F.ns, fun b o e => F.keep b o (bare_to e).2, by rw [bare_size]; exact F.above⟩, fun p hp => ?_⟩
  rcases List.mem_append.mp hp with hp | hp
  · obtain ⟨a, b, c⟩ := N p hp
    refine ⟨a, b, ?_⟩
    by_cases hb : p.1 = P
    · rw [hb]; exact bare_none
    · rw [bare_other hb]; exact c
  · rw [List.mem_singleton.mp hp]
    exact ⟨F.keep _ _ ht, Nat.ne_of_lt (Nat.lt_of_lt_of_le (Heap.lt_size ht) F.above), bare_none⟩
theorem code_at {h₀ h : Heap} {P : Addr} {ps₀ ps : Array Value} (c : h₀.IsCode 47 P ps₀) (t : h₀.TableAt 47 P ps₀) (k : ∀ b o, (bare h₀ P).get? b = some o → h.get? b = some o) (hp : h.get? P = some (tbl ps)) (ok : TriplesOk ps.toList) :
    h.IsCode 47 P ps ∧ h.TableAt 47 P ps := by
  obtain ⟨o, vs, file, tf, flags, tg, inF, text, tt, op, a, r1, r2, r3, r4, r5, r6, b, r7, r8, r9⟩ := c
  obtain ⟨⟨o', vs', e', r'⟩, _⟩ := t
  exact ⟨⟨o, vs, file, tf, flags, tg, inF, text, tt, _, k _ _ ((bare_other r9).trans a), r1, r2, r3, r4, r5, r6, hp, rfl, ok, r9⟩, ⟨⟨o', vs', k _ _ ((bare_other r9).trans e'), r'⟩, hp⟩⟩
theorem triples_of {h : Heap} {c P : Addr} {ps : Array Value} (x : h.IsCode c P ps) : TriplesOk ps.toList := by
  obtain ⟨o, vs, file, tf, flags, tg, inF, text, tt, op, a, r1, r2, r3, r4, r5, r6, b, r7, r8, r9⟩ := x
  exact r8

section
variable {prog : Program} {w : World} {A : Around} {E : Value → Shared → Prop} {s : Shared} {env : Env}

/-- how a turn of a loop may end -/
def TurnEnd (B0 : Heap) (L I : Addr) (it : Obj) (T : Nat → (Str → Option Value) → List (Addr × Obj) → Array GenState → OsState → Prop) (Q : Flow → Shared → Prop) (i : Nat) (f : Flow) (s : Shared) : Prop :=
  match f with
  | .next | .cont => ∃ m news, T i m news s.gens s.os ∧ (∀ p ∈ news, p.1 ≠ I) ∧ Fr B0 L s.heap m ∧ News B0 L s.heap ((I, it) :: news)
  | .brk => False
  | .ret v => Q (.ret v) s

abbrev rangeIt (i n : Nat) : Obj := { cls := .type "range_iterator", dict := none, data := .fields #[rawInt (i : Int), rawInt ((n : Int) - (i : Int)), rawInt 1], slots := #[] }

theorem for_range {x : Str} {px pos : Pos} {iter : Expr} {body : List Stmt} {Q : Flow → Shared → Prop} {B0 : Heap} (T : Nat → (Str → Option Value) → List (Addr × Obj) → Array GenState → OsState → Prop)
    (hh : A.handled = none) (hx : env.kindOf x = some .local) (hp : (env.scope.kind == .class || (env.scope.kind == .module && env.locals != env.globals)) = false)
    (h : wpAny (model prog w) A (eval iter env) (fun xv s₁ => ∃ r b t u v, ∃ n : Nat, ∃ m news, xv = .ref r ∧ IsRange s₁.heap r 0 b 1 t u v ∧ Builtin.Range.small 0 b 1 = true ∧ Builtin.Range.rangeSize 0 b 1 = (n : Int) ∧
      Fr B0 env.locals s₁.heap m ∧ News B0 env.locals s₁.heap news ∧ T 0 m news s₁.gens s₁.os ∧
      (∀ (i : Nat) m news tk s₂ I (E' : Value → Shared → Prop), i < n → T i m news s₂.gens s₂.os → (∀ p ∈ news, p.1 ≠ I) → Fr B0 env.locals s₂.heap (fun y => if y = x then some (.int (i : Int) tk) else m y) → News B0 env.locals s₂.heap ((I, rangeIt (i + 1) n) :: news) →
        wpAny (model prog w) A (execs body env) (TurnEnd B0 env.locals I (rangeIt (i + 1) n) T Q (i + 1)) E' s₂) ∧
      ∀ m news s₂, T n m news s₂.gens s₂.os → Fr B0 env.locals s₂.heap m → News B0 env.locals s₂.heap news → Q .next s₂) E s)
    (hs : ∀ x, foldedSetIterable iter env x = pure x := by intro _; rfl) :
    wpAny (model prog w) A (exec (.For (.Name x px) iter body [] pos) env) Q E s := by
  refine wpAny_For (wpAny_mono h (fun xv s₁ h₁ => ?_) fun _ _ e => e) hs
  obtain ⟨r, b, t, u, v, n, m, news, rfl, hr, hsm, hn, F, N, hT, step, fin⟩ := h₁
  refine wpAny_pyIter_range hr hsm ?_
  have hI : s₁.heap.get? s₁.heap.objs.size = none := none_ge (Nat.le_refl _)
  have hIB : B0.get? s₁.heap.objs.size = none := none_of_keeps F.keep hI
  have hIL : s₁.heap.objs.size ≠ env.locals := Nat.ne_of_gt F.ns.lt
  refine codeAny_forLoop (fun k s' => ∃ i m' news', k = n + 1 - i ∧ i ≤ n ∧ T i m' news' s'.gens s'.os ∧ (∀ p ∈ news', p.1 ≠ s₁.heap.objs.size) ∧ Fr B0 env.locals s'.heap m' ∧ News B0 env.locals s'.heap ((s₁.heap.objs.size, rangeIt i n) :: news')) ?_ (n + 1)
    ⟨0, m, news, rfl, Nat.zero_le _, hT, (fun p hp => Nat.ne_of_lt (Heap.lt_size (N p hp).1)), F.push _, fun p hp => ?_⟩
  · rintro k s' ⟨i, m', news', rfl, hi, hT', hnI, F', N'⟩
    have hit : IsRangeIter s'.heap s₁.heap.objs.size (i : Int) ((n : Int) - (i : Int)) 1 := N'.get (.head _)
    by_cases hlt : i < n
    · refine wpAny_pyNext_range_item hit (by omega) fun h₁ hit₁ hs₁ => ?_
      have e1 : (i : Int) + 1 = ((i + 1 : Nat) : Int) := by omega
      have e2 : (n : Int) - (i : Int) - 1 = (n : Int) - ((i + 1 : Nat) : Int) := by omega
      rw [e1, e2] at hit₁
      refine wpAny_assign_Name (wpAny_storeName_local hx (F'.ns.sameBut hs₁ (Ne.symm hIL)) (fun h₂ hn₂ hs₂ => ?_) hp)
      have kB : ∀ b o, B0.get? b = some o → h₂.get? b = some o := fun b o e => hs₂.extBut b o (Nat.ne_of_lt (Nat.lt_of_lt_of_le (Heap.lt_size e) F'.above)) (hs₁.extBut b o (fun q => by subst q; rw [hIB] at e; cases e) (F'.keep b o e))
      refine wpAny_mono (step i m' news' _ _ s₁.heap.objs.size _ hlt hT' hnI ⟨hn₂, kB, F'.above⟩ (fun p hp => ?_)) (fun f s₃ h₃ => ?_) fun _ _ e => e
      · rcases List.mem_cons.mp hp with rfl | hp
        · exact ⟨(hs₂.2 _ hIL).trans hit₁, hIL, hIB⟩
        · obtain ⟨a, c, d⟩ := N' p (.tail _ hp)
          exact ⟨hs₂.extBut _ _ c (hs₁.extBut _ _ (hnI p hp) a), c, d⟩
      · cases f with
        | next => obtain ⟨m2, n2, a, b, c, d⟩ := h₃; exact ⟨n + 1 - (i + 1), by omega, i + 1, m2, n2, rfl, hlt, a, b, c, d⟩
        | cont => obtain ⟨m2, n2, a, b, c, d⟩ := h₃; exact ⟨n + 1 - (i + 1), by omega, i + 1, m2, n2, rfl, hlt, a, b, c, d⟩
        | brk => exact h₃.elim
        | ret v => exact h₃
    · have hin : i = n := by omega
      subst hin
      refine wpAny_pyNext_range_end hh hit (by omega) fun h₁ he₁ => wpAny_execs_nil ?_
      refine fin m' news' _ hT' ⟨F'.ns.extBut he₁ (Ne.symm hIL), fun b o e => he₁ b o (fun q => by subst q; rw [hIB] at e; cases e) (F'.keep b o e), F'.above⟩ fun p hp => ?_
      obtain ⟨a, c, d⟩ := N' p (.tail _ hp)
      exact ⟨he₁ _ _ (hnI p hp) a, c, d⟩
  · rcases List.mem_cons.mp hp with rfl | hp
    · refine ⟨?_, hIL, hIB⟩
      show (s₁.heap.push _).get? s₁.heap.objs.size = some (rangeIt 0 n)
      rw [hn]
      simpa [rangeIt] using Heap.get?_push_size s₁.heap (o := rangeIt 0 n) rfl
    · obtain ⟨a, c, d⟩ := N p hp
      exact ⟨Heap.get?_push_of_some _ a, c, d⟩
end
end Mine
end
section
open PySem PySem.W PySem.Calls PyProof.Rows
set_option linter.unusedSimpArgs false
set_option linter.unusedVariables false
set_option maxRecDepth 100000
namespace Mine
/-- the ground of the law: a base without the table P -/
structure Gd (w : World) (mg mb : Str → Option Value) (B0 : Heap) (P : Addr) : Prop where
  K : (hd.heap_39 w.params).In B0
  T : TopRead hd.view_39 Lo mg mb B0
  M : ∃ mgx bm ob, BMod B0 mainGlobals mgx bm ob
  code : ∀ (h : Heap) ps, (∀ b o, B0.get? b = some o → h.get? b = some o) → h.get? P = some (tbl ps) → TriplesOk ps.toList → h.IsCode 47 P ps ∧ h.TableAt 47 P ps
  ne : P ≠ cStatics
  none : B0.get? P = Option.none

theorem gd_of {w : World} {mg mb mgx : Str → Option Value} {h : Heap} {P bm : Addr} {ob : Obj} {ps : Array Value} (W : Wd w mg mb h) (M : BMod h mainGlobals mgx bm ob) (hc : h.IsCode 47 P ps) (ht : h.TableAt 47 P ps) (hP : P ≠ cStatics) : Gd w mg mb (bare h P) P := by
  have hcl : kb_classed (hd.heap_39 w.params) = true := by kernel_rfl
  have hB : Based h h 47 P ps := .start hc ht hP
  have hk : ∀ b o, b ≠ P → h.get? b = some o → (bare h P).get? b = some o := fun b o hb e => (bare_other hb).trans e
  exact ⟨in_but hB W.K W.T.g hcl hk, top_but hB W.T hk, ⟨_, _, _, M.extBut ht hk⟩, fun h' ps' k hp ok => code_at hc ht k hp ok, hP, bare_none⟩

theorem decode_led {w : World} {mg mb m : Str → Option Value} {B0 : Heap} {L P : Addr} {s : Shared} {y : Str} {t : Tok} {xs cs : List Nat} {ps : Array Value} {news : List (Addr × Obj)} {Q E : Value → Shared → Prop}
    (G : Gd w mg mb B0 P) (F : Fr B0 L s.heap m) (N : News B0 L s.heap news) (hmem : (P, tbl ps) ∈ news) (ok : TriplesOk ps.toList) (hb : AllBare s.gens)
    (hy : y.cps.toList = xs ++ [49] ++ chs cs) (hok : ∀ c ∈ y.cps.toList, okc c = true) (hlx : xs.length ≤ 10) (hlx1 : 1 ≤ xs.length) (hlc : cs.length ≤ 60) (hlc6 : 6 ≤ cs.length) (h32 : ∀ n ∈ cs, n < 32)
    (hv : pm (hexp xs ++ cs) = 1)
    (h : ∀ s' Tp l x' t' us n ps', AllBare s'.gens → s'.os = s.os → TriplesOk ps'.toList → (∃ more, ps' = ps ++ more) → Fr B0 L s'.heap m →
      (∀ news0, News B0 L s.heap news0 → (∀ p ∈ news0, p.1 ≠ P) → News B0 L s'.heap ((Tp, { cls := .type "tuple", data := .seq #[.str x' t', .ref l] }) :: (l, PySem.W.listOf us.toArray n) :: (P, tbl ps') :: news0)) →
      (∀ b o, b ≠ P → s.heap.get? b = some o → s'.heap.get? b = some o) →
      x'.cps.toList = xs → IntsAre us (casts (cs.take (cs.length - 6))) → s.heap.get? Tp = Option.none → s.heap.get? l = Option.none → Q (.ref Tp) s') :
    wpAny (model PySem.Challenge.rw_vn0023_01.row.prog w) (Aat 670 2800) (call (.ref 48) [.str y t]) Q E s := by
  obtain ⟨mgx, bm, ob, M⟩ := G.M
  obtain ⟨hc, ht⟩ := G.code _ _ F.keep (N.get hmem) ok
  refine decode_call ⟨G.K.keeps F.keep, G.T.keeps F.keep⟩ (M.keeps F.keep) hc ht G.ne hb hy hok hlx hlx1 hlc hlc6 h32 hv ?_
  rintro s' Tp l x' t' us more hb' hos hk hc' ht' hTn hT hx hln ⟨n, hl⟩ hus
  have hLP : L ≠ P := Ne.symm (N _ hmem).2.1
  have hPs : s.heap.get? P = some (tbl ps) := N.get hmem
  have F' : Fr B0 L s'.heap m := ⟨F.ns.extBut hk hLP, fun b o e => hk b o (fun q => by subst q; rw [G.none] at e; cases e) (F.keep b o e), F.above⟩
  obtain ⟨oL, _, _, eL, _⟩ := id F.ns
  refine h s' Tp l x' t' us n (ps ++ more) hb' hos (triples_of hc') ⟨more, rfl⟩ F' (fun news0 N0 hne p hp => ?_) hk hx hus hTn hln
  rcases List.mem_cons.mp hp with rfl | hp
  · exact ⟨hT, (fun q => by rw [show Tp = L from q, eL] at hTn; cases hTn), none_of_keeps F.keep hTn⟩
  · rcases List.mem_cons.mp hp with rfl | hp
    · exact ⟨hl, (fun q => by rw [show l = L from q, eL] at hln; cases hln), none_of_keeps F.keep hln⟩
    · rcases List.mem_cons.mp hp with rfl | hp
      · exact ⟨ht'.2, Ne.symm hLP, G.none⟩
      · obtain ⟨a, c, d⟩ := N0 p hp
        exact ⟨hk _ _ (hne p hp) a, c, d⟩
end Mine
end
section
open PySem PySem.W PySem.Calls PyProof.Rows
set_option linter.unusedSimpArgs false
set_option linter.unusedVariables false
namespace Mine
local macro_rules | `(tactic| walk_at "binaryOp LShift int int") => `(tactic| (refine lshift_int_small (by decide) (by decide) (by assumption) ?_))
local macro_rules | `(tactic| walk_at "eval Name") => `(tactic| (k_here; (with_reducible show wpAny _ _ (eval _ (compEnvC _ _ _ _)) _ _ _); k_dflt (first
  | (refine' kcf_cell ?N ?c ?m ?d ?_ ?a ?b ?e; (case a => rfl); (case b => rfl); (case e => decide); (case N => k_asm); (case c => rfl); (case m => k_mem); (case d => k_asm); k_whole)
  | (refine' nmL ?n ?v ?_ ?a ?b ?c; (case a => rfl); (case b => rfl); (case c => decide); (case n => assumption); (case v => assumption); k_whole)
  | (refine' nmB ?F ?X ?T ?e ?v ?n ?_ ?a ?b ?c ?d ?g; (case a => rfl); (case b => rfl); (case c => rfl); (case d => rfl); (case g => decide); (case F => k_asm); (case X => k_asm); (case T => k_asm); (case e => k_is); (case v => boot_fast); (case n => decide); k_whole)
  | (refine' nameG_K ?F ?X ?T ?e ?_ ?a ?b ?c ?d; (case a => rfl); (case b => rfl); (case c => rfl); (case d => decide); (case F => k_asm); (case X => k_asm); (case T => k_asm); (case e => k_is); k_whole))))
local macro_rules | `(tactic| ktr_unf) => `(tactic| (repeat' (first
   | (k_unmd; k_unfold; (try dsimp only))
   | ((fail_if_success (with_reducible show Exists _)); (fail_if_success (with_reducible show Keeps _ _ ∧ _)); (fail_if_success (with_reducible show InvEndN _ _ _ _ _ _ _)); (fail_if_success (with_reducible show KswEnd _ _ _ _ _ _ _ _ _ _ _ _)); (fail_if_success (with_reducible show wpAny _ _ (exec (Stmt.For _ _ _ _ _) _) _ _ _)); (fail_if_success (with_reducible show wpAny _ _ (pyIter _) _ _ _)); (fail_if_success (with_reducible show wpAny _ _ (PySem.call (Value.ref _) _) _ _ _)); (fail_if_success (with_reducible show wpAny _ _ (exec (Stmt.While _ _ _ _) _) _ _ _)); (fail_if_success (with_reducible show wpAny _ _ (eval (Expr.ListComp _ _ _ _) _) _ _ _)); walk1))))
local macro_rules | `(tactic| walk_at "getAttr ref") => `(tactic| (k_here; k_dflt (refine' get_own ?k1 ?k2 ?k3 ?k4 ?k5 ?k6 ?k7 ?k8 ?k9 ?_; (case k1 => k_asm); (case k2 => k_asm); (case k3 => exact ⟨Fr.keep (by k_asm) _ _ (by assumption), rfl, rfl, Fr.keep (by k_asm) _ _ (by assumption)⟩); (case k4 => k_is); (case k5 => k_is); (case k6 => k_is); (case k7 => k_is); (case k8 => k_get); (case k9 => k_handed); k_whole)))


theorem weakenC {M : Model} {A : Around} {c : Code} {R : Result → Shared → Prop} {s : Shared} (d u : Nat)
    (h : codeAny M (Aat d u) c R s) (hh : A.handled = none) (hd : A.depth ≤ d) (hu : A.units ≤ u) : codeAny M A c R s :=
  fun Γ p hc hΓ => h Γ p hc ⟨hΓ.1.trans hh, Nat.le_trans hΓ.2.1 hd, (fun _ e => nomatch e), (fun _ e => nomatch e), Nat.le_trans hΓ.2.2.2.2 hu⟩

theorem enterCode {prog : Program} {w : World} {d u : Nat} {s : Shared} {K : Frag} {R : Result → Shared → Prop} {name qual : Str} {params : Arguments} {body : List Stmt} {scope : Scope} {dV kV doc pm cdv ct oc : Value} {an od : Option Addr} {osl : Array (Option Value)} {f : Addr} {args : List Value} {binds : List (Str × Value)}
    (X : K.In s.heap) (hlim : s.heap.NoLimit)
    (ho : K.lookup f = some ⟨oc, od, .func (fnOf name qual params body scope dV kV doc pm an cdv ct), osl⟩) (hcd : codeIn K cdv qual = true) (hroom : d < recursionLimit)
    (hbind : BindsTo s (fnOf name qual params body scope dV kV doc pm an cdv ct) ⟨args, []⟩ binds) (hloc : ∀ y ∈ binds, scope.names.lookup y.1 = some .local)
    (hco : scope.isCoroutine = false) (hgen : scope.isGenerator = false) (hk : scope.kind = .function) (hcell : ∀ x ∈ scope.names, x.2 ≠ .cell)
    (h : ∀ h₁, h₁.Ns s.heap.objs.size (fun y => binds.reverse.lookup y) → (∀ b o, s.heap.get? b = some o → h₁.get? b = some o) →
      wpAny (model prog w) ((Aat d u).deeper (envOf qual scope s.heap.objs.size f cdv)) (execs body (envOf qual scope s.heap.objs.size f cdv))
        (fun fl s' => R (.ok (.ret (match fl with | .ret v => v | _ => .none))) s') (fun _ _ => False) { s with heap := h₁, toks := s.toks + binds.length }) :
    codeAny (model prog w) (Aat d u) (.call (.ref f) ⟨args, []⟩) R s := by
  refine codeAny_call_def (fd := fnOf name qual params body scope dV kV doc pm an cdv ct) (body := body) (binds := binds) hroom (X _ _ ho) rfl hlim (codeRec_of X hcd) rfl hbind hcell hloc (fun h₁ hns hk₁ => ?_) hco hgen hk
  exact wpAny_mono (h h₁ hns hk₁) (fun _ _ x => x) fun _ _ x => x.elim

set_option maxRecDepth 100000 in
set_option maxHeartbeats 8000000 in
theorem init_code {w : World} {mg mb m : Str → Option Value} {B0 : Heap} {L x dx : Addr} {s : Shared} {sz : Nat} {t : Tok} {news : List (Addr × Obj)} {R : Result → Shared → Prop}
    (X : (hd.heap_39 w.params).In B0) (T : TopRead hd.view_39 Lo mg mb B0) (F : Fr B0 L s.heap m) (N : News B0 L s.heap ((x, instObj 157 dx) :: (dx, dictOf [] 0) :: news)) (hlt : dx < x) (hdn : ∀ p ∈ news, p.1 < dx)
    (h : ∀ h' tk hsh tk1 tv kk, Fr B0 L h' m → News B0 L h' ((x, instObj 157 dx) :: (dx, selfDict sz hsh tk1 tv kk) :: news) → R (.ok (.ret .none)) { s with heap := h', toks := tk }) :
    codeAny (model PySem.Challenge.rw_vn0023_01.row.prog w) (Aat 690 3000) (.call (.ref 140) ⟨[.ref x, .int (sz : Int) t], []⟩) R s := by
  refine' enterCode (binds := [(Str.ofString "self", Value.ref x), (Str.ofString "length", Value.int (sz : Int) t)]) (X.keeps F.keep) (T.nolimit.keeps F.keep) ?k1 ?k2 ?k3 ?k4 ?k5 ?k6 ?k7 ?k8 ?k9 ?_
  case k1 => k_is
  case k2 => k_is
  case k3 => decide
  case k4 => first | exact BindsTo.of_eq rfl | exact binds_K (X.keeps F.keep) rfl (by k_is) rfl rfl rfl
  case k5 => exact locs rfl
  case k6 => rfl
  case k7 => rfl
  case k8 => rfl
  case k9 => decide
  intro h₁ hns hk₁
  obtain ⟨oL, esL, epL, eL, rL⟩ := id F.ns
  have F1 : Fr B0 s.heap.objs.size h₁ _ := ⟨hns, fun b o e => hk₁ _ _ (F.keep b o e), Nat.le_trans F.above (Nat.le_of_lt F.ns.lt)⟩
  have LB : B0.get? L = none := none_ge F.above
  have N1 : News B0 s.heap.objs.size h₁ ((x, instObj 157 dx) :: (dx, dictOf [] 0) :: (L, oL) :: news) := by
    have up : ∀ p ∈ (x, instObj 157 dx) :: (dx, dictOf [] 0) :: news, h₁.get? p.1 = some p.2 ∧ p.1 ≠ s.heap.objs.size ∧ B0.get? p.1 = none := fun p hp => by
      obtain ⟨a, b, c⟩ := N p hp
      exact ⟨hk₁ _ _ a, Nat.ne_of_lt (Heap.lt_size a), c⟩
    intro p hp
    rcases List.mem_cons.mp hp with rfl | hp
    · exact up _ (.head _)
    · rcases List.mem_cons.mp hp with rfl | hp
      · exact up _ (.tail _ (.head _))
      · rcases List.mem_cons.mp hp with rfl | hp
        · exact ⟨hk₁ _ _ eL, Nat.ne_of_lt (Heap.lt_size eL), LB⟩
        · exact up _ (.tail _ (.tail _ hp))
  have hNL : ∀ p ∈ (x, instObj 157 dx) :: (dx, dictOf [] 0) :: news, p.1 ≠ L := fun p hp => (N p hp).2.1
  clear hns hk₁
  k_unmd; k_fold
  ktr_unf
  have hall : ∀ p ∈ (L, oL) :: news, p.1 ≠ dx := fun p hp => by
    rcases List.mem_cons.mp hp with rfl | hp
    · exact Ne.symm (N _ (.tail _ (.head _))).2.1
    · exact Nat.ne_of_lt (hdn p hp)
  have hxd : x ≠ dx := Nat.ne_of_gt hlt
  (refine' set_dict ?k1 ?k2 ?k3 ?k4 ?k5 ?k6 ?k7 ?k8 ?k9 ?k10 ?k11 ?k12 ?k13 ?_; (case k1 => k_asm); (case k2 => k_asm); (case k3 => exact N1); (case k4 => k_inst); (case k5 => exact rfl); (case k6 => k_is); (case k7 => k_is); (case k8 => k_is); (case k9 => k_is); (case k10 => k_get); (case k11 => k_put); (case k12 => exact Upd.tail hxd (Upd.head hall)); (case k13 => exact Nat.le_of_ble_eq_true rfl)); intro h' F' N'
  k_unmd
  try k_unfold
  try dsimp only
  ktr_unf
  rename News _ _ _ _ => N9
  rename Fr _ _ _ _ => F9
  have key : ∀ o, h'.get? dx = some o → News B0 L h' ((x, instObj 157 dx) :: (dx, o) :: news) := fun o e p hp => by
    rcases List.mem_cons.mp hp with rfl | hp
    · exact ⟨N9.get (.head _), (N _ (.head _)).2.1, (N _ (.head _)).2.2⟩
    · rcases List.mem_cons.mp hp with rfl | hp
      · exact ⟨e, (N _ (.tail _ (.head _))).2.1, (N _ (.tail _ (.head _))).2.2⟩
      · exact ⟨(N9 _ (.tail _ (.tail _ (.tail _ hp)))).1, (N _ (.tail _ (.tail _ hp))).2.1, (N _ (.tail _ (.tail _ hp))).2.2⟩
  exact h _ _ _ _ _ _ ⟨⟨oL, esL, epL, N9.get (.tail _ (.tail _ (.head _))), rL⟩, F9.keep, F.above⟩ (key _ (N9.get (.tail _ (.head _))))

set_option maxRecDepth 100000 in
set_option maxHeartbeats 8000000 in
theorem kind_led {w : World} {mg mb m : Str → Option Value} {B0 : Heap} {L : Addr} {s : Shared} {sz : Nat} {t : Tok} {news : List (Addr × Obj)} {Q E : Value → Shared → Prop}
    (X : (hd.heap_39 w.params).In B0) (T : TopRead hd.view_39 Lo mg mb B0) (F : Fr B0 L s.heap m) (N : News B0 L s.heap news)
    (h : ∀ x dx h' tk hsh tk1 tv kk, Fr B0 L h' m → News B0 L h' ((x, instObj 157 dx) :: (dx, selfDict sz hsh tk1 tv kk) :: news) → (∀ p ∈ news, p.1 < dx) → dx < x → Q (.ref x) { s with heap := h', toks := tk }) :
    wpAny (model PySem.Challenge.rw_vn0023_01.row.prog w) (Aat 680 2900) (call (.ref 157) [.int (sz : Int) t]) Q E s := by
  refine' call_cls F X N ?k4 ?k5 ?k6 ?_
  case k4 => k_is
  case k5 => k_is
  case k6 => k_is
  intro x dx h' F' N' l1 l2
  refine weakenC 690 3000 (init_code X T F' N' l2 l1 ?_) rfl (Nat.le_of_ble_eq_true rfl) (Nat.le_of_ble_eq_true rfl)
  intro h2 tk hsh tk1 tv kk F2 N2
  exact ⟨rfl, h x dx h2 tk hsh tk1 tv kk F2 N2 l1 l2⟩
end Mine
end
section
open PySem PySem.W PySem.Calls PyProof.Rows
set_option linter.unusedSimpArgs false
set_option linter.unusedVariables false
namespace Mine
theorem after_comp {B0 h1 h' : Heap} {L D : Addr} {m m' : Str → Option Value} {news : List (Addr × Obj)} {o : Obj} (F : Fr B0 L h1 m) (N : News B0 L h1 news) (hNs : h'.Ns L m')
    (hk : ∀ b o, b ≠ L → h1.get? b = some o → h'.get? b = some o) (hD : h1.get? D = none) (hl : h'.get? D = some o) : Fr B0 L h' m' ∧ News B0 L h' ((D, o) :: news) := by
  refine ⟨⟨hNs, fun b o e => hk b o (Nat.ne_of_lt (Nat.lt_of_lt_of_le (Heap.lt_size e) F.above)) (F.keep b o e), F.above⟩, fun p hp => ?_⟩
  rcases List.mem_cons.mp hp with rfl | hp
  · refine ⟨hl, ?_, none_of_keeps F.keep hD⟩
    rintro rfl
    obtain ⟨o', _, _, e, _⟩ := F.ns
    rw [hD] at e; cases e
  · obtain ⟨a, b, c⟩ := N p hp
    exact ⟨hk _ _ b a, b, c⟩
theorem paired4 {F : Nat → Value → Prop} {ys : List Value} (h : Paired F (List.range 4) ys) : ∃ y0 y1 y2 y3, ys = [y0, y1, y2, y3] ∧ F 0 y0 ∧ F 1 y1 ∧ F 2 y2 ∧ F 3 y3 := by
  have hl := h.length
  simp at hl
  match ys, hl, h with
  | [y0, y1, y2, y3], _, h =>
    have g : ∀ j, j < 4 → ∃ y, [y0, y1, y2, y3][j]? = some y ∧ F j y := fun j hj => paired_get h j j (by simp [hj])
    obtain ⟨a, ea, ha⟩ := g 0 (by decide)
    obtain ⟨b, eb, hb⟩ := g 1 (by decide)
    obtain ⟨c, ec, hc⟩ := g 2 (by decide)
    obtain ⟨d, ed, hd⟩ := g 3 (by decide)
    simp at ea eb ec ed
    subst ea eb ec ed
    exact ⟨_, _, _, _, rfl, ha, hb, hc, hd⟩

/-- a row that a comprehension makes anew -/
def RowR (B0 : Heap) (f : Nat → List Nat) (bad : List Addr) (j : Nat) (y : Value) (h : Heap) : Prop :=
  ∃ r us, y = .ref r ∧ LstAt h r us ∧ IntsAre us (casts (f j)) ∧ r ∉ bad ∧ B0.get? r = none
theorem rowR_mono {B0 : Heap} {f : Nat → List Nat} : ∀ bad j y h h', RowR B0 f bad j y h → (∀ b o, b ∉ bad → h.get? b = some o → h'.get? b = some o) → RowR B0 f bad j y h' := by
  rintro bad j y h h' ⟨r, us, rfl, ⟨n, e⟩, hi, hr, hB⟩ k
  exact ⟨r, us, rfl, ⟨n, k _ _ hr e⟩, hi, hr, hB⟩
theorem not_bad {h : Heap} {bad : List Addr} {r : Addr} (hbad : ∀ b ∈ bad, ∃ o, h.get? b = some o) (hr : h.get? r = none) : r ∉ bad := fun hm => by
  obtain ⟨o, e⟩ := hbad r hm
  rw [hr] at e; cases e

/-- one more row in the ledger -/
theorem news_row {B0 h : Heap} {L r : Addr} {m : Str → Option Value} {news : List (Addr × Obj)} {us : List Value} {n : Nat} (F : Fr B0 L h m) (N : News B0 L h news) (e : h.get? r = some (PySem.W.listOf us.toArray n)) (hB : B0.get? r = none) :
    News B0 L h ((r, PySem.W.listOf us.toArray n) :: news) := fun p hp => by
  rcases List.mem_cons.mp hp with rfl | hp
  · refine ⟨e, ?_, hB⟩
    rintro rfl
    obtain ⟨o', _, _, e', d', _⟩ := F.ns
    rw [e] at e'; cases e'; cases d'
  · exact N p hp

/-- four rows and the list that holds them -/
theorem rows_made {B0 h1 h' : Heap} {L D : Addr} {m m' : Str → Option Value} {news : List (Addr × Obj)} {ys : List Value} {f : Nat → List Nat} {bad : List Addr} (F : Fr B0 L h1 m) (N : News B0 L h1 news) (hNs : h'.Ns L m')
    (hk : ∀ b o, b ≠ L → h1.get? b = some o → h'.get? b = some o) (hD : h1.get? D = none) (hl : h'.get? D = some (LCg.lst ys)) (hP : Paired (fun j y => RowR B0 f bad j y h') (List.range 4) ys) :
    ∃ r0 r1 r2 r3 u0 u1 u2 u3 n0 n1 n2 n3, ys = [.ref r0, .ref r1, .ref r2, .ref r3] ∧ Fr B0 L h' m' ∧
      News B0 L h' ((D, LCg.lst [.ref r0, .ref r1, .ref r2, .ref r3]) :: (r0, PySem.W.listOf (List.toArray u0) n0) :: (r1, PySem.W.listOf (List.toArray u1) n1) :: (r2, PySem.W.listOf (List.toArray u2) n2) :: (r3, PySem.W.listOf (List.toArray u3) n3) :: news) ∧
      IntsAre u0 (casts (f 0)) ∧ IntsAre u1 (casts (f 1)) ∧ IntsAre u2 (casts (f 2)) ∧ IntsAre u3 (casts (f 3)) := by
  obtain ⟨F', N'⟩ := after_comp F N hNs hk hD hl
  obtain ⟨y0, y1, y2, y3, rfl, ⟨r0, u0, rfl, ⟨n0, e0⟩, i0, _, b0⟩, ⟨r1, u1, rfl, ⟨n1, e1⟩, i1, _, b1⟩, ⟨r2, u2, rfl, ⟨n2, e2⟩, i2, _, b2⟩, ⟨r3, u3, rfl, ⟨n3, e3⟩, i3, _, b3⟩⟩ := paired4 hP
  refine ⟨r0, r1, r2, r3, u0, u1, u2, u3, n0, n1, n2, n3, rfl, F', fun p hp => ?_, i0, i1, i2, i3⟩
  have N2 := news_row F' (news_row F' (news_row F' (news_row F' N' e3 b3) e2 b2) e1 b1) e0 b0
  refine N2 p ?_
  simp only [List.mem_cons] at hp ⊢
  rcases hp with rfl | rfl | rfl | rfl | rfl | hp <;> simp [*]

/-- any of the four rows -/
theorem row_any {B0 h : Heap} {L : Addr} {news : List (Addr × Obj)} {r0 r1 r2 r3 : Addr} {u0 u1 u2 u3 : List Value} {n0 n1 n2 n3 : Nat} {f : Nat → List Nat} {i : Nat} {v : Value} (N : News B0 L h news)
    (m0 : (r0, PySem.W.listOf (List.toArray u0) n0) ∈ news) (m1 : (r1, PySem.W.listOf (List.toArray u1) n1) ∈ news) (m2 : (r2, PySem.W.listOf (List.toArray u2) n2) ∈ news) (m3 : (r3, PySem.W.listOf (List.toArray u3) n3) ∈ news)
    (i0 : IntsAre u0 (casts (f 0))) (i1 : IntsAre u1 (casts (f 1))) (i2 : IntsAre u2 (casts (f 2))) (i3 : IntsAre u3 (casts (f 3))) (hv : [Value.ref r0, .ref r1, .ref r2, .ref r3].toArray[i]? = some v) :
    ∃ r us n, v = .ref r ∧ (r, PySem.W.listOf (List.toArray us) n) ∈ news ∧ IntsAre us (casts (f i)) := by
  match i, hv with
  | 0, hv => cases hv; exact ⟨_, _, _, rfl, m0, i0⟩
  | 1, hv => cases hv; exact ⟨_, _, _, rfl, m1, i1⟩
  | 2, hv => cases hv; exact ⟨_, _, _, rfl, m2, i2⟩
  | 3, hv => cases hv; exact ⟨_, _, _, rfl, m3, i3⟩
  | n + 4, hv => simp at hv
theorem namedN {B0 h : Heap} {L : Addr} {news : List (Addr × Obj)} (N : News B0 L h news) : ∃ r, r = news ∧ News B0 L h r := ⟨news, rfl, N⟩
theorem namedF {B0 h : Heap} {L : Addr} {m : Str → Option Value} (F : Fr B0 L h m) : ∃ m0, m0 = m ∧ Fr B0 L h m0 := ⟨m, rfl, F⟩
/-- the law's frame within its loop -/
def lm (m0 : Str → Option Value) (kv tv jv uv : Option Value) : Str → Option Value := fun y =>
  if y = Str.ofString "unlike" then uv else if y = Str.ofString "j" then jv else if y = Str.ofString "told" then tv else if y = Str.ofString "k" then kv else m0 y
theorem lm_self (m0 : Str → Option Value) : m0 = lm m0 (m0 (Str.ofString "k")) (m0 (Str.ofString "told")) (m0 (Str.ofString "j")) (m0 (Str.ofString "unlike")) := by
  funext y
  unfold lm
  split
  · next h => rw [h]
  · split
    · next h => rw [h]
    · split
      · next h => rw [h]
      · split
        · next h => rw [h]
        · rfl
theorem news_front {B0 h : Heap} {L : Addr} {news : List (Addr × Obj)} {p : Addr × Obj} (N : News B0 L h news) (hp : h.get? p.1 = some p.2 ∧ p.1 ≠ L ∧ B0.get? p.1 = none) : News B0 L h (p :: news) := fun q hq => by
  rcases List.mem_cons.mp hq with rfl | hq
  · exact hp
  · exact N q hq
theorem four_at {v0 v1 v2 v3 : Value} (P : Nat → Value → Prop) (h0 : P 0 v0) (h1 : P 1 v1) (h2 : P 2 v2) (h3 : P 3 v3) {i : Nat} (hi : i < 4) : ∃ v, [v0, v1, v2, v3].toArray[(i : Int).toNat]? = some v ∧ P i v := by
  match i, hi with
  | 0, _ => exact ⟨_, rfl, h0⟩
  | 1, _ => exact ⟨_, rfl, h1⟩
  | 2, _ => exact ⟨_, rfl, h2⟩
  | 3, _ => exact ⟨_, rfl, h3⟩
end Mine
end
section
open PySem PySem.W PySem.Calls PyProof.Rows
set_option linter.unusedSimpArgs false
set_option linter.unusedVariables false
namespace Mine
/-- the five-bit signs of a number laid out in sz octets -/
def sg (sz p : Nat) : List Nat := cvPad 8 5 (oct sz p)
theorem sg_len (sz p : Nat) : (sg sz p).length = (8 * sz + 4) / 5 := by
  unfold sg cvPad cv
  rw [List.length_append, outs_length, oct_length]
  split
  · simp; omega
  · simp; omega
theorem sg_len_le {sz : Nat} (p : Nat) (h : sz ≤ 12) : (sg sz p).length ≤ 20 := by rw [sg_len]; omega
theorem and31_lt (a : Nat) : a &&& (2 ^ 5 - 1) < 32 := by rw [and_mask]; exact Nat.mod_lt _ (by decide)
theorem sg_lt (sz p : Nat) : ∀ n ∈ sg sz p, n < 32 := by
  intro n hn
  unfold sg cvPad cv outs at hn
  rcases List.mem_append.mp hn with hn | hn
  · obtain ⟨j, _, rfl⟩ := List.mem_map.mp hn
    exact and31_lt _
  · split at hn
    · simp at hn
    · rw [List.mem_singleton.mp hn]
      exact and31_lt _
end Mine
end
section
open PySem PySem.W PySem.Calls PyProof.Rows
set_option linter.unusedSimpArgs false
set_option linter.unusedVariables false
namespace Mine
theorem gbit_xor (T U i g : Nat) : (if (T ^^^ U) >>> i &&& 1 = 1 then g else 0) = (if T >>> i &&& 1 = 1 then g else 0) ^^^ (if U >>> i &&& 1 = 1 then g else 0) := by
  rw [Nat.shiftRight_xor_distrib, Nat.and_xor_distrib_right]
  rcases and_one (T >>> i) with e | e <;> rcases and_one (U >>> i) with f | f <;> rw [e, f] <;> simp
theorem x4 (a b c d : Nat) : (a ^^^ b) ^^^ (c ^^^ d) = (a ^^^ c) ^^^ (b ^^^ d) := by
  rw [Nat.xor_assoc, Nat.xor_assoc, ← Nat.xor_assoc b, Nat.xor_comm b c, Nat.xor_assoc c]
theorem pmIn_xor (x y T U : Nat) : ∀ i, pmIn (x ^^^ y) (T ^^^ U) i = pmIn x T i ^^^ pmIn y U i
  | 0 => rfl
  | i + 1 => by
    rw [pmIn, pmIn, pmIn, pmIn_xor x y T U i, gbit_xor, x4]
theorem pmStep_xor (c d v u : Nat) : pmStep (c ^^^ d) (v ^^^ u) = pmStep c v ^^^ pmStep d u := by
  unfold pmStep
  rw [Nat.shiftRight_xor_distrib, Nat.and_xor_distrib_right, Nat.shiftLeft_xor_distrib, x4, pmIn_xor]
def zx (a b : List Nat) : List Nat := List.zipWith (· ^^^ ·) a b
theorem fold_xor : ∀ (l m : List Nat) (c d : Nat), l.length = m.length → (zx l m).foldl pmStep (c ^^^ d) = l.foldl pmStep c ^^^ m.foldl pmStep d
  | [], [], c, d, _ => rfl
  | a :: l, b :: m, c, d, h => by
    show (zx l m).foldl pmStep (pmStep (c ^^^ d) (a ^^^ b)) = _
    rw [pmStep_xor, fold_xor l m _ _ (by simpa using h)]
    rfl
theorem zx_len (a b : List Nat) (h : b.length = a.length) : (zx a b).length = a.length := by simp [zx, h]
theorem zx_self : ∀ a : List Nat, zx (zx a a) a = a
  | [] => rfl
  | x :: a => by
    show ((x ^^^ x) ^^^ x) :: zx (zx a a) a = _
    rw [zx_self a]; simp
theorem zx_app : ∀ (a b c d : List Nat), a.length = b.length → zx (a ++ c) (b ++ d) = zx a b ++ zx c d
  | [], [], c, d, _ => rfl
  | x :: a, y :: b, c, d, h => by
    show (x ^^^ y) :: zx (a ++ c) (b ++ d) = _
    rw [zx_app a b c d (by simpa using h)]
    rfl
theorem xor3_zx (a b c : List Nat) (hb : b.length = a.length) (hc : c.length = a.length) : xor3 a b c = zx (zx a b) c := by
  apply List.ext_getElem
  · simp [xor3, zx, hb, hc]
  · intro i h1 h2
    have h3 : i < a.length := by simpa [xor3] using h1
    simp [xor3, zx, List.getD, h3, hb, hc]
theorem xor3_map (n : Nat) (f g h : Nat → Nat) : xor3 ((List.range n).map f) ((List.range n).map g) ((List.range n).map h) = (List.range n).map fun i => f i ^^^ g i ^^^ h i := by
  unfold xor3
  rw [List.length_map, List.length_range]
  refine List.map_congr_left fun i hi => ?_
  have hi' := List.mem_range.mp hi
  simp [List.getD, hi']
theorem outs_xor3 (A B C T t k : Nat) : xor3 (outs A T t k) (outs B T t k) (outs C T t k) = outs (A ^^^ B ^^^ C) T t k := by
  unfold outs
  rw [xor3_map]
  refine List.map_congr_left fun i _ => ?_
  rw [Nat.shiftRight_xor_distrib, Nat.shiftRight_xor_distrib, Nat.and_xor_distrib_right, Nat.and_xor_distrib_right]
theorem oct_xor3 (sz a b c : Nat) : xor3 (oct sz a) (oct sz b) (oct sz c) = oct sz (a ^^^ b ^^^ c) := outs_xor3 _ _ _ _ _ _
theorem sums6_xor3 (a b c : Nat) : xor3 (sums6 a) (sums6 b) (sums6 c) = sums6 (a ^^^ b ^^^ c) := by
  unfold sums6
  rw [xor3_map]
  refine List.map_congr_left fun i _ => ?_
  rw [Nat.shiftRight_xor_distrib, Nat.shiftRight_xor_distrib, Nat.and_xor_distrib_right, Nat.and_xor_distrib_right]
theorem num_outs (N t T : Nat) : ∀ k, t * k ≤ T → num t (outs N T t k) = (N >>> (T - t * k)) % 2 ^ (t * k)
  | 0, _ => by simp [num, outs, Nat.mod_one]
  | k + 1, h => by
    have h' : t * (k + 1) = t * k + t := Nat.mul_succ t k
    rw [outs_succ, num_snoc, num_outs N t T k (by omega), and_mask]
    have e : T - t * k = (T - t * (k + 1)) + t := by omega
    rw [e, Nat.shiftRight_add, Nat.shiftRight_eq_div_pow _ t]
    generalize N >>> (T - t * (k + 1)) = M
    rw [h', Nat.add_comm (t * k) t, Nat.pow_add, Nat.mod_mul, Nat.mul_comm (2 ^ t), Nat.add_comm]
theorem num_oct_mod (sz p : Nat) : num 8 (oct sz p) = p % 2 ^ (8 * sz) := by
  unfold oct
  rw [num_outs _ _ _ _ (Nat.le_refl _), Nat.sub_self]
  rfl
theorem num_oct {sz p : Nat} (hp : p < 2 ^ (8 * sz)) : num 8 (oct sz p) = p := by rw [num_oct_mod, Nat.mod_eq_of_lt hp]
theorem outs_shl (N s T t k : Nat) (h : t * k ≤ T) : outs (N <<< s) (T + s) t k = outs N T t k := by
  unfold outs
  refine List.map_congr_left fun j hj => ?_
  have hj' : j < k := List.mem_range.mp hj
  have h1 : t * (j + 1) ≤ t * k := Nat.mul_le_mul_left t hj'
  have e : T + s - t * (j + 1) = s + (T - t * (j + 1)) := by omega
  rw [e, Nat.shiftRight_add, Nat.shiftLeft_shiftRight]
theorem sg_eq (sz p : Nat) : ∃ pd, pd < 5 ∧ 5 * ((8 * sz + 4) / 5) = 8 * sz + pd ∧ sg sz p = outs ((p % 2 ^ (8 * sz)) <<< pd) (8 * sz + pd) 5 ((8 * sz + 4) / 5) := by
  refine ⟨5 * ((8 * sz + 4) / 5) - 8 * sz, by omega, by omega, ?_⟩
  unfold sg cvPad cv
  rw [num_oct_mod, oct_length]
  generalize p % 2 ^ (8 * sz) = N
  by_cases h : 8 * sz % 5 = 0
  · rw [if_pos h, List.append_nil]
    have e1 : (8 * sz + 4) / 5 = 8 * sz / 5 := by omega
    have e2 : 5 * (8 * sz / 5) - 8 * sz = 0 := by omega
    rw [e1, e2]
    rfl
  · rw [if_neg h]
    have e1 : (8 * sz + 4) / 5 = 8 * sz / 5 + 1 := by omega
    have e2 : 5 * (8 * sz / 5 + 1) - 8 * sz = 5 - 8 * sz % 5 := by omega
    rw [e1, outs_succ, outs_shl _ _ _ _ _ (by omega), e2]
    congr 2
    have e3 : 8 * sz + (5 - 8 * sz % 5) - 5 * (8 * sz / 5 + 1) = 0 := by omega
    rw [e3]
    rfl
theorem sg_eq' (sz : Nat) : ∃ pd, pd < 5 ∧ 5 * ((8 * sz + 4) / 5) = 8 * sz + pd ∧ ∀ p, sg sz p = outs ((p % 2 ^ (8 * sz)) <<< pd) (8 * sz + pd) 5 ((8 * sz + 4) / 5) := by
  obtain ⟨pd, h1, h2, h3⟩ := sg_eq sz 0
  refine ⟨pd, h1, h2, fun p => ?_⟩
  obtain ⟨pd', h1', h2', h3'⟩ := sg_eq sz p
  have : pd' = pd := by omega
  rw [h3', this]
theorem sg_xor3 (sz a b c : Nat) : xor3 (sg sz a) (sg sz b) (sg sz c) = sg sz (a ^^^ b ^^^ c) := by
  obtain ⟨pd, _, _, e⟩ := sg_eq' sz
  rw [e, e, e, e, outs_xor3, Nat.xor_mod_two_pow, Nat.xor_mod_two_pow, Nat.shiftLeft_xor_distrib, Nat.shiftLeft_xor_distrib]
theorem three (A B C : Nat) : ((A ^^^ 1) ^^^ (B ^^^ 1)) ^^^ (C ^^^ 1) = A ^^^ B ^^^ C ^^^ 1 := by
  rw [x4 A 1 B 1, Nat.xor_self, Nat.xor_zero, ← Nat.xor_assoc]
theorem create_xor3 (x : List Nat) (sz a b c : Nat) : xor3 (create x (sg sz a)) (create x (sg sz b)) (create x (sg sz c)) = create x (sg sz (a ^^^ b ^^^ c)) := by
  unfold create
  rw [sums6_xor3]
  congr 1
  rw [← sg_xor3, xor3_zx _ _ _ (by rw [sg_len, sg_len]) (by rw [sg_len, sg_len])]
  have hz : zx (zx [0, 0, 0, 0, 0, 0] [0, 0, 0, 0, 0, 0]) [0, 0, 0, 0, 0, 0] = [0, 0, 0, 0, 0, 0] := by decide
  have hl : ∀ q, (hexp x ++ sg sz q).length = (hexp x ++ sg sz a).length := fun q => by rw [List.length_append, List.length_append, sg_len, sg_len]
  have key : zx (zx (hexp x ++ sg sz a ++ [0, 0, 0, 0, 0, 0]) (hexp x ++ sg sz b ++ [0, 0, 0, 0, 0, 0])) (hexp x ++ sg sz c ++ [0, 0, 0, 0, 0, 0]) = hexp x ++ zx (zx (sg sz a) (sg sz b)) (sg sz c) ++ [0, 0, 0, 0, 0, 0] := by
    rw [zx_app _ _ _ _ (by rw [hl b]), zx_app _ _ _ _ rfl, zx_app _ _ _ _ (by rw [List.length_append, zx_len _ _ rfl, zx_len _ _ (by rw [sg_len, sg_len]), List.length_append, sg_len, sg_len]), hz, zx_app _ _ _ _ (by rw [zx_len _ _ rfl]), zx_self]
  rw [← key]
  unfold pm
  have h1 : ∀ q, (hexp x ++ sg sz q ++ [0, 0, 0, 0, 0, 0]).length = (hexp x ++ sg sz a ++ [0, 0, 0, 0, 0, 0]).length := fun q => by rw [List.length_append, hl, ← List.length_append]
  have e := fold_xor (zx (hexp x ++ sg sz a ++ [0, 0, 0, 0, 0, 0]) (hexp x ++ sg sz b ++ [0, 0, 0, 0, 0, 0])) (hexp x ++ sg sz c ++ [0, 0, 0, 0, 0, 0]) (1 ^^^ 1) 1 (by rw [zx_len _ _ (h1 b), h1 c])
  rw [fold_xor _ _ _ _ (h1 b).symm] at e
  have e1 : (1 : Nat) ^^^ 1 ^^^ 1 = 1 := by decide
  rw [e1] at e
  rw [e, three]
theorem back_len (sz p : Nat) : 5 * (sg sz p).length % 8 < 5 := by
  obtain ⟨pd, h1, h2, e⟩ := sg_eq sz p
  rw [sg_len, h2]; clear h2 e; omega
theorem num_sg {sz p pd : Nat} (hp : p < 2 ^ (8 * sz)) (h2 : 5 * ((8 * sz + 4) / 5) = 8 * sz + pd) (e : sg sz p = outs ((p % 2 ^ (8 * sz)) <<< pd) (8 * sz + pd) 5 ((8 * sz + 4) / 5)) : num 5 (sg sz p) = p <<< pd := by
  rw [e, num_outs _ _ _ _ (Nat.le_of_eq h2), h2, Nat.sub_self, Nat.mod_eq_of_lt hp]
  show p <<< pd % _ = _
  rw [Nat.shiftLeft_eq, Nat.pow_add, Nat.mod_eq_of_lt (Nat.mul_lt_mul_of_pos_right hp (Nat.two_pow_pos pd))]
theorem back_pad {sz p : Nat} (hp : p < 2 ^ (8 * sz)) : num 5 (sg sz p) <<< (8 - 5 * (sg sz p).length % 8) &&& (2 ^ 8 - 1) = 0 := by
  obtain ⟨pd, h1, h2, e⟩ := sg_eq sz p
  rw [num_sg hp h2 e, sg_len, h2, and_mask, ← Nat.shiftLeft_add]
  have : pd + (8 - (8 * sz + pd) % 8) = 8 := by omega
  rw [this, Nat.shiftLeft_eq]
  exact Nat.mul_mod_left _ _
theorem back_cv {sz p : Nat} (hp : p < 2 ^ (8 * sz)) : cv 5 8 (sg sz p) = oct sz p := by
  obtain ⟨pd, h1, h2, e⟩ := sg_eq sz p
  unfold cv oct
  rw [num_sg hp h2 e, sg_len, h2]
  have : (8 * sz + pd) / 8 = sz := by omega
  rw [this, outs_shl _ _ _ _ _ (Nat.le_refl _)]
end Mine
end
section
open PySem PySem.W PySem.Calls PyProof.Rows
set_option linter.unusedSimpArgs false
set_option linter.unusedVariables false
namespace Mine
-- True
def rowsT : List (List Nat) := [
  [32, 64, 96, 128, 160, 192, 224, 256, 288, 320, 352, 384, 416, 448, 480, 512, 544, 576, 608, 640, 672, 704, 736, 768, 800, 832, 864, 896, 928, 960, 992],
  [1024, 2048, 3072, 4096, 5120, 6144, 7168, 8192, 9216, 10240, 11264, 12288, 13312, 14336, 15360, 16384, 17408, 18432, 19456, 20480, 21504, 22528, 23552, 24576, 25600, 26624, 27648, 28672, 29696, 30720, 31744],
  [32768, 65536, 98304, 131072, 163840, 196608, 229376, 262144, 294912, 327680, 360448, 393216, 425984, 458752, 491520, 524288, 557056, 589824, 622592, 655360, 688128, 720896, 753664, 786432, 819200, 851968, 884736, 917504, 950272, 983040, 1015808],
  [1048576, 2097152, 3145728, 4194304, 5242880, 6291456, 7340032, 8388608, 9437184, 10485760, 11534336, 12582912, 13631488, 14680064, 15728640, 16777216, 17825792, 18874368, 19922944, 20971520, 22020096, 23068672, 24117248, 25165824, 26214400, 27262976, 28311552, 29360128, 30408704, 31457280, 32505856],
  [33554432, 67108864, 100663296, 134217728, 167772160, 201326592, 234881024, 268435456, 301989888, 335544320, 369098752, 402653184, 436207616, 469762048, 503316480, 536870912, 570425344, 603979776, 637534208, 671088640, 704643072, 738197504, 771751936, 805306368, 838860800, 872415232, 905969664, 939524096, 973078528, 1006632960, 1040187392],
  [996825010, 642813549, 490396127, 513874426, 634080840, 955357079, 60538917, 1027748829, 103310447, 454213040, 544795138, 602090023, 411663765, 95659082, 1054471160, 705979059, 293483777, 205843678, 925809516, 884308809, 266284283, 317060388, 697279126, 391532910, 742131420, 822533891, 174885041, 167200916, 849157926, 799524601, 349016395],
  [534243686, 1027569356, 585670570, 721079480, 892151262, 398834292, 135418642, 132234585, 406213695, 987679637, 621355763, 756773345, 852269191, 270796589, 267644491, 223574683, 310678525, 812387415, 800843057, 665433635, 947806021, 446087407, 88156553, 179488706, 358952612, 932032782, 677009512, 541592442, 1067442716, 494370230, 44078288],
  [69525304, 139009913, 208519233, 277265403, 346186947, 416261250, 485194682, 554529535, 623488455, 692350342, 761311934, 831244548, 900666940, 969070205, 1038485829, 312394999, 381295567, 450354062, 519242934, 35159820, 104636468, 173105269, 242597709, 865318408, 934766896, 1004185969, 1073641033, 588582387, 657576651, 727454346, 796446130],
  [583756141, 394458842, 894017463, 764759229, 257828304, 974633575, 417125130, 196754771, 695292990, 473484169, 1056154340, 640643566, 82057347, 833455924, 325512793, 368114319, 926651362, 41028693, 549020984, 946189874, 447668063, 803684584, 220998021, 508217308, 1015131825, 164114694, 721639531, 870288225, 286581260, 610106811, 110499030],
  [135469217, 270938434, 406137315, 541876868, 677345829, 812274630, 947473255, 311223336, 446692489, 44750186, 179949003, 851478188, 986947085, 585545710, 720744271, 621669456, 757003505, 892067090, 1027130803, 88182484, 223516277, 359120790, 494184247, 931203192, 1066537177, 665270586, 800334235, 399338236, 534671965, 132864958, 267928351],
  [482479578, 964959133, 625350215, 597176883, 1062879209, 438053294, 115221620, 397730159, 192343221, 774961906, 854783784, 875352924, 686743174, 229165249, 292209947, 771319518, 825977604, 343768387, 146763929, 241259757, 312695095, 937774960, 723993258, 978159537, 646941291, 63544364, 520851958, 433436034, 85440600, 542223903, 1016308677],
  [502406922, 963918644, 612770878, 578319201, 1066036331, 453789781, 117331807, 384092130, 186046696, 798031062, 845341660, 882685059, 695118729, 233344951, 270176445, 768159460, 809185774, 347936208, 156175066, 263282053, 306397839, 918906545, 725055931, 992864518, 652211724, 39440946, 531352888, 425040487, 78087533, 539074899, 1037287001],
  [1005602058, 661663252, 478178078, 510679329, 629152811, 956331829, 49295935, 1021318722, 118510408, 462436438, 543194460, 579882851, 425724521, 98591095, 1041245309, 734013860, 271609006, 212862896, 926958266, 900755589, 239089039, 314597009, 691018651, 387989478, 751860460, 810553842, 195056888, 156264135, 849355725, 773867731, 365956569],
  [211140198, 422279660, 364824458, 819124184, 1011313086, 704228916, 627839058, 866455225, 1060155615, 713979733, 639355187, 58186081, 266495751, 442278029, 382279403, 937039995, 995075613, 787571095, 577036273, 118017955, 194867653, 505656911, 313919529, 75437762, 149596324, 492072750, 297914696, 883802394, 943226748, 763803894, 554894992],
  [709253975, 109844391, 751455472, 218933870, 659222841, 192986569, 566683294, 412996092, 853248683, 504481371, 878157068, 361855890, 1071063237, 320695349, 962279266, 825198545, 459922566, 933466230, 501599009, 1008938431, 375748328, 984562200, 283730255, 699553325, 66325882, 792609162, 91757277, 616496195, 251176724, 573762532, 141865139],
  [118769179, 213396799, 195848996, 426039895, 510696524, 366802792, 315142515, 811144615, 927814588, 1021393048, 1005944451, 691916784, 774474219, 629531343, 579970260, 849783630, 900918613, 1042187889, 957005930, 734163225, 752236290, 662330406, 544086589, 50314985, 99350770, 239571926, 156489165, 463168702, 479142565, 388188545, 272043930],
  [1068636863, 804532343, 273033928, 259547335, 818575992, 546066608, 524175887, 477422990, 600244017, 864081401, 204656454, 319587657, 750690294, 1022932286, 55226241, 954822428, 123434403, 387800939, 682575316, 932253659, 136516964, 409288620, 668411155, 614304402, 456101933, 191478501, 886808666, 736488021, 341307626, 68278818, 1000587421],
  [579782315, 386509942, 898067165, 748148933, 236527214, 1000240307, 420524568, 187635082, 698471201, 472300028, 1051230039, 666422607, 87428068, 816931129, 306161554, 349874964, 911502783, 64161634, 559792585, 944600017, 449033594, 793042855, 231348492, 536198814, 1031501877, 150737640, 712168515, 862086747, 300720368, 611043885, 115674246],
  [10936417, 21849282, 32212131, 2026884, 12062181, 22251846, 32860455, 2752264, 9379689, 23370698, 29522859, 3609228, 9564909, 24802894, 31233583, 4710192, 14761809, 17480690, 28072851, 5845684, 16765653, 18110070, 28489239, 7217208, 13156441, 19088634, 25535643, 7392700, 14036445, 20818302, 26954015],
  [349965344, 699177024, 1030788192, 64860288, 385989792, 712059072, 1051534560, 88072448, 300150048, 747862336, 944731488, 115495296, 306077088, 793692608, 999474656, 150726144, 472377888, 559382080, 898331232, 187061888, 536500896, 579522240, 911655648, 230950656, 421006112, 610836288, 817140576, 236566400, 449166240, 666185664, 862528480],
  [9648560, 19297097, 28658425, 14436274, 5209602, 33174779, 23661899, 28094061, 20944861, 9100580, 1696916, 24177119, 31707247, 5675670, 12952358, 31316474, 21946442, 16493235, 6853379, 16883272, 26388472, 2616577, 11850929, 7436183, 14831143, 22480094, 29637998, 11350053, 4065685, 25903980, 18381532],
  [308753920, 617507104, 917069600, 461960768, 166707264, 1061592928, 757180768, 899009952, 670235552, 291218560, 54301312, 773667808, 1014631904, 181621440, 414475456, 1002127168, 702286144, 527783520, 219308128, 540264704, 844431104, 83730464, 379229728, 237957856, 474596576, 719363008, 948415936, 363201696, 130101920, 828927360, 588209024],
  [181314671, 361351390, 524774577, 697808277, 593039866, 1008631115, 919656740, 62876419, 158453612, 372679645, 486016946, 707321494, 551975673, 1067521608, 896512551, 100333350, 255087433, 275988472, 448633751, 745358003, 648275676, 971278957, 858402306, 105225253, 210450506, 332158203, 419623060, 802302384, 622628319, 979100014, 815088897],
  [1008714664, 707503728, 372532696, 105105897, 979110465, 745041817, 276278321, 210188242, 815330426, 648843682, 447959562, 180682299, 920337811, 552556619, 485530595, 420375213, 621914373, 858115293, 255463285, 525181764, 592601324, 895878452, 158975644, 361323903, 697736919, 1067645711, 62732455, 332043414, 802510654, 971059942, 100593998],
  [744469497, 179036923, 653545730, 356771071, 958158598, 535299588, 867677693, 672624087, 71884334, 582782764, 249773269, 1028950312, 285948625, 939486163, 463525930, 36601735, 779209854, 142974332, 618278533, 393059192, 993142913, 499546499, 832162426, 708383312, 107389353, 546500779, 214778706, 1065023151, 321209686, 902894676, 428779437]
]
def LL (c : Nat) : Nat := pmStep c 0
theorem LL_xor (c d : Nat) : LL (c ^^^ d) = LL c ^^^ LL d := by
  have := pmStep_xor c d 0 0
  simpa [LL] using this
theorem pmStep_LL (c v : Nat) : pmStep c v = LL c ^^^ v := by
  have h := pmStep_xor c 0 0 v
  rw [Nat.xor_zero, Nat.zero_xor] at h
  rw [h]
  congr 1
  simp [pmStep, pmIn]
theorem pmIn_lt {x T : Nat} (hx : x < 2 ^ 30) : ∀ i, pmIn x T i < 2 ^ 30
  | 0 => hx
  | i + 1 => by
    rw [pmIn]
    refine Nat.xor_lt_two_pow (pmIn_lt hx i) ?_
    split
    · match i with
      | 0 => decide
      | 1 => decide
      | 2 => decide
      | 3 => decide
      | 4 => decide
      | n + 5 => exact (by decide : (0 : Nat) < 2 ^ 30)
    · decide
theorem LL_lt (c : Nat) : LL c < 2 ^ 30 := by
  refine pmIn_lt ?_ 5
  rw [Nat.xor_zero, Nat.shiftLeft_eq]
  have := Nat.and_le_right (n := c) (m := 33554431)
  omega
theorem LL_zero : LL 0 = 0 := by decide
theorem LL_small {c : Nat} (h : c < 2 ^ 25) : LL c = c <<< 5 := by
  have e1 : c >>> 25 = 0 := by rw [Nat.shiftRight_eq_div_pow]; exact Nat.div_eq_of_lt h
  have e2 : c &&& 33554431 = c := by
    rw [show 33554431 = 2 ^ 25 - 1 from rfl, and_mask, Nat.mod_eq_of_lt h]
  simp [LL, pmStep, e1, e2, pmIn]
/-- taking the signs of a number up one by one -/
theorem take_up (q k : Nat) : ((q >>> (k + 5)) <<< 5) ^^^ (q >>> k &&& 31) = q >>> k := by
  rw [show 31 = 2 ^ 5 - 1 from rfl]
  apply Nat.eq_of_testBit_eq
  intro i
  rw [Nat.testBit_xor, Nat.testBit_shiftLeft, Nat.testBit_and, Nat.testBit_shiftRight, Nat.testBit_shiftRight, Nat.testBit_two_pow_sub_one]
  by_cases h : i < 5
  · simp [h, show ¬ 5 ≤ i by omega]
  · simp [h, show 5 ≤ i by omega, show k + 5 + (i - 5) = k + i by omega]
theorem step_up {q k : Nat} (hq : q < 2 ^ 30) (hk : 5 ≤ k + 5) : pmStep (q >>> (k + 5)) (q >>> k &&& 31) = q >>> k := by
  rw [pmStep_LL, LL_small, take_up]
  rw [Nat.shiftRight_eq_div_pow]
  refine Nat.div_lt_of_lt_mul ?_
  rw [← Nat.pow_add]
  exact Nat.lt_of_lt_of_le hq (Nat.pow_le_pow_right (by decide) (by omega))
theorem fold_sums {q : Nat} (hq : q < 2 ^ 30) : (sums6 q).foldl pmStep 0 = q := by
  have e0 : q >>> 30 = 0 := by rw [Nat.shiftRight_eq_div_pow]; exact Nat.div_eq_of_lt hq
  show pmStep (pmStep (pmStep (pmStep (pmStep (pmStep 0 (q >>> 25 &&& 31)) (q >>> 20 &&& 31)) (q >>> 15 &&& 31)) (q >>> 10 &&& 31)) (q >>> 5 &&& 31)) (q >>> 0 &&& 31) = q
  have s5 := step_up (k := 25) hq (by decide)
  rw [e0] at s5
  rw [s5, step_up (k := 20) hq (by decide), step_up (k := 15) hq (by decide), step_up (k := 10) hq (by decide), step_up (k := 5) hq (by decide), step_up (k := 0) hq (by decide)]
  rfl
theorem verifies {x ns : List Nat} : pm (hexp x ++ (ns ++ create x ns)) = 1 := by
  unfold create pm
  rw [← List.append_assoc, List.foldl_append, List.foldl_append (l := hexp x ++ ns)]
  generalize List.foldl pmStep 1 (hexp x ++ ns) = P
  generalize hq : List.foldl pmStep P [0, 0, 0, 0, 0, 0] ^^^ 1 = q
  have h1 : List.foldl pmStep P [0, 0, 0, 0, 0, 0] < 2 ^ 30 := LL_lt _
  have h2 : q < 2 ^ 30 := by rw [← hq]; exact Nat.xor_lt_two_pow h1 (by decide)
  have e := fold_xor [0, 0, 0, 0, 0, 0] (sums6 q) P 0 rfl
  have ez : zx [0, 0, 0, 0, 0, 0] (sums6 q) = sums6 q := by
    show [0 ^^^ _, 0 ^^^ _, 0 ^^^ _, 0 ^^^ _, 0 ^^^ _, 0 ^^^ _] = _
    simp only [Nat.zero_xor]
    rfl
  rw [ez, Nat.xor_zero, fold_sums h2] at e
  rw [e, ← hq, ← Nat.xor_assoc, Nat.xor_self, Nat.zero_xor]
/-- the walk back: from the last sign to the first -/
def Sy : List Nat → Nat
  | [] => 0
  | d :: ds => LL (Sy ds) ^^^ d
theorem fold_Sy : ∀ ds : List Nat, ds.foldl pmStep 0 = Sy ds.reverse := by
  intro ds
  have : ∀ ds : List Nat, ds.reverse.foldl pmStep 0 = Sy ds := by
    intro ds
    induction ds with
    | nil => rfl
    | cons d ds ih =>
      rw [List.reverse_cons, List.foldl_append, ih]
      exact pmStep_LL _ _
  rw [← this, List.reverse_reverse]
def LN : Nat → Nat → Nat
  | 0, c => c
  | i + 1, c => LL (LN i c)
theorem LN_xor (c d : Nat) : ∀ i, LN i (c ^^^ d) = LN i c ^^^ LN i d
  | 0 => rfl
  | i + 1 => by rw [LN, LN, LN, LN_xor c d i, LL_xor]
theorem LN_add (c i : Nat) : ∀ j, LN (i + j) c = LN j (LN i c)
  | 0 => rfl
  | j + 1 => by rw [← Nat.add_assoc, LN, LN_add c i j, LN]
theorem LN_add' (c i j : Nat) : LN (i + j) c = LN i (LN j c) := by rw [Nat.add_comm, LN_add]
def low5 : List Nat := (List.range 32).map fun t => pmIn 0 t 5 % 32
theorem low5_ok : ∀ t < 32, t ≠ 0 → pmIn 0 t 5 % 32 ≠ 0 := by decide +kernel
theorem LL_inj {c : Nat} (hc : c < 2 ^ 30) (h : LL c = 0) : c = 0 := by
  have hT : c >>> 25 < 32 := by
    rw [Nat.shiftRight_eq_div_pow]
    exact Nat.div_lt_of_lt_mul hc
  have e : LL c = ((c &&& 33554431) <<< 5) ^^^ pmIn 0 (c >>> 25) 5 := by
    unfold LL pmStep
    have := pmIn_xor ((c &&& 33554431) <<< 5) 0 0 (c >>> 25) 5
    rw [Nat.xor_zero, Nat.zero_xor] at this
    rw [Nat.xor_zero, this]
    congr 1
    simp [pmIn]
  have h0 : c >>> 25 = 0 := by
    apply Classical.byContradiction
    intro hn
    apply low5_ok _ hT hn
    have e2 : LL c % 32 = pmIn 0 (c >>> 25) 5 % 32 := by
      have : (((c &&& 33554431) <<< 5) ^^^ pmIn 0 (c >>> 25) 5) % 2 ^ 5 = pmIn 0 (c >>> 25) 5 % 2 ^ 5 := by
        rw [Nat.xor_mod_two_pow, Nat.shiftLeft_eq, Nat.mul_mod_left, Nat.zero_xor]
      rw [e]; exact this
    rw [← e2, h]
  have hs : c < 2 ^ 25 := by
    rw [Nat.shiftRight_eq_div_pow] at h0
    have := Nat.lt_of_div_eq_zero (by decide) h0
    exact this
  rw [LL_small hs, Nat.shiftLeft_eq] at h
  omega
theorem LN_lt {c : Nat} (h : c < 2 ^ 30) : ∀ i, LN i c < 2 ^ 30
  | 0 => h
  | i + 1 => LL_lt _
theorem LN_inj {c : Nat} (hc : c < 2 ^ 30) : ∀ i, LN i c = 0 → c = 0
  | 0, h => h
  | i + 1, h => LN_inj hc i (LL_inj (LN_lt hc i) h)
/-- how many signs are not nought -/
def wt : List Nat → Nat
  | [] => 0
  | d :: ds => wt ds + (if d = 0 then 0 else 1)
theorem wt0 : ∀ ds, wt ds = 0 → Sy ds = 0
  | [], _ => rfl
  | d :: ds, h => by
    by_cases hd : d = 0
    · rw [wt, if_pos hd] at h
      rw [Sy, wt0 ds h, LL_zero, hd]; rfl
    · rw [wt, if_neg hd] at h; omega
theorem wt1 : ∀ ds, (∀ d ∈ ds, d < 32) → wt ds = 1 → ∃ i v, i < ds.length ∧ 0 < v ∧ v < 32 ∧ Sy ds = LN i v
  | [], _, h => by cases h
  | d :: ds, hl, h => by
    by_cases hd : d = 0
    · rw [wt, if_pos hd] at h
      obtain ⟨i, v, h1, h2, h3, e⟩ := wt1 ds (fun d hd => hl d (.tail _ hd)) h
      exact ⟨i + 1, v, Nat.succ_lt_succ h1, h2, h3, by rw [Sy, e, hd, Nat.xor_zero]; rfl⟩
    · rw [wt, if_neg hd] at h
      have hd32 := hl d (.head _)
      exact ⟨0, d, Nat.succ_pos _, by omega, hd32, by rw [Sy, wt0 ds (by omega), LL_zero, Nat.zero_xor]; rfl⟩
theorem wt2 : ∀ ds, (∀ d ∈ ds, d < 32) → wt ds = 2 → ∃ i v j u, i < j ∧ j < ds.length ∧ 0 < v ∧ v < 32 ∧ 0 < u ∧ u < 32 ∧ Sy ds = LN i v ^^^ LN j u
  | [], _, h => by cases h
  | d :: ds, hl, h => by
    by_cases hd : d = 0
    · rw [wt, if_pos hd] at h
      obtain ⟨i, v, j, u, h0, h1, h2, h3, h4, h5, e⟩ := wt2 ds (fun d hd => hl d (.tail _ hd)) h
      exact ⟨i + 1, v, j + 1, u, by omega, Nat.succ_lt_succ h1, h2, h3, h4, h5, by rw [Sy, e, hd, Nat.xor_zero, LL_xor]; rfl⟩
    · rw [wt, if_neg hd] at h
      have hd32 := hl d (.head _)
      obtain ⟨i, v, h1, h2, h3, e⟩ := wt1 ds (fun d hd => hl d (.tail _ hd)) (by omega)
      exact ⟨0, d, i + 1, v, by omega, Nat.succ_lt_succ h1, by omega, hd32, h2, h3, by rw [Sy, e, Nat.xor_comm]; rfl⟩
theorem wt3 : ∀ ds, (∀ d ∈ ds, d < 32) → wt ds = 3 → ∃ i v j u k t, i < j ∧ j < k ∧ k < ds.length ∧ 0 < v ∧ v < 32 ∧ 0 < u ∧ u < 32 ∧ 0 < t ∧ t < 32 ∧ Sy ds = LN i v ^^^ (LN j u ^^^ LN k t)
  | [], _, h => by cases h
  | d :: ds, hl, h => by
    by_cases hd : d = 0
    · rw [wt, if_pos hd] at h
      obtain ⟨i, v, j, u, k, t, h0, h1, h2, h3, h4, h5, h6, h7, h8, e⟩ := wt3 ds (fun d hd => hl d (.tail _ hd)) h
      exact ⟨i + 1, v, j + 1, u, k + 1, t, by omega, by omega, Nat.succ_lt_succ h2, h3, h4, h5, h6, h7, h8, by rw [Sy, e, hd, Nat.xor_zero, LL_xor, LL_xor]; rfl⟩
    · rw [wt, if_neg hd] at h
      have hd32 := hl d (.head _)
      obtain ⟨i, v, j, u, h0, h1, h2, h3, h4, h5, e⟩ := wt2 ds (fun d hd => hl d (.tail _ hd)) (by omega)
      exact ⟨0, d, i + 1, v, j + 1, u, by omega, by omega, Nat.succ_lt_succ h1, by omega, hd32, h2, h3, h4, h5, by rw [Sy, e, Nat.xor_comm, LL_xor]; rfl⟩
/-- the table: row i holds the signs 1..31 after i + 1 steps -/
def stepOk : List Nat → List (List Nat) → Bool
  | _, [] => true
  | p, r :: rs => (r == p.map LL) && stepOk r rs
def hsh (x : Nat) : Nat := (x >>> 5) % 30725
/-- no two values fall on one place -/
def maskOk : Nat → List Nat → Bool
  | _, [] => true
  | m, x :: xs => !(m.testBit (hsh x)) && maskOk (m ||| 1 <<< hsh x) xs
theorem maskOk_spec : ∀ (xs : List Nat) (m : Nat), maskOk m xs = true → (∀ x ∈ xs, m.testBit (hsh x) = false) ∧ xs.Pairwise fun a b => hsh a ≠ hsh b
  | [], m, _ => ⟨fun _ h => (nomatch h), .nil⟩
  | x :: xs, m, h => by
    rw [maskOk, Bool.and_eq_true] at h
    obtain ⟨h1, h2⟩ := h
    obtain ⟨a, b⟩ := maskOk_spec xs _ h2
    have h1' : m.testBit (hsh x) = false := by simpa using h1
    have key : ∀ y ∈ xs, m.testBit (hsh y) = false ∧ hsh x ≠ hsh y := fun y hy => by
      have t := a y hy
      rw [Nat.testBit_or, Bool.or_eq_false_iff] at t
      refine ⟨t.1, fun e => ?_⟩
      have t2 := t.2
      rw [← e, Nat.testBit_shiftLeft] at t2
      simp at t2
    refine ⟨fun y hy => ?_, .cons (fun y hy => (key y hy).2) b⟩
    rcases List.mem_cons.mp hy with rfl | hy
    · exact h1'
    · exact (key y hy).1
def ones31 : List Nat := [1, 2, 3, 4, 5, 6, 7, 8, 9, 10, 11, 12, 13, 14, 15, 16, 17, 18, 19, 20, 21, 22, 23, 24, 25, 26, 27, 28, 29, 30, 31]
theorem rows_step : stepOk ones31 rowsT = true := by decide +kernel
theorem rows_mask : maskOk 0 rowsT.flatten = true := by decide +kernel
theorem rows_big : (rowsT.all fun r => r.all fun a => Nat.ble 32 a) = true := by decide +kernel
theorem stepOk_get : ∀ (rs : List (List Nat)) (f : Nat → Nat) , stepOk (ones31.map f) rs = true → ∀ i r, rs[i]? = some r → r = ones31.map fun v => LN (i + 1) (f v)
  | [], f, _, i, r, h => by cases h
  | r0 :: rs, f, hs, i, r, h => by
    rw [stepOk, Bool.and_eq_true, beq_iff_eq] at hs
    obtain ⟨h1, h2⟩ := hs
    rw [List.map_map] at h1
    match i, h with
    | 0, h => cases h; exact h1
    | i + 1, h =>
      rw [h1] at h2
      have := stepOk_get rs _ h2 i r h
      rw [this]
      refine List.map_congr_left fun v _ => ?_
      show LN (i + 1) (LL (f v)) = LN (i + 1 + 1) (f v)
      exact (LN_add' (f v) (i + 1) 1).symm
theorem row_at {i : Nat} (hi : i < 25) : ∃ r, rowsT[i]? = some r ∧ r = ones31.map fun v => LN (i + 1) v := by
  have hl : rowsT.length = 25 := by decide
  have h := List.getElem?_eq_getElem (l := rowsT) (show i < rowsT.length by omega)
  exact ⟨_, h, stepOk_get rowsT id (by rw [List.map_id]; exact rows_step) i _ h⟩
theorem ones_mem {v : Nat} (h0 : 0 < v) (h : v < 32) : v ∈ ones31 := by
  have : ∀ v < 32, 0 < v → v ∈ ones31 := by decide +kernel
  exact this v h h0
theorem xor_cancel {a b : Nat} (h : a ^^^ b = 0) : a = b := by
  have : (a ^^^ b) ^^^ b = b := by rw [h, Nat.zero_xor]
  rwa [Nat.xor_assoc, Nat.xor_self, Nat.xor_zero] at this
theorem far_of {a b : Nat} (h : hsh a ≠ hsh b) : 32 ≤ a ^^^ b := by
  apply Classical.byContradiction
  intro hn
  apply h
  have h0 : (a ^^^ b) >>> 5 = 0 := by
    rw [Nat.shiftRight_eq_div_pow]
    exact Nat.div_eq_of_lt (Nat.lt_of_not_le hn)
  rw [Nat.shiftRight_xor_distrib] at h0
  unfold hsh
  rw [xor_cancel h0]
theorem two_far {i j v u : Nat} (h0 : 0 < i) (hij : i < j) (hj : j ≤ 25) (hv0 : 0 < v) (hv : v < 32) (hu0 : 0 < u) (hu : u < 32) : 32 ≤ LN i v ^^^ LN j u := by
  obtain ⟨r, hr, er⟩ := row_at (i := i - 1) (by omega)
  obtain ⟨s, hs, es⟩ := row_at (i := j - 1) (by omega)
  have hp := (List.pairwise_flatten.mp (maskOk_spec _ _ rows_mask).2).2
  obtain ⟨l1, rfl⟩ := List.getElem?_eq_some_iff.mp hr
  obtain ⟨l2, rfl⟩ := List.getElem?_eq_some_iff.mp hs
  refine far_of (List.pairwise_iff_getElem.mp hp (i - 1) (j - 1) l1 l2 (by omega) (LN i v) ?_ (LN j u) ?_)
  · rw [er, show i - 1 + 1 = i by omega]; exact List.mem_map.mpr ⟨v, ones_mem hv0 hv, rfl⟩
  · rw [es, show j - 1 + 1 = j by omega]; exact List.mem_map.mpr ⟨u, ones_mem hu0 hu, rfl⟩
theorem one_far {i v : Nat} (h0 : 0 < i) (hj : i ≤ 25) (hv0 : 0 < v) (hv : v < 32) : 32 ≤ LN i v := by
  obtain ⟨r, hr, er⟩ := row_at (i := i - 1) (by omega)
  have h1 := List.all_eq_true.mp (List.all_eq_true.mp rows_big r (List.mem_of_getElem? hr)) (LN i v) (by rw [er, show i - 1 + 1 = i by omega]; exact List.mem_map.mpr ⟨v, ones_mem hv0 hv, rfl⟩)
  exact Nat.le_of_ble_eq_true h1
theorem wt_far (ds : List Nat) (hl : ∀ d ∈ ds, d < 32) (hn : ds.length ≤ 26) (h : Sy ds = 0) : wt ds ≠ 1 ∧ wt ds ≠ 2 ∧ wt ds ≠ 3 := by
  have p30 : ∀ v, v < 32 → v < 2 ^ 30 := fun v h => Nat.lt_of_lt_of_le h (by decide)
  refine ⟨fun hw => ?_, fun hw => ?_, fun hw => ?_⟩
  · obtain ⟨i, v, h1, h2, h3, e⟩ := wt1 ds hl hw
    have := LN_inj (p30 v h3) i (by rw [← e, h])
    omega
  · obtain ⟨i, v, j, u, h0, h1, h2, h3, h4, h5, e⟩ := wt2 ds hl hw
    rw [h] at e
    obtain ⟨d, rfl⟩ : ∃ d, j = i + d := ⟨j - i, by omega⟩
    rw [LN_add', ← LN_xor] at e
    have e2 := LN_inj (Nat.xor_lt_two_pow (p30 v h3) (LN_lt (p30 u h5) d)) i e.symm
    have e3 := xor_cancel e2
    have := one_far (i := d) (by omega) (by omega) h4 h5
    omega
  · obtain ⟨i, v, j, u, k, t, h0, h1, h2, h3, h4, h5, h6, h7, h8, e⟩ := wt3 ds hl hw
    rw [h] at e
    obtain ⟨d, rfl⟩ : ∃ d, j = i + d := ⟨j - i, by omega⟩
    obtain ⟨f, rfl⟩ : ∃ f, k = i + f := ⟨k - i, by omega⟩
    rw [LN_add', LN_add', ← LN_xor, ← LN_xor] at e
    have e2 := LN_inj (Nat.xor_lt_two_pow (p30 v h4) (Nat.xor_lt_two_pow (LN_lt (p30 u h6) d) (LN_lt (p30 t h8) f))) i e.symm
    have e3 := xor_cancel e2
    have := two_far (i := d) (j := f) (by omega) (by omega) (by omega) h5 h6 h7 h8
    omega
end Mine
end
section
open PySem PySem.W PySem.Calls PyProof.Rows
set_option linter.unusedSimpArgs false
set_option linter.unusedVariables false
namespace Mine
theorem create_len (x ns : List Nat) : (create x ns).length = 6 := by simp [create, sums6]
def df (l m : List Nat) : Nat := ((List.range l.length).filter fun i => decide (l.getD i 0 ≠ m.getD i 0)).length
theorem df_cons (a b : Nat) (l m : List Nat) : df (a :: l) (b :: m) = df l m + (if a = b then 0 else 1) := by
  unfold df
  rw [List.length_cons, List.range_succ_eq_map, List.filter_cons, List.filter_map, List.getD_cons_zero, List.getD_cons_zero]
  by_cases h : a = b
  · simp [h, Function.comp_def]
  · simp [h, Function.comp_def]
theorem df_app : ∀ p l m : List Nat, df (p ++ l) (p ++ m) = df l m
  | [], l, m => rfl
  | a :: p, l, m => by
    show df (a :: (p ++ l)) (a :: (p ++ m)) = _
    rw [df_cons, df_app p l m, if_pos rfl, Nat.add_zero]
theorem ch_inj : ∀ a < 32, ∀ b < 32, CH.getD a 0 = CH.getD b 0 → a = b := by decide +kernel
theorem df_chs : ∀ S S' : List Nat, S.length = S'.length → (∀ d ∈ S, d < 32) → (∀ d ∈ S', d < 32) → df (chs S) (chs S') = wt (zx S S')
  | [], [], _, _, _ => rfl
  | a :: S, b :: S', hl, h, h' => by
    show df (CH.getD a 0 :: chs S) (CH.getD b 0 :: chs S') = wt ((a ^^^ b) :: zx S S')
    rw [df_cons, df_chs S S' (by simpa using hl) (fun d hd => h d (.tail _ hd)) (fun d hd => h' d (.tail _ hd)), wt]
    by_cases e : a = b
    · rw [if_pos (by rw [e]), if_pos (by rw [e, Nat.xor_self])]
    · rw [if_neg (fun q => e (ch_inj a (h a (.head _)) b (h' b (.head _)) q)), if_neg (fun q => e (xor_cancel q))]
theorem wt_app : ∀ l m : List Nat, wt (l ++ m) = wt l + wt m
  | [], m => by simp [wt]
  | d :: l, m => by
    show wt (d :: (l ++ m)) = _
    rw [wt, wt, wt_app l m]; omega
theorem wt_rev : ∀ l : List Nat, wt l.reverse = wt l
  | [] => rfl
  | d :: l => by
    rw [List.reverse_cons, wt_app, wt_rev l]
    simp [wt]
theorem wt_zx0 : ∀ S S' : List Nat, S.length = S'.length → wt (zx S S') = 0 → S = S'
  | [], [], _, _ => rfl
  | a :: S, b :: S', hl, h => by
    replace h : wt ((a ^^^ b) :: zx S S') = 0 := h
    rw [wt] at h
    by_cases e : a ^^^ b = 0
    · rw [xor_cancel e, wt_zx0 S S' (by simpa using hl) (by omega)]
    · rw [if_neg e] at h; omega
theorem wt_zx_self : ∀ S : List Nat, wt (zx S S) = 0
  | [] => rfl
  | a :: S => by
    show wt ((a ^^^ a) :: zx S S) = 0
    rw [wt, wt_zx_self S, Nat.xor_self]; rfl
theorem zx_lt : ∀ S S' : List Nat, (∀ d ∈ S, d < 32) → (∀ d ∈ S', d < 32) → ∀ d ∈ zx S S', d < 32
  | [], _, _, _, d, h => by simp [zx] at h
  | _ :: _, [], _, _, d, h => by simp [zx] at h
  | a :: S, b :: S', h1, h2, d, h => by
    rcases List.mem_cons.mp h with rfl | h
    · exact Nat.xor_lt_two_pow (n := 5) (h1 a (.head _)) (h2 b (.head _))
    · exact zx_lt S S' (fun d hd => h1 d (.tail _ hd)) (fun d hd => h2 d (.tail _ hd)) d h
/-- at how many places two addresses part -/
def parts (x : List Nat) (sz a b : Nat) : Nat := ((List.range (addr x (sg sz a)).length).filter fun i => decide ((addr x (sg sz a)).getD i 0 ≠ (addr x (sg sz b)).getD i 0)).length
theorem parts_far {x : List Nat} {sz a b : Nat} (hs : sz ≤ 12) (ha : a < 2 ^ (8 * sz)) (hb : b < 2 ^ (8 * sz)) : (parts x sz a b = 0 ↔ a = b) ∧ ¬ (0 < parts x sz a b ∧ parts x sz a b < 4) := by
  have hlt : ∀ q, ∀ d ∈ sg sz q ++ create x (sg sz q), d < 32 := fun q d hd => by
    rcases List.mem_append.mp hd with h | h
    · exact sg_lt _ _ d h
    · exact create_lt _ _ d h
  have hln : ∀ q, (sg sz q ++ create x (sg sz q)).length = (8 * sz + 4) / 5 + 6 := fun q => by rw [List.length_append, sg_len, create_len]
  have e : parts x sz a b = wt (zx (sg sz a ++ create x (sg sz a)) (sg sz b ++ create x (sg sz b))) := by
    rw [← df_chs _ _ (by rw [hln, hln]) (hlt a) (hlt b)]
    show df (addr x (sg sz a)) (addr x (sg sz b)) = _
    unfold addr
    rw [df_app]
  have hS : Sy (zx (sg sz a ++ create x (sg sz a)) (sg sz b ++ create x (sg sz b))).reverse = 0 := by
    rw [← fold_Sy]
    have h := fold_xor (sg sz a ++ create x (sg sz a)) (sg sz b ++ create x (sg sz b)) (List.foldl pmStep 1 (hexp x)) (List.foldl pmStep 1 (hexp x)) (by rw [hln, hln])
    have h1 : ∀ q, List.foldl pmStep (List.foldl pmStep 1 (hexp x)) (sg sz q ++ create x (sg sz q)) = 1 := fun q => by
      rw [← List.foldl_append]
      exact verifies
    rw [h1, h1, Nat.xor_self, Nat.xor_self] at h
    exact h
  have far := wt_far _ (fun d hd => zx_lt _ _ (hlt a) (hlt b) d (List.mem_reverse.mp hd)) (by rw [List.length_reverse, zx_len _ _ (by rw [hln, hln]), hln]; omega) hS
  rw [wt_rev, ← e] at far
  refine ⟨⟨fun h => ?_, fun h => ?_⟩, fun h => by omega⟩
  · rw [e] at h
    have h2 := wt_zx0 _ _ (by rw [hln, hln]) h
    have h3 := (List.append_inj h2 (by rw [sg_len, sg_len])).1
    rw [← num_oct ha, ← num_oct hb, ← back_cv ha, ← back_cv hb, h3]
  · rw [e, h, wt_zx_self]
end Mine
end
section
open PySem PySem.W PySem.Calls PyProof.Rows
set_option linter.unusedSimpArgs false
set_option linter.unusedVariables false
namespace Mine
/-- a thing said of a function's loop: its qualname, its scope, its code and the loop's body -/
def AtLoop (K : Frag) (f : Addr) (k : Nat) (Z : Str → Scope → Value → List Stmt → Prop) : Prop :=
  ∀ (name qual : Str) (params : Arguments) (body : List Stmt) (scope : Scope) (dV kV doc pm cdv ct oc : Value) (an od : Option Addr) (osl : Array (Option Value)) (t it : Expr) (lb : List Stmt) (pos : Pos),
    K.lookup f = some ⟨oc, od, .func (fnOf name qual params body scope dV kV doc pm an cdv ct), osl⟩ → body[k]? = some (.For t it lb [] pos) → Z qual scope cdv lb
theorem atLoop_of {K : Frag} {f : Addr} {k : Nat} {Z : Str → Scope → Value → List Stmt → Prop} {name qual : Str} {params : Arguments} {body : List Stmt} {scope : Scope} {dV kV doc pm cdv ct oc : Value} {an od : Option Addr} {osl : Array (Option Value)} {t it : Expr} {lb : List Stmt} {pos : Pos}
    (ho : K.lookup f = some ⟨oc, od, .func (fnOf name qual params body scope dV kV doc pm an cdv ct), osl⟩) (hk : body[k]? = some (.For t it lb [] pos)) (h : Z qual scope cdv lb) : AtLoop K f k Z := by
  intro name' qual' params' body' scope' dV' kV' doc' pm' cdv' ct' oc' an' od' osl' t' it' lb' pos' ho' hk'
  rw [ho] at ho'
  cases ho'
  rw [hk] at hk'
  cases hk'
  exact h
theorem AtLoop.use {K : Frag} {f : Addr} {k : Nat} {Z : Str → Scope → Value → List Stmt → Prop} {name qual : Str} {params : Arguments} {body : List Stmt} {scope : Scope} {dV kV doc pm cdv ct oc : Value} {an od : Option Addr} {osl : Array (Option Value)} {t it : Expr} {lb : List Stmt} {pos : Pos}
    (ho : K.lookup f = some ⟨oc, od, .func (fnOf name qual params body scope dV kV doc pm an cdv ct), osl⟩) (hk : body[k]? = some (.For t it lb [] pos)) (a : AtLoop K f k Z) : Z qual scope cdv lb := a _ _ _ _ _ _ _ _ _ _ _ _ _ _ _ _ _ _ _ ho hk
/-- the same of a loop within a loop -/
def AtInner (K : Frag) (f : Addr) (k k2 : Nat) (Z : Str → Scope → Value → List Stmt → Prop) : Prop :=
  ∀ (name qual : Str) (params : Arguments) (body : List Stmt) (scope : Scope) (dV kV doc pm cdv ct oc : Value) (an od : Option Addr) (osl : Array (Option Value)) (t it : Expr) (lb : List Stmt) (pos : Pos) (t2 it2 : Expr) (lb2 : List Stmt) (pos2 : Pos),
    K.lookup f = some ⟨oc, od, .func (fnOf name qual params body scope dV kV doc pm an cdv ct), osl⟩ → body[k]? = some (.For t it lb [] pos) → lb[k2]? = some (.For t2 it2 lb2 [] pos2) → Z qual scope cdv lb2
theorem atInner_of {K : Frag} {f : Addr} {k k2 : Nat} {Z : Str → Scope → Value → List Stmt → Prop} {name qual : Str} {params : Arguments} {body : List Stmt} {scope : Scope} {dV kV doc pm cdv ct oc : Value} {an od : Option Addr} {osl : Array (Option Value)} {t it t2 it2 : Expr} {lb lb2 : List Stmt} {pos pos2 : Pos}
    (ho : K.lookup f = some ⟨oc, od, .func (fnOf name qual params body scope dV kV doc pm an cdv ct), osl⟩) (hk : body[k]? = some (.For t it lb [] pos)) (hk2 : lb[k2]? = some (.For t2 it2 lb2 [] pos2)) (h : Z qual scope cdv lb2) : AtInner K f k k2 Z := by
  intro name' qual' params' body' scope' dV' kV' doc' pm' cdv' ct' oc' an' od' osl' t' it' lb' pos' t2' it2' lb2' pos2' ho' hk' hk2'
  rw [ho] at ho'
  cases ho'
  rw [hk] at hk'
  cases hk'
  rw [hk2] at hk2'
  cases hk2'
  exact h
theorem AtInner.use {K : Frag} {f : Addr} {k k2 : Nat} {Z : Str → Scope → Value → List Stmt → Prop} {name qual : Str} {params : Arguments} {body : List Stmt} {scope : Scope} {dV kV doc pm cdv ct oc : Value} {an od : Option Addr} {osl : Array (Option Value)} {t it t2 it2 : Expr} {lb lb2 : List Stmt} {pos pos2 : Pos}
    (ho : K.lookup f = some ⟨oc, od, .func (fnOf name qual params body scope dV kV doc pm an cdv ct), osl⟩) (hk : body[k]? = some (.For t it lb [] pos)) (hk2 : lb[k2]? = some (.For t2 it2 lb2 [] pos2)) (a : AtInner K f k k2 Z) : Z qual scope cdv lb2 := a _ _ _ _ _ _ _ _ _ _ _ _ _ _ _ _ _ _ _ _ _ _ _ ho hk hk2
theorem atLoop_with {K : Frag} {f : Addr} {k k2 : Nat} {Z Z2 : Str → Scope → Value → List Stmt → Prop} {name qual : Str} {params : Arguments} {body : List Stmt} {scope : Scope} {dV kV doc pm cdv ct oc : Value} {an od : Option Addr} {osl : Array (Option Value)} {t it t2 it2 : Expr} {lb lb2 : List Stmt} {pos pos2 : Pos}
    (ho : K.lookup f = some ⟨oc, od, .func (fnOf name qual params body scope dV kV doc pm an cdv ct), osl⟩) (hk : body[k]? = some (.For t it lb [] pos)) (hk2 : lb[k2]? = some (.For t2 it2 lb2 [] pos2)) (a : AtInner K f k k2 Z2) (h : Z2 qual scope cdv lb2 → Z qual scope cdv lb) : AtLoop K f k Z :=
  atLoop_of ho hk (h (a.use ho hk hk2))
theorem enterL {prog : Program} {w : World} {d u : Nat} {s : Shared} {K : Frag} {Q E : Value → Shared → Prop} {name qual : Str} {params : Arguments} {body : List Stmt} {scope : Scope} {dV kV doc pm cdv ct oc : Value} {an od : Option Addr} {osl : Array (Option Value)} {f : Addr} {args : List Value} {binds : List (Str × Value)}
    {k : Nat} {Z : Str → Scope → Value → List Stmt → Prop} {t it : Expr} {lb : List Stmt} {pos : Pos}
    (X : K.In s.heap) (hlim : s.heap.NoLimit)
    (ho : K.lookup f = some ⟨oc, od, .func (fnOf name qual params body scope dV kV doc pm an cdv ct), osl⟩) (hcd : codeIn K cdv qual = true) (hroom : d < recursionLimit)
    (hbind : BindsTo s (fnOf name qual params body scope dV kV doc pm an cdv ct) ⟨args, []⟩ binds)
    (hkind : (binds.all fun y => scope.names.lookup y.1 == some .local || scope.names.lookup y.1 == some .cell) = true)
    (hnd : ((cellsFrom 0 scope.names []).map (·.1)).Nodup)
    (hco : scope.isCoroutine = false) (hgen : scope.isGenerator = false) (hk : scope.kind = .function)
    (hl : body[k]? = some (.For t it lb [] pos)) (a : AtLoop K f k Z)
    (h : Z qual scope cdv lb → ∀ h₁ tk cells, Fr s.heap s.heap.objs.size h₁ (bindL (envOfC qual scope s.heap.objs.size f cdv).kindOf binds fun _ => none) → News s.heap s.heap.objs.size h₁ cells →
      CellsAre (bindC (envOfC qual scope s.heap.objs.size f cdv).kindOf binds fun _ => none) (cellsFrom (s.heap.objs.size + 1) scope.names []) cells →
      wpAny (model prog w) ((Aat d u).deeper (envOfC qual scope s.heap.objs.size f cdv)) (execs body (envOfC qual scope s.heap.objs.size f cdv))
        (fun fl s' => Q (match fl with | .ret v => v | _ => .none) s') (fun _ _ => False) { s with heap := h₁, toks := tk }) :
    wpAny (model prog w) (Aat d u) (call (.ref f) args) Q E s :=
  enterC X hlim ho hcd hroom hbind hkind hnd hco hgen hk (h (a.use ho hl))
theorem lm_tk {m0 : Str → Option Value} {kv tv jv uv kv' tv' : Option Value} : (fun y => if y = Str.ofString "told" then tv' else if y = Str.ofString "k" then kv' else lm m0 kv tv jv uv y) = lm m0 kv' tv' jv uv := by
  have d1 : ¬ Str.ofString "told" = Str.ofString "unlike" := by decide
  have d2 : ¬ Str.ofString "told" = Str.ofString "j" := by decide
  have d3 : ¬ Str.ofString "k" = Str.ofString "unlike" := by decide
  have d4 : ¬ Str.ofString "k" = Str.ofString "j" := by decide
  have d5 : ¬ Str.ofString "k" = Str.ofString "told" := by decide
  funext y
  unfold lm
  by_cases h1 : y = Str.ofString "told"
  · rw [if_pos h1, h1, if_neg d1, if_neg d2, if_pos rfl]
  · by_cases h2 : y = Str.ofString "k"
    · rw [if_neg h1, if_pos h2, h2, if_neg d3, if_neg d4, if_neg d5, if_pos rfl]
    · rw [if_neg h1, if_neg h2, if_neg h1, if_neg h2, if_neg h1, if_neg h2]
/-- what the law's outer loop keeps -/
def LawT (ps : Array Value) (P : Addr) (rest : List (Addr × Obj)) (m0 : Str → Option Value) (os0 : OsState) : Nat → (Str → Option Value) → List (Addr × Obj) → Array GenState → OsState → Prop :=
  fun _ m news gens os => AllBare gens ∧ os = os0 ∧ (∃ kv tv jv uv, m = lm m0 kv tv jv uv) ∧ ∃ psn more, psn = ps ++ more ∧ TriplesOk psn.toList ∧ news = (P, tbl psn) :: rest
/-- what the law's inner loop keeps -/
def LawI (news0 : List (Addr × Obj)) (m0 : Str → Option Value) (kv tv : Option Value) (os0 : OsState) : Nat → (Str → Option Value) → List (Addr × Obj) → Array GenState → OsState → Prop :=
  fun _ m news gens os => AllBare gens ∧ os = os0 ∧ (∃ jv uv, m = lm m0 kv tv jv uv) ∧ news = news0
theorem four_lt {p0 p1 p2 p3 n i : Nat} (h0 : p0 < n) (h1 : p1 < n) (h2 : p2 < n) (h3 : p3 < n) (hi : i < 4) : [p0, p1, p2, p3].getD i 0 < n := by
  match i, hi with
  | 0, _ => exact h0
  | 1, _ => exact h1
  | 2, _ => exact h2
  | 3, _ => exact h3
end Mine
end
section
open PySem PySem.W PySem.Calls PyProof.Rows
set_option linter.unusedSimpArgs false
set_option linter.unusedVariables false
namespace Mine
local macro_rules | `(tactic| walk_at "binaryOp LShift int int") => `(tactic| (refine lshift_int_small (by decide) (by decide) (by assumption) ?_))
local macro_rules | `(tactic| walk_at "eval Name") => `(tactic| (k_here; (with_reducible show wpAny _ _ (eval _ (compEnvC _ _ _ _)) _ _ _); k_dflt (first
  | (refine' kcf_cell ?N ?c ?m ?d ?_ ?a ?b ?e; (case a => rfl); (case b => rfl); (case e => decide); (case N => k_asm); (case c => rfl); (case m => k_mem); (case d => k_asm); k_whole)
  | (refine' nmL ?n ?v ?_ ?a ?b ?c; (case a => rfl); (case b => rfl); (case c => decide); (case n => assumption); (case v => assumption); k_whole)
  | (refine' nmB ?F ?X ?T ?e ?v ?n ?_ ?a ?b ?c ?d ?g; (case a => rfl); (case b => rfl); (case c => rfl); (case d => rfl); (case g => decide); (case F => k_asm); (case X => k_asm); (case T => k_asm); (case e => k_is); (case v => boot_fast); (case n => decide); k_whole)
  | (refine' nameG_K ?F ?X ?T ?e ?_ ?a ?b ?c ?d; (case a => rfl); (case b => rfl); (case c => rfl); (case d => decide); (case F => k_asm); (case X => k_asm); (case T => k_asm); (case e => k_is); k_whole))))
local macro_rules | `(tactic| walk_at "eval Name") => `(tactic| (k_here; (with_reducible show wpAny _ _ (eval _ (genEnv _ _ _ _ _ _)) _ _ _); k_dflt (first
  | (refine' gnL ?n ?v ?_ ?a ?b ?c; (case a => rfl); (case b => rfl); (case c => decide); (case n => assumption); (case v => assumption); k_whole)
  | (refine' gnB' ?X ?T ?e ?v ?n ?_ ?a ?b ?c ?d ?g; (case a => rfl); (case b => rfl); (case c => rfl); (case d => rfl); (case g => decide); (case X => assumption); (case T => assumption); (case e => k_is); (case v => boot_fast); (case n => decide); k_whole)
  | (refine' gnG' ?X ?T ?e ?_ ?a ?b ?c ?d; (case a => rfl); (case b => rfl); (case c => rfl); (case d => decide); (case X => assumption); (case T => assumption); (case e => k_is); k_whole))))
local macro_rules | `(tactic| ktr_unf) => `(tactic| (repeat' (first
   | (k_unmd; k_unfold; (try dsimp only))
   | ((fail_if_success (with_reducible show Exists _)); (fail_if_success (with_reducible show Keeps _ _ ∧ _)); (fail_if_success (with_reducible show InvEndN _ _ _ _ _ _ _)); (fail_if_success (with_reducible show KswEnd _ _ _ _ _ _ _ _ _ _ _ _)); (fail_if_success (with_reducible show wpAny _ _ (exec (Stmt.For _ _ _ _ _) _) _ _ _)); (fail_if_success (with_reducible show wpAny _ _ (pyIter _) _ _ _)); (fail_if_success (with_reducible show wpAny _ _ (eval (Expr.Subscript (Expr.List _ _) (Expr.BinOp _ _ _ _) _) _) _ _ _)); (fail_if_success (with_reducible show wpAny _ _ (subscriptTail (Expr.List _ _) _ _ (Value.int _ _)) _ _ _)); (fail_if_success (with_reducible show wpAny _ _ (subscriptTail (Expr.Name _ _) (Expr.Slice (some (Expr.Call _ _ _ _)) _ _ _) _ _) _ _ _)); (fail_if_success (with_reducible show wpAny _ _ (PySem.call (Value.type "bytes") _) _ _ _)); (fail_if_success (with_reducible show wpAny _ _ (PySem.call (Value.type "zip") _) _ _ _)); (fail_if_success (with_reducible show TurnEnd _ _ _ _ _ _ _ _ _)); (fail_if_success (with_reducible show wpAny _ _ (subscriptTail _ (Expr.Name _ _) _ _) _ _ _)); (fail_if_success (with_reducible show wpAny _ _ (eval (Expr.GeneratorExp _ _ _ _) _) _ _ _)); (fail_if_success (with_reducible show wpAny _ _ (PySem.call (Value.builtin "any") _) _ _ _)); (fail_if_success (with_reducible show wpAny _ _ (PySem.call (Value.builtin "str.rfind") _) _ _ _)); (fail_if_success (with_reducible show wpAny _ _ (PySem.call (Value.builtin "all") _) _ _ _)); (fail_if_success (with_reducible show wpAny _ _ (PySem.call (Value.ref _) _) _ _ _)); (fail_if_success (with_reducible show wpAny _ _ (exec (Stmt.While _ _ _ _) _) _ _ _)); (fail_if_success (with_reducible show wpAny _ _ (eval (Expr.ListComp _ _ _ _) _) _ _ _)); (fail_if_success (with_reducible show wpAny _ _ (exec (Stmt.Assign _ (Expr.ListComp _ _ _ _) _) _) _ _ _)); walk1))))
local macro_rules | `(tactic| ktr_units) => `(tactic| (repeat' (first
   | (k_unmd; k_unfold; (try dsimp only))
   | ((fail_if_success (with_reducible show Exists _)); (fail_if_success (with_reducible show Keeps _ _ ∧ _)); (fail_if_success (with_reducible show InvEndN _ _ _ _ _ _ _)); (fail_if_success (with_reducible show KswEnd _ _ _ _ _ _ _ _ _ _ _ _)); (fail_if_success (with_reducible show wpAny _ _ (exec (Stmt.For _ _ _ _ _) _) _ _ _)); (fail_if_success (with_reducible show wpAny _ _ (pyIter _) _ _ _)); (fail_if_success (with_reducible show wpAny _ _ (eval (Expr.Subscript (Expr.List _ _) (Expr.BinOp _ _ _ _) _) _) _ _ _)); (fail_if_success (with_reducible show wpAny _ _ (subscriptTail (Expr.List _ _) _ _ (Value.int _ _)) _ _ _)); (fail_if_success (with_reducible show wpAny _ _ (subscriptTail (Expr.Name _ _) (Expr.Slice (some (Expr.Call _ _ _ _)) _ _ _) _ _) _ _ _)); (fail_if_success (with_reducible show wpAny _ _ (PySem.call (Value.type "bytes") _) _ _ _)); (fail_if_success (with_reducible show wpAny _ _ (PySem.call (Value.type "zip") _) _ _ _)); (fail_if_success (with_reducible show TurnEnd _ _ _ _ _ _ _ _ _)); (fail_if_success (with_reducible show wpAny _ _ (binaryOp Operator.Add (Value.str _ _) _) _ _ _)); (fail_if_success (with_reducible show wpAny _ _ (binaryOp Operator.Add (Value.ref _) (Value.ref _)) _ _ _)); (fail_if_success (with_reducible show wpAny _ _ (subscriptTail _ (Expr.Name _ _) _ _) _ _ _)); (fail_if_success (with_reducible show wpAny _ _ (eval (Expr.GeneratorExp _ _ _ _) _) _ _ _)); (fail_if_success (with_reducible show wpAny _ _ (PySem.call (Value.builtin "any") _) _ _ _)); (fail_if_success (with_reducible show wpAny _ _ (PySem.call (Value.builtin "str.rfind") _) _ _ _)); (fail_if_success (with_reducible show wpAny _ _ (PySem.call (Value.builtin "all") _) _ _ _)); (fail_if_success (with_reducible show wpAny _ _ (PySem.call (Value.ref _) _) _ _ _)); (fail_if_success (with_reducible show wpAny _ _ (exec (Stmt.While _ _ _ _) _) _ _ _)); (fail_if_success (with_reducible show wpAny _ _ (eval (Expr.ListComp _ _ _ _) _) _ _ _)); (fail_if_success (with_reducible show wpAny _ _ (exec (Stmt.Assign _ (Expr.ListComp _ _ _ _) _) _) _ _ _)); walk1))))
local macro_rules | `(tactic| ktr_rel) => `(tactic| (repeat' (first
   | (k_unmd; k_unfold; (try dsimp only))
   | ((fail_if_success (with_reducible show Exists _)); (fail_if_success (with_reducible show Keeps _ _ ∧ _)); (fail_if_success (with_reducible show InvEndN _ _ _ _ _ _ _)); (fail_if_success (with_reducible show KswEnd _ _ _ _ _ _ _ _ _ _ _ _)); (fail_if_success (with_reducible show wpAny _ _ (exec (Stmt.For _ _ _ _ _) _) _ _ _)); (fail_if_success (with_reducible show wpAny _ _ (pyIter _) _ _ _)); (fail_if_success (with_reducible show wpAny _ _ (eval (Expr.Subscript (Expr.List _ _) (Expr.BinOp _ _ _ _) _) _) _ _ _)); (fail_if_success (with_reducible show wpAny _ _ (subscriptTail (Expr.List _ _) _ _ (Value.int _ _)) _ _ _)); (fail_if_success (with_reducible show wpAny _ _ (subscriptTail (Expr.Name _ _) (Expr.Slice (some (Expr.Call _ _ _ _)) _ _ _) _ _) _ _ _)); (fail_if_success (with_reducible show wpAny _ _ (PySem.call (Value.type "bytes") _) _ _ _)); (fail_if_success (with_reducible show wpAny _ _ (PySem.call (Value.type "zip") _) _ _ _)); (fail_if_success (with_reducible show TurnEnd _ _ _ _ _ _ _ _ _)); (fail_if_success (with_reducible show wpAny _ _ (subscriptTail _ (Expr.Name _ _) _ _) _ _ _)); (fail_if_success (with_reducible show wpAny _ _ (eval (Expr.GeneratorExp _ _ _ _) _) _ _ _)); (fail_if_success (with_reducible show wpAny _ _ (PySem.call (Value.builtin "any") _) _ _ _)); (fail_if_success (with_reducible show wpAny _ _ (PySem.call (Value.builtin "str.rfind") _) _ _ _)); (fail_if_success (with_reducible show wpAny _ _ (PySem.call (Value.builtin "all") _) _ _ _)); (fail_if_success (with_reducible show wpAny _ _ (exec (Stmt.While _ _ _ _) _) _ _ _)); (fail_if_success (with_reducible show wpAny _ _ (eval (Expr.ListComp _ _ _ _) _) _ _ _)); (fail_if_success (with_reducible show wpAny _ _ (exec (Stmt.Assign _ (Expr.ListComp _ _ _ _) _) _) _ _ _)); walk1))))


theorem ch_ascii (d : Nat) : CH.getD d 0 < 128 := by
  by_cases h : d < 32
  · have : ∀ d < 32, CH.getD d 0 < 128 := by decide +kernel
    exact this d h
  · rw [List.getD_eq_getElem?_getD, List.getElem?_eq_none (by simpa [CH] using h)]
    decide
theorem addr_ascii {x : List Nat} {sz : Nat} (p : Nat) (hx : ∀ c ∈ x, c < 128) : (⟨(addr x (sg sz p)).toArray⟩ : Str).cps.all (· < 128) = true := by
  rw [Array.all_eq_true]
  intro i hi
  have hm : (⟨(addr x (sg sz p)).toArray⟩ : Str).cps[i] ∈ addr x (sg sz p) := by simp
  refine decide_eq_true ?_
  generalize (⟨(addr x (sg sz p)).toArray⟩ : Str).cps[i] = c at hm
  unfold addr chs at hm
  simp only [List.append_assoc, List.mem_append, List.mem_map, List.mem_singleton] at hm
  rcases hm with h | rfl | ⟨d, _, rfl⟩
  · exact hx c h
  · decide
  · exact ch_ascii d
theorem getD_of {l : List Nat} {n c : Nat} (h : (⟨l.toArray⟩ : Str).cps[n]? = some c) : l.getD n 0 = c := by
  have : l[n]? = some c := by simpa using h
  rw [List.getD, this]; rfl
theorem bne_one (a b : Nat) : ((⟨#[a]⟩ : Str) != ⟨#[b]⟩) = decide (a ≠ b) := by
  by_cases h : a = b
  · subst h; simp
  · have : (⟨#[a]⟩ : Str) ≠ ⟨#[b]⟩ := fun e => by
      have := congrArg Str.cps e
      simp at this
      exact h this
    simp [bne, h, this]
theorem picks_at {ws : List Value} {p0 p1 p2 p3 i : Nat} (h : IntsAre ws (casts [p0, p1, p2] ++ [(p3 : Int)])) (hi : i < 4) : ∃ t, ws.toArray[(i : Int).toNat]? = some (.int (([p0, p1, p2, p3].getD i 0 : Nat) : Int) t) ∧ ws.toArray.size = 4 := by
  have hl : ws.length = 4 := h.length
  replace h : IntsAre ws (casts [p0, p1, p2, p3]) := h
  have hv : ws.toArray[i]? = some ws[i] := by simp [hl, hi]
  obtain ⟨z, tz, hz, e⟩ := ints_at h hv
  refine ⟨tz, ?_, by simp [hl]⟩
  rw [Int.toNat_natCast, hv, e, List.getD, hz]
  rfl
theorem no_bne {u a b : Nat} (h : u = 0 ↔ a = b) : (((u : Int) == 0) != ((a : Int) == (b : Int))) = false := by
  by_cases e : a = b
  · have e0 := h.mpr e
    subst e
    rw [e0]
    simp
  · have e0 : u ≠ 0 := fun q => e (h.mp q)
    have e1 : ((u : Int) == 0) = false := by simpa using e0
    have e2 : ((a : Int) == (b : Int)) = false := beq_eq_false_iff_ne.mpr fun q => e (Int.ofNat_inj.mp q)
    rw [e1, e2]
    rfl
theorem lm_uj {m0 : Str → Option Value} {kv tv jv uv jv' uv' : Option Value} : (fun y => if y = Str.ofString "unlike" then uv' else if y = Str.ofString "j" then jv' else lm m0 kv tv jv uv y) = lm m0 kv tv jv' uv' := by
  funext y
  unfold lm
  split
  · rfl
  · split
    · rfl
    · rfl
theorem addr_size {x : List Nat} {sz p : Nat} : (⟨(addr x (sg sz p)).toArray⟩ : Str).cps.size = x.length + 1 + ((8 * sz + 4) / 5 + 6) := by
  show (addr x (sg sz p)).toArray.size = _
  simp [addr, chs, sg_len, create_len]
  omega
set_option maxRecDepth 100000 in
set_option maxHeartbeats 8000000 in
/-- a turn of the law's inner loop: two addresses held against one another -/
theorem law_inner (w : World) : AtInner (hd.heap_39 w.params) 171 11 3 fun qual scope cdv lb =>
    ∀ {mg mb : Str → Option Value} {B0 : Heap} {L J D5 D : Addr} {s : Shared} {m0 : Str → Option Value} {news0 : List (Addr × Obj)} {tv jv uv : Option Value} {ti tj : Tok} {i j sz : Nat} {x : List Nat} {p0 p1 p2 p3 : Nat} {ta0 ta1 ta2 ta3 t4 : Tok} {ys : List Value} {D4 D3 D2 : Addr} {bot : Str → Option Value} {Q : Flow → Shared → Prop} {E : Value → Shared → Prop},
    (hd.heap_39 w.params).In B0 → TopRead hd.view_39 Lo mg mb B0 →
    (m0 = fun z => if z = Str.ofString "addresses" then some (Value.ref D5) else if z = Str.ofString "sums" then some (Value.ref D4) else if z = Str.ofString "signs" then some (Value.ref D3) else if z = Str.ofString "octets" then some (Value.ref D2) else if z = Str.ofString "fourth" then some (Value.int (p3 : Int) t4) else if z = Str.ofString "picks" then some (Value.ref D) else bot z) →
    i < 4 → j < i → sz ≤ 12 → p0 < 2 ^ (8 * sz) → p1 < 2 ^ (8 * sz) → p2 < 2 ^ (8 * sz) → p3 < 2 ^ (8 * sz) →
    x.length ≤ 100 → (∀ c ∈ x, c < 128) → IntsAre ys (casts [p0, p1, p2]) →
    AllBare s.gens →
    Fr B0 L s.heap (fun y => if y = Str.ofString "j" then some (.int (j : Int) tj) else lm m0 (some (.int (i : Int) ti)) tv jv uv y) →
    News B0 L s.heap ((D5, LCg.lst [Value.str ⟨(addr x (sg sz ([p0, p1, p2, p3].getD 0 0))).toArray⟩ ta0, Value.str ⟨(addr x (sg sz ([p0, p1, p2, p3].getD 1 0))).toArray⟩ ta1, Value.str ⟨(addr x (sg sz ([p0, p1, p2, p3].getD 2 0))).toArray⟩ ta2, Value.str ⟨(addr x (sg sz ([p0, p1, p2, p3].getD 3 0))).toArray⟩ ta3]) :: (D, LCg.lst ys) :: (J, rangeIt (j + 1) i) :: news0) →
    (∀ p ∈ news0, p.1 ≠ J) →
    wpAny (model PySem.Challenge.rw_vn0023_01.row.prog w) ((Aat 400 1000).deeper (envOfC qual scope L 171 cdv)) (execs lb (envOfC qual scope L 171 cdv))
      (TurnEnd B0 L J (rangeIt (j + 1) i) (LawI news0 m0 (some (.int (i : Int) ti)) tv s.os) Q (j + 1)) E s := by
  refine' atInner_of ?ho ?hk ?hk2 ?_
  case ho => k_is
  case hk => rfl
  case hk2 => rfl
  intro mg mb B0 L J D5 D s m0 news0 tv jv uv ti tj i j sz x p0 p1 p2 p3 ta0 ta1 ta2 ta3 t4 ys D4 D3 D2 bot Q E X T hm0 hi4 hji hs12 hp0 hp1 hp2 hp3 hx hx128 I8 hb FL NL hnJ
  subst hm0
  have hj4 : j < 4 := by omega
  obtain ⟨vA, hxA, tA, rfl⟩ := four_at (fun j v => ∃ t, v = Value.str ⟨(addr x (sg sz ([p0, p1, p2, p3].getD j 0))).toArray⟩ t) ⟨ta0, rfl⟩ ⟨ta1, rfl⟩ ⟨ta2, rfl⟩ ⟨ta3, rfl⟩ hi4
  obtain ⟨vB, hxB, tB, rfl⟩ := four_at (fun j v => ∃ t, v = Value.str ⟨(addr x (sg sz ([p0, p1, p2, p3].getD j 0))).toArray⟩ t) ⟨ta0, rfl⟩ ⟨ta1, rfl⟩ ⟨ta2, rfl⟩ ⟨ta3, rfl⟩ hj4
  have hqi : [p0, p1, p2, p3].getD i 0 < 2 ^ (8 * sz) := four_lt hp0 hp1 hp2 hp3 hi4
  have hqj : [p0, p1, p2, p3].getD j 0 < 2 ^ (8 * sz) := four_lt hp0 hp1 hp2 hp3 hj4
  k_unmd; k_fold
  ktr_unf
  refine comp_eval0 (fun q => decide ((addr x (sg sz ([p0, p1, p2, p3].getD j 0))).getD q 0 ≠ (addr x (sg sz ([p0, p1, p2, p3].getD i 0))).getD q 0)) (fun _ q y _ => ∃ t, y = .int 1 t) (fun _ _ _ _ _ h _ => h) rfl (by decide) rfl (by decide) ?_
  ktr_unf
  refine item_listR (isList_lst (NL.get (.head _))) (Int.natCast_nonneg _) (by omega) hxB ?_
  ktr_unf
  refine item_listR (isList_lst (NL.get (.head _))) (Int.natCast_nonneg _) (by omega) hxA ?_
  ktr_unf
  have ZB := zipArg_ascii (prog := PySem.Challenge.rw_vn0023_01.row.prog) (w := w) (t := tB) (addr_ascii (sz := sz) ([p0, p1, p2, p3].getD j 0) hx128)
  have ZA := zipArg_ascii (prog := PySem.Challenge.rw_vn0023_01.row.prog) (w := w) (t := tA) (addr_ascii (sz := sz) ([p0, p1, p2, p3].getD i 0) hx128)
  rw [addr_size] at ZA ZB
  refine call_zip2 ZB ZA trivial trivial fun h' z TI TO i1 i2 hz hTI hTO q1 q2 a1 a2 a4 a5 a6 hk' => ?_
  ktr_unf
  refine ⟨{ s with toks := s.toks + 1 + 1 }, _, _, ?_, it_zip2 rfl ZB ZA trivial trivial hz hTI hTO q1 q2 a1 a2 a4 a5 a6 ⟨h', _, rfl, hk'⟩, turn_tup2 rfl (by decide) (by decide) rfl (by decide) ?_ ?_, ?_⟩
  · rw [sizeLine_eq]; omega
  · rintro n xv yv C s₄ m₄ E' hi hx hy hn hxm hym hC hk ⟨h4, tk4, rfl⟩
    obtain ⟨cx, ux, hcx, rfl⟩ := hx
    obtain ⟨cy, uy, hcy, rfl⟩ := hy
    dsimp only at hn hk
    have F4 : Fr B0 L h4 _ := FL.keeps hk
    have N4 : News B0 L h4 _ := NL.grown hk
    k_unmd; k_fold
    ktr_unf
    · have e1 : (addr x (sg sz ([p0, p1, p2, p3].getD j 0))).getD n 0 = cx := getD_of hcx
      have e2 : (addr x (sg sz ([p0, p1, p2, p3].getD i 0))).getD n 0 = cy := getD_of hcy
      rw [e1, e2]
      exact bne_one cx cy
    · exact ⟨_, _, rfl, fun _ _ e => e⟩
  · rintro n C bad s₄ E' hi hk ⟨h4, tk4, rfl⟩
    dsimp only at hk
    have F4 : Fr B0 L h4 _ := FL.keeps hk
    have N4 : News B0 L h4 _ := NL.grown hk
    k_unmd; k_fold
    ktr_unf
    exact ⟨⟨_, _, rfl, fun _ _ e => e⟩, _, rfl⟩
  · intro D8 bad h8 tk8 ys8 hD hl8 hP hk8
    dsimp only at hD hk8
    have N8 := news_add FL NL hk8 hD hl8
    have F8 := FL.keeps hk8
    k_unmd
    try k_unfold
    dsimp only
    try k_fold
    have hlD : h8.IsList D8 ys8.toArray := isList_lst (N8.get (.head _))
    ktr_unf
    have hlen8 : ys8.length = parts x sz ([p0, p1, p2, p3].getD j 0) ([p0, p1, p2, p3].getD i 0) := by
      rw [← hP.length, ← addr_size (p := [p0, p1, p2, p3].getD j 0)]
      rfl
    have hle8 : parts x sz ([p0, p1, p2, p3].getD j 0) ([p0, p1, p2, p3].getD i 0) ≤ 200 := by
      rw [← hlen8, ← hP.length]
      exact Nat.le_trans (List.length_filter_le _ _) (by rw [List.length_range]; omega)
    refine call_len_list hlD ?_ ?_
    · rw [List.size_toArray, hlen8]; omega
    rw [List.size_toArray, hlen8]
    have far := parts_far (x := x) hs12 hqj hqi
    k_unmd
    try k_unfold
    try dsimp only
    ktr_unf
    rename IntsAre _ (casts [p0, p1, p2] ++ [(p3 : Int)]) => IP
    rename News _ _ _ _ => NP
    obtain ⟨tp, hp, hs4⟩ := picks_at IP hj4
    refine item_listR (isList_of (NP.get (.head _))) (Int.natCast_nonneg _) (by omega) hp ?_
    k_unmd
    try k_unfold
    try dsimp only
    ktr_unf
    clear IP
    rename IntsAre _ (casts [p0, p1, p2] ++ [(p3 : Int)]) => IP
    rename News _ _ _ _ => NP
    obtain ⟨tq, hq, hs4'⟩ := picks_at IP hi4
    refine item_listR (isList_of (NP.get (.head _))) (Int.natCast_nonneg _) (by omega) hq ?_
    k_unmd
    try k_unfold
    try dsimp only
    ktr_unf
    all_goals first
      | (exfalso
         rename (_ != _) = true => hz
         rw [no_bne far.1] at hz
         cases hz
         done)
      | (rename Fr B0 L _ _ => FZ
         rename News _ _ _ _ => NZ
         exact ⟨_, news0, ⟨hb, rfl, ⟨_, _, lm_uj⟩, rfl⟩, hnJ, FZ, fun p hp => NZ p (List.mem_append_right [_, _, _, _, _, _, _] hp)⟩)
end Mine
end
section
open PySem PySem.W PySem.Calls PyProof.Rows
set_option linter.unusedSimpArgs false
set_option linter.unusedVariables false
namespace Mine
local macro_rules | `(tactic| walk_at "binaryOp LShift int int") => `(tactic| (refine lshift_int_small (by decide) (by decide) (by assumption) ?_))
local macro_rules | `(tactic| walk_at "eval Name") => `(tactic| (k_here; (with_reducible show wpAny _ _ (eval _ (compEnvC _ _ _ _)) _ _ _); k_dflt (first
  | (refine' kcf_cell ?N ?c ?m ?d ?_ ?a ?b ?e; (case a => rfl); (case b => rfl); (case e => decide); (case N => k_asm); (case c => rfl); (case m => k_mem); (case d => k_asm); k_whole)
  | (refine' nmL ?n ?v ?_ ?a ?b ?c; (case a => rfl); (case b => rfl); (case c => decide); (case n => assumption); (case v => assumption); k_whole)
  | (refine' nmB ?F ?X ?T ?e ?v ?n ?_ ?a ?b ?c ?d ?g; (case a => rfl); (case b => rfl); (case c => rfl); (case d => rfl); (case g => decide); (case F => k_asm); (case X => k_asm); (case T => k_asm); (case e => k_is); (case v => boot_fast); (case n => decide); k_whole)
  | (refine' nameG_K ?F ?X ?T ?e ?_ ?a ?b ?c ?d; (case a => rfl); (case b => rfl); (case c => rfl); (case d => decide); (case F => k_asm); (case X => k_asm); (case T => k_asm); (case e => k_is); k_whole))))
local macro_rules | `(tactic| walk_at "eval Name") => `(tactic| (k_here; (with_reducible show wpAny _ _ (eval _ (genEnv _ _ _ _ _ _)) _ _ _); k_dflt (first
  | (refine' gnL ?n ?v ?_ ?a ?b ?c; (case a => rfl); (case b => rfl); (case c => decide); (case n => assumption); (case v => assumption); k_whole)
  | (refine' gnB' ?X ?T ?e ?v ?n ?_ ?a ?b ?c ?d ?g; (case a => rfl); (case b => rfl); (case c => rfl); (case d => rfl); (case g => decide); (case X => assumption); (case T => assumption); (case e => k_is); (case v => boot_fast); (case n => decide); k_whole)
  | (refine' gnG' ?X ?T ?e ?_ ?a ?b ?c ?d; (case a => rfl); (case b => rfl); (case c => rfl); (case d => decide); (case X => assumption); (case T => assumption); (case e => k_is); k_whole))))
local macro_rules | `(tactic| ktr_unf) => `(tactic| (repeat' (first
   | (k_unmd; k_unfold; (try dsimp only))
   | ((fail_if_success (with_reducible show Exists _)); (fail_if_success (with_reducible show Keeps _ _ ∧ _)); (fail_if_success (with_reducible show InvEndN _ _ _ _ _ _ _)); (fail_if_success (with_reducible show KswEnd _ _ _ _ _ _ _ _ _ _ _ _)); (fail_if_success (with_reducible show wpAny _ _ (exec (Stmt.For _ _ _ _ _) _) _ _ _)); (fail_if_success (with_reducible show wpAny _ _ (pyIter _) _ _ _)); (fail_if_success (with_reducible show wpAny _ _ (eval (Expr.Subscript (Expr.List _ _) (Expr.BinOp _ _ _ _) _) _) _ _ _)); (fail_if_success (with_reducible show wpAny _ _ (subscriptTail (Expr.List _ _) _ _ (Value.int _ _)) _ _ _)); (fail_if_success (with_reducible show wpAny _ _ (subscriptTail (Expr.Name _ _) (Expr.Slice (some (Expr.Call _ _ _ _)) _ _ _) _ _) _ _ _)); (fail_if_success (with_reducible show wpAny _ _ (PySem.call (Value.type "bytes") _) _ _ _)); (fail_if_success (with_reducible show wpAny _ _ (PySem.call (Value.type "zip") _) _ _ _)); (fail_if_success (with_reducible show TurnEnd _ _ _ _ _ _ _ _ _)); (fail_if_success (with_reducible show wpAny _ _ (subscriptTail _ (Expr.Name _ _) _ _) _ _ _)); (fail_if_success (with_reducible show wpAny _ _ (eval (Expr.GeneratorExp _ _ _ _) _) _ _ _)); (fail_if_success (with_reducible show wpAny _ _ (PySem.call (Value.builtin "any") _) _ _ _)); (fail_if_success (with_reducible show wpAny _ _ (PySem.call (Value.builtin "str.rfind") _) _ _ _)); (fail_if_success (with_reducible show wpAny _ _ (PySem.call (Value.builtin "all") _) _ _ _)); (fail_if_success (with_reducible show wpAny _ _ (PySem.call (Value.ref _) _) _ _ _)); (fail_if_success (with_reducible show wpAny _ _ (exec (Stmt.While _ _ _ _) _) _ _ _)); (fail_if_success (with_reducible show wpAny _ _ (eval (Expr.ListComp _ _ _ _) _) _ _ _)); (fail_if_success (with_reducible show wpAny _ _ (exec (Stmt.Assign _ (Expr.ListComp _ _ _ _) _) _) _ _ _)); walk1))))
local macro_rules | `(tactic| ktr_units) => `(tactic| (repeat' (first
   | (k_unmd; k_unfold; (try dsimp only))
   | ((fail_if_success (with_reducible show Exists _)); (fail_if_success (with_reducible show Keeps _ _ ∧ _)); (fail_if_success (with_reducible show InvEndN _ _ _ _ _ _ _)); (fail_if_success (with_reducible show KswEnd _ _ _ _ _ _ _ _ _ _ _ _)); (fail_if_success (with_reducible show wpAny _ _ (exec (Stmt.For _ _ _ _ _) _) _ _ _)); (fail_if_success (with_reducible show wpAny _ _ (pyIter _) _ _ _)); (fail_if_success (with_reducible show wpAny _ _ (eval (Expr.Subscript (Expr.List _ _) (Expr.BinOp _ _ _ _) _) _) _ _ _)); (fail_if_success (with_reducible show wpAny _ _ (subscriptTail (Expr.List _ _) _ _ (Value.int _ _)) _ _ _)); (fail_if_success (with_reducible show wpAny _ _ (subscriptTail (Expr.Name _ _) (Expr.Slice (some (Expr.Call _ _ _ _)) _ _ _) _ _) _ _ _)); (fail_if_success (with_reducible show wpAny _ _ (PySem.call (Value.type "bytes") _) _ _ _)); (fail_if_success (with_reducible show wpAny _ _ (PySem.call (Value.type "zip") _) _ _ _)); (fail_if_success (with_reducible show TurnEnd _ _ _ _ _ _ _ _ _)); (fail_if_success (with_reducible show wpAny _ _ (binaryOp Operator.Add (Value.str _ _) _) _ _ _)); (fail_if_success (with_reducible show wpAny _ _ (compareOp CmpOp.NotEq (Value.ref _) (Value.ref _)) _ _ _)); (fail_if_success (with_reducible show wpAny _ _ (binaryOp Operator.Add (Value.ref _) (Value.ref _)) _ _ _)); (fail_if_success (with_reducible show wpAny _ _ (subscriptTail _ (Expr.Name _ _) _ _) _ _ _)); (fail_if_success (with_reducible show wpAny _ _ (eval (Expr.GeneratorExp _ _ _ _) _) _ _ _)); (fail_if_success (with_reducible show wpAny _ _ (PySem.call (Value.builtin "any") _) _ _ _)); (fail_if_success (with_reducible show wpAny _ _ (PySem.call (Value.builtin "str.rfind") _) _ _ _)); (fail_if_success (with_reducible show wpAny _ _ (PySem.call (Value.builtin "all") _) _ _ _)); (fail_if_success (with_reducible show wpAny _ _ (PySem.call (Value.ref _) _) _ _ _)); (fail_if_success (with_reducible show wpAny _ _ (exec (Stmt.While _ _ _ _) _) _ _ _)); (fail_if_success (with_reducible show wpAny _ _ (eval (Expr.ListComp _ _ _ _) _) _ _ _)); (fail_if_success (with_reducible show wpAny _ _ (exec (Stmt.Assign _ (Expr.ListComp _ _ _ _) _) _) _ _ _)); walk1))))
local macro_rules | `(tactic| ktr_rel) => `(tactic| (repeat' (first
   | (k_unmd; k_unfold; (try dsimp only))
   | ((fail_if_success (with_reducible show Exists _)); (fail_if_success (with_reducible show Keeps _ _ ∧ _)); (fail_if_success (with_reducible show InvEndN _ _ _ _ _ _ _)); (fail_if_success (with_reducible show KswEnd _ _ _ _ _ _ _ _ _ _ _ _)); (fail_if_success (with_reducible show wpAny _ _ (exec (Stmt.For _ _ _ _ _) _) _ _ _)); (fail_if_success (with_reducible show wpAny _ _ (pyIter _) _ _ _)); (fail_if_success (with_reducible show wpAny _ _ (eval (Expr.Subscript (Expr.List _ _) (Expr.BinOp _ _ _ _) _) _) _ _ _)); (fail_if_success (with_reducible show wpAny _ _ (subscriptTail (Expr.List _ _) _ _ (Value.int _ _)) _ _ _)); (fail_if_success (with_reducible show wpAny _ _ (subscriptTail (Expr.Name _ _) (Expr.Slice (some (Expr.Call _ _ _ _)) _ _ _) _ _) _ _ _)); (fail_if_success (with_reducible show wpAny _ _ (PySem.call (Value.type "bytes") _) _ _ _)); (fail_if_success (with_reducible show wpAny _ _ (PySem.call (Value.type "zip") _) _ _ _)); (fail_if_success (with_reducible show TurnEnd _ _ _ _ _ _ _ _ _)); (fail_if_success (with_reducible show wpAny _ _ (subscriptTail _ (Expr.Name _ _) _ _) _ _ _)); (fail_if_success (with_reducible show wpAny _ _ (eval (Expr.GeneratorExp _ _ _ _) _) _ _ _)); (fail_if_success (with_reducible show wpAny _ _ (PySem.call (Value.builtin "any") _) _ _ _)); (fail_if_success (with_reducible show wpAny _ _ (PySem.call (Value.builtin "str.rfind") _) _ _ _)); (fail_if_success (with_reducible show wpAny _ _ (PySem.call (Value.builtin "all") _) _ _ _)); (fail_if_success (with_reducible show wpAny _ _ (exec (Stmt.While _ _ _ _) _) _ _ _)); (fail_if_success (with_reducible show wpAny _ _ (eval (Expr.ListComp _ _ _ _) _) _ _ _)); (fail_if_success (with_reducible show wpAny _ _ (exec (Stmt.Assign _ (Expr.ListComp _ _ _ _) _) _) _ _ _)); walk1))))


def msel {α : Type} : List Bool → List α → List α
  | true :: b, x :: l => x :: msel b l
  | false :: b, _ :: l => msel b l
  | _, _ => []
theorem mem_msel {α : Type} : ∀ (b : List Bool) (l : List α) (x : α), x ∈ msel b l → x ∈ l
  | [], l, x, h => by simp [msel] at h
  | true :: b, [], x, h => by simp [msel] at h
  | false :: b, [], x, h => by simp [msel] at h
  | true :: b, y :: l, x, h => by
    rcases List.mem_cons.mp h with rfl | h
    · exact .head _
    · exact .tail _ (mem_msel b l x h)
  | false :: b, y :: l, x, h => .tail _ (mem_msel b l x h)
theorem nsel {h₀ h : Heap} {L : Addr} {news : List (Addr × Obj)} (b : List Bool) (N : News h₀ L h news) : News h₀ L h (msel b news) := fun p hp => N p (mem_msel b news p hp)
def HUM : List (List Nat) := [[120], [114, 108, 112], [110, 117, 109], [97, 49, 98], [115, 117, 109]]
theorem bytes_same {b : Array UInt8} {ns : List Nat} (h : KBw.bInts b = casts ns) : ((casts ns).map fun n => n.toNat.toUInt8).toArray = b := by
  rw [← h]
  apply Array.toList_inj.mp
  simp [KBw.bInts, List.map_map, Function.comp_def]
theorem bytes_range {b : Array UInt8} {ns : List Nat} (h : KBw.bInts b = casts ns) : ∀ n ∈ casts ns, 0 ≤ n ∧ n < 256 := fun n hn => KBw.ints_in (b := b) (by rw [h]; exact hn)
theorem four_row {c0 c1 c2 c3 : Addr} {w0 w1 w2 w3 : List Value} {f : Nat → List Nat} (j0 : IntsAre w0 (casts (f 0))) (j1 : IntsAre w1 (casts (f 1))) (j2 : IntsAre w2 (casts (f 2))) (j3 : IntsAre w3 (casts (f 3))) (k0 k1 k2 k3 : Nat) {i : Nat} (hi : i < 4) :
    ∃ r us n, [Value.ref c0, .ref c1, .ref c2, .ref c3].toArray[(i : Int).toNat]? = some (.ref r) ∧ (r, PySem.W.listOf (List.toArray us) n) ∈ [(c0, PySem.W.listOf w0.toArray k0), (c1, PySem.W.listOf w1.toArray k1), (c2, PySem.W.listOf w2.toArray k2), (c3, PySem.W.listOf w3.toArray k3)] ∧ IntsAre us (casts (f i)) := by
  match i, hi with
  | 0, _ => exact ⟨_, _, _, rfl, .head _, j0⟩
  | 1, _ => exact ⟨_, _, _, rfl, .tail _ (.head _), j1⟩
  | 2, _ => exact ⟨_, _, _, rfl, .tail _ (.tail _ (.head _)), j2⟩
  | 3, _ => exact ⟨_, _, _, rfl, .tail _ (.tail _ (.tail _ (.head _))), j3⟩
theorem led_ne {B0 h : Heap} {L P : Addr} {news : List (Addr × Obj)} {ps : Array Value} (N : News B0 L h news) (hP : (P, tbl ps) ∈ news) (p : Addr × Obj) (hp : p ∈ news) (hne : p.2 ≠ tbl ps) : p.1 ≠ P := fun e => by
  have a := N.get hP
  have b := (N p hp).1
  rw [e, a] at b
  exact hne (Option.some.inj b).symm
theorem ne_cls {o : Obj} {ps : Array Value} (h : o.cls ≠ .none) : o ≠ tbl ps := fun e => h (by rw [e])
theorem ne_cell {o : Obj} {ps : Array Value} {v : Option Value} (h : o.data = Data.cell v) : o ≠ tbl ps := fun e => by
  rw [e] at h; cases h
theorem hum_okc : ∀ xs ∈ HUM, ∀ c ∈ xs, okc c = true := by decide +kernel
theorem ch_okc : ∀ d < 32, okc (CH.getD d 0) = true := by decide +kernel
theorem addr_okc {x ns : List Nat} (hx : x ∈ HUM) (hn : ∀ n ∈ ns, n < 32) : ∀ c ∈ addr x ns, okc c = true := by
  intro c hc
  unfold addr chs at hc
  simp only [List.append_assoc, List.mem_append, List.mem_map, List.mem_singleton] at hc
  rcases hc with h | rfl | ⟨d, h, rfl⟩
  · exact hum_okc _ hx _ h
  · decide
  · exact ch_okc d (h.elim (hn d) (create_lt _ _ d))
theorem hum_ok {x : Str} (h : x.cps.toList ∈ HUM) : PyData.strOk x = true := by
  have : ∀ xs ∈ HUM, PyData.strOk ⟨xs.toArray⟩ = true := by decide +kernel
  have := this _ h
  rwa [Array.toArray_toList] at this
theorem str_same {x y : Str} (h : x.cps.toList = y.cps.toList) : x = y := by
  cases x; cases y
  congr 1
  exact Array.toList_inj.mp h
theorem pair_lay {x : Str} (h : PyData.strOk x = true) (ns : List Int) : PyData.canLay0 (.tuple [.str x, .list (ns.map PyData.int)]) = true := by
  simp [PyData.canLay0, PyData.canLayAll0, ke_canLayAll0, h]
theorem pair_depth (x : Str) (ns : List Int) : PyData.depth (.tuple [.str x, .list (ns.map PyData.int)]) ≤ 64 := by
  simp [PyData.depth, PyData.depthAll, ke_depthAll]
theorem oct_bytes (sz p : Nat) : ∀ n ∈ casts (oct sz p), 0 ≤ n ∧ n < 256 := by
  intro n hn
  obtain ⟨v, hv, rfl⟩ := mem_casts hn
  unfold oct outs at hv
  obtain ⟨j, _, rfl⟩ := List.mem_map.mp hv
  have := Nat.and_le_right (n := p >>> (8 * sz - 8 * (j + 1))) (m := 2 ^ 8 - 1)
  omega
theorem bInts_back {ns : List Int} (h : ∀ n ∈ ns, 0 ≤ n ∧ n < 256) : KBw.bInts ((ns.map fun n => n.toNat.toUInt8).toArray) = ns := by
  unfold KBw.bInts
  rw [List.toList_toArray, List.map_map]
  conv => rhs; rw [← List.map_id ns]
  refine List.map_congr_left fun n hn => ?_
  obtain ⟨h0, h1⟩ := h n hn
  show ((n.toNat.toUInt8).toNat : Int) = n
  have : (n.toNat.toUInt8).toNat = n.toNat % 256 := by simp
  omega
theorem small_four {i : Nat} (h : i < 4) : Builtin.Range.small 0 (i : Int) 1 = true ∧ Builtin.Range.rangeSize 0 (i : Int) 1 = (i : Int) := by
  match i, h with
  | 0, _ => decide
  | 1, _ => decide
  | 2, _ => decide
  | 3, _ => decide
theorem hum_ascii {xs : List Nat} (h : xs ∈ HUM) : ∀ c ∈ xs, c < 128 := by
  have : ∀ xs ∈ HUM, ∀ c ∈ xs, c < 128 := by decide
  exact this _ h
set_option maxRecDepth 100000 in
set_option maxHeartbeats 8000000 in
/-- a turn of the law's loop: an address held against its text, told back, and held against the ones ahead of it -/
theorem law_turn (w : World) : AtLoop (hd.heap_39 w.params) 171 11 fun qual scope cdv lb =>
    ∀ {mg mb : Str → Option Value} {B0 : Heap} {P L I D5 D4 D3 D2 D x dx : Addr} {s2 : Shared} {os0 : OsState} {m0 bot : Str → Option Value} {rest : List (Addr × Obj)} {kv tv jv uv : Option Value} {tk t4 th ts ta0 ta1 ta2 ta3 tk1 tv1 : Tok} {i sz kk : Nat} {hsh : Int} {hs : Str} {p0 p1 p2 p3 : Nat} {ps psn more : Array Value}
      {c0 c1 c2 c3 r0 r1 r2 r3 : Addr} {w0 w1 w2 w3 u0 u1 u2 u3 ys : List Value} {k0 k1 k2 k3 n0 n1 n2 n3 : Nat} {o1 o2 o3 : Obj} {Q : Flow → Shared → Prop} {E : Value → Shared → Prop},
    Gd w mg mb B0 P →
    (m0 = fun z => if z = Str.ofString "addresses" then some (Value.ref D5) else if z = Str.ofString "sums" then some (Value.ref D4) else if z = Str.ofString "signs" then some (Value.ref D3) else if z = Str.ofString "octets" then some (Value.ref D2) else if z = Str.ofString "fourth" then some (Value.int (p3 : Int) t4) else if z = Str.ofString "picks" then some (Value.ref D) else bot z) →
    (rest = [(D5, LCg.lst [Value.str ⟨(addr hs.cps.toList (sg sz ([p0, p1, p2, p3].getD 0 0))).toArray⟩ ta0, Value.str ⟨(addr hs.cps.toList (sg sz ([p0, p1, p2, p3].getD 1 0))).toArray⟩ ta1, Value.str ⟨(addr hs.cps.toList (sg sz ([p0, p1, p2, p3].getD 2 0))).toArray⟩ ta2, Value.str ⟨(addr hs.cps.toList (sg sz ([p0, p1, p2, p3].getD 3 0))).toArray⟩ ta3]),
      (D4, LCg.lst [Value.ref c0, .ref c1, .ref c2, .ref c3]), (c0, PySem.W.listOf w0.toArray k0), (c1, PySem.W.listOf w1.toArray k1), (c2, PySem.W.listOf w2.toArray k2), (c3, PySem.W.listOf w3.toArray k3),
      (D3, LCg.lst [Value.ref r0, .ref r1, .ref r2, .ref r3]), (r0, PySem.W.listOf u0.toArray n0), (r1, PySem.W.listOf u1.toArray n1), (r2, PySem.W.listOf u2.toArray n2), (r3, PySem.W.listOf u3.toArray n3),
      (D, LCg.lst ys), (x, instObj 157 dx), (dx, selfDict sz hsh tk1 tv1 kk), (L + 1 + 1 + 1, o3), (L + 1 + 1, o2), (L + 1, o1)]) →
    o3.data = Data.cell (some (.ref x)) → o2.data = Data.cell (some (.int (sz : Int) ts)) → o1.data = Data.cell (some (.str hs th)) →
    hs.cps.toList ∈ HUM → 1 ≤ sz → sz ≤ 12 → p0 < 2 ^ (8 * sz) → p1 < 2 ^ (8 * sz) → p2 < 2 ^ (8 * sz) → p3 < 2 ^ (8 * sz) →
    IntsAre ys (casts [p0, p1, p2]) →
    IntsAre u0 (casts (sg sz ([p0, p1, p2, p3].getD 0 0))) → IntsAre u1 (casts (sg sz ([p0, p1, p2, p3].getD 1 0))) → IntsAre u2 (casts (sg sz ([p0, p1, p2, p3].getD 2 0))) → IntsAre u3 (casts (sg sz ([p0, p1, p2, p3].getD 3 0))) →
    IntsAre w0 (casts (create hs.cps.toList (sg sz ([p0, p1, p2, p3].getD 0 0)))) → IntsAre w1 (casts (create hs.cps.toList (sg sz ([p0, p1, p2, p3].getD 1 0)))) → IntsAre w2 (casts (create hs.cps.toList (sg sz ([p0, p1, p2, p3].getD 2 0)))) → IntsAre w3 (casts (create hs.cps.toList (sg sz ([p0, p1, p2, p3].getD 3 0)))) →
    i < 4 → AllBare s2.gens → s2.os = os0 → psn = ps ++ more → TriplesOk psn.toList →
    Fr B0 L s2.heap (fun y => if y = Str.ofString "k" then some (.int (i : Int) tk) else lm m0 kv tv jv uv y) →
    News B0 L s2.heap ((I, rangeIt (i + 1) 4) :: (P, tbl psn) :: rest) →
    (∀ p ∈ (P, tbl psn) :: rest, p.1 ≠ I) →
    wpAny (model PySem.Challenge.rw_vn0023_01.row.prog w) ((Aat 400 1000).deeper (envOfC qual scope L 171 cdv)) (execs lb (envOfC qual scope L 171 cdv))
      (TurnEnd B0 L I (rangeIt (i + 1) 4) (LawT ps P rest m0 os0) Q (i + 1)) E s2 := by
  refine' atLoop_with ?ho ?hk ?hk2 (law_inner w) ?_
  case ho => k_is
  case hk => rfl
  case hk2 => rfl
  intro LI mg mb B0 P L I D5 D4 D3 D2 D x dx s2 os0 m0 bot rest kv tv jv uv tkI t4 th ts ta0 ta1 ta2 ta3 tk1 tv1 i sz kk hsh hs p0 p1 p2 p3 ps psn more c0 c1 c2 c3 r0 r1 r2 r3 w0 w1 w2 w3 u0 u1 u2 u3 ys k0 k1 k2 k3 n0 n1 n2 n3 o1 o2 o3 Q E G hm0 hrest hdK hdS hdH hHum hs1 hs12 hp0 hp1 hp2 hp3 IY i0 i1 i2 i3 j0 j1 j2 j3 hi4 hb2 hos2 hpsn hokn FL NL hnI
  have X := G.K
  have T := G.T
  obtain ⟨m1, hm1⟩ : ∃ r, r = m0 := ⟨m0, rfl⟩
  subst hm0
  obtain ⟨vA, hxA, tA, rfl⟩ := four_at (fun j v => ∃ t, v = Value.str ⟨(addr hs.cps.toList (sg sz ([p0, p1, p2, p3].getD j 0))).toArray⟩ t) ⟨ta0, rfl⟩ ⟨ta1, rfl⟩ ⟨ta2, rfl⟩ ⟨ta3, rfl⟩ hi4
  obtain ⟨rS, uS, nS, hxS, hmS, hiS⟩ := four_row (f := fun j => sg sz ([p0, p1, p2, p3].getD j 0)) i0 i1 i2 i3 n0 n1 n2 n3 (c0 := r0) (c1 := r1) (c2 := r2) (c3 := r3) hi4
  obtain ⟨rC, uC, nC, hxC, hmC, hiC⟩ := four_row (f := fun j => create hs.cps.toList (sg sz ([p0, p1, p2, p3].getD j 0))) j0 j1 j2 j3 k0 k1 k2 k3 (c0 := c0) (c1 := c1) (c2 := c2) (c3 := c3) hi4
  have hmS' : (rS, PySem.W.listOf (List.toArray uS) nS) ∈ rest := by
    rw [hrest]
    exact List.mem_append_right [_, _, _, _, _, _, _] (List.mem_append_left [_, _, _, _, _, _] hmS)
  have hmC' : (rC, PySem.W.listOf (List.toArray uC) nC) ∈ rest := by
    rw [hrest]
    exact List.mem_append_right [_, _] (List.mem_append_left [_, _, _, _, _, _, _, _, _, _, _] hmC)
  have hlS : s2.heap.IsList rS uS.toArray := isList_of (NL.get (.tail _ (.tail _ hmS')))
  have hlC : s2.heap.IsList rC uC.toArray := isList_of (NL.get (.tail _ (.tail _ hmC')))
  obtain ⟨rest0, hr0⟩ : ∃ r, r = rest := ⟨rest, rfl⟩
  subst hrest
  have hqi : [p0, p1, p2, p3].getD i 0 < 2 ^ (8 * sz) := four_lt hp0 hp1 hp2 hp3 hi4
  k_unmd; k_fold
  ktr_units
  refine item_listR (isList_lst (NL.get (List.mem_of_getElem? (i := 2) rfl))) (Int.natCast_nonneg _) (by omega) hxA ?_
  k_unmd
  try k_unfold
  try dsimp only
  ktr_units
  have hh3 : hs.cps.toList.length ≤ 3 ∧ 1 ≤ hs.cps.toList.length := by
    have : ∀ xs ∈ HUM, xs.length ≤ 3 ∧ 1 ≤ xs.length := by decide
    exact this _ hHum
  have hh3' : hs.cps.size ≤ 3 := by simpa using hh3.1
  refine PyProof.Rows.add_str (fun t5 tk5 => ?_) (by rw [sizeLine_eq]; show hs.cps.size + 1 ≤ _; omega)
  k_unmd; k_fold
  ktr_units
  generalize hns : sg sz ([p0, p1, p2, p3].getD i 0) = ns at *
  have hnl : ns.length ≤ 20 := by rw [← hns]; exact sg_len_le _ hs12
  have hn32 : ∀ n ∈ ns, n < 32 := by rw [← hns]; exact sg_lt _ _
  refine comp_eval (fun _ => true) (fun _ j y _ => ∃ t, y = .str ⟨#[CH.getD ((ns ++ create hs.cps.toList ns).getD j 0) 0]⟩ t) (fun _ _ _ _ _ h _ => h) rfl (by decide) rfl (by decide) ?_
  ktr_units
  refine item_listR (isList_lst (NL.get (List.mem_of_getElem? (i := 8) rfl))) (Int.natCast_nonneg _) (by omega) hxS ?_
  ktr_units
  refine item_listR (isList_lst (NL.get (List.mem_of_getElem? (i := 3) rfl))) (Int.natCast_nonneg _) (by omega) hxC ?_
  ktr_units
  have hcl6 : (create hs.cps.toList ns).length = 6 := create_len _ _
  refine add_lists_ints FL NL hlS hlC hiS hiC (fun h3 F3 N3 I3 => ?_) (by rw [List.length_map, List.length_map, hcl6, sizeLine_eq]; omega)
  rw [show casts ns ++ casts (create hs.cps.toList ns) = casts (ns ++ create hs.cps.toList ns) by simp [casts]] at I3
  have hall : ∀ n ∈ ns ++ create hs.cps.toList ns, n < 32 := fun n hn => (List.mem_append.mp hn).elim (hn32 n) (create_lt _ _ n)
  have hlen3 := IntsAre.length I3
  k_unmd
  try k_unfold
  try dsimp only
  refine ⟨_, _, ?_, it_list rfl (isList_of (n := 0) (N3.get (.head _))), turn_name (by decide) rfl ?_, ?_⟩
  · rw [sizeLine_eq]
    simp at hlen3 ⊢
    omega
  · rintro i v C bad s₄ m₄ E' hi hv hn hx4 hC hk hbad hCb ⟨h4, tk4, rfl⟩
    try dsimp only at hn hk
    obtain ⟨n, u, hin, rfl⟩ := ints_at I3 hv
    have F6 : Fr B0 L h4 _ := F3.keeps hk
    have N6 : News B0 L h4 _ := N3.grown hk
    k_unmd; k_fold
    ktr_units
    have hn32 : n < 32 := hall n (List.mem_of_getElem? hin)
    refine item_ch (charset_get hn32) (by omega) ?_
    refine ⟨⟨_, _, rfl, fun _ _ e => e⟩, ?_⟩
    have e1 : (ns ++ create hs.cps.toList ns).getD i 0 = n := by rw [List.getD_eq_getElem?_getD, hin]; rfl
    rw [e1]
    exact ⟨_, rfl⟩
  · intro D8 bad h8 tk8 ys8 hD hl hP hk8
    try dsimp only at hD hk8
    rw [filter_true] at hP
    have I8 := strs_of_paired hP
    have hlen3' : (uS ++ uC).toArray.size = (ns ++ create hs.cps.toList ns).length := by simpa using hlen3
    have e0 := map_range_getD (ns ++ create hs.cps.toList ns) 0 (fun d => (⟨#[CH.getD d 0]⟩ : Str))
    rw [← hlen3'] at e0
    rw [e0] at I8
    have N8 := news_add F3 N3 hk8 hD hl
    have F8 := F3.keeps hk8
    clear F3 N3 hP e0 hD
    k_unmd; k_fold
    ktr_units
    have hl8 : h8.IsList D8 ys8.toArray := isList_lst hl
    have hmm : (ns ++ create hs.cps.toList ns).map (fun d => (⟨#[CH.getD d 0]⟩ : Str)) = (chs (ns ++ create hs.cps.toList ns)).map fun c => (⟨#[c]⟩ : Str) := by
      simp [chs, List.map_map, Function.comp_def]
    rw [hmm] at I8
    have hcl : (chs (ns ++ create hs.cps.toList ns)).length = ns.length + 6 := by simp [chs, hcl6]
    have hsum := sum_ones (chs (ns ++ create hs.cps.toList ns))
    refine join_list (x := Str.ofString "") (items := ys8.toArray) hl8 I8 ?_ (fun t9 k9 => ?_)
    · rw [hsum, hcl, empty_is]
      show _ + _ * 0 ≤ _
      omega
    k_unmd; k_unfold
    rw [empty_is]
    have hj : Txt.join ⟨#[]⟩ ((chs (ns ++ create hs.cps.toList ns)).map fun c => (⟨#[c]⟩ : Str)) = ⟨(chs (ns ++ create hs.cps.toList ns)).toArray⟩ :=
      (StrLaws.glued_eq_join _ _).trans (join_ones _)
    rw [hj]
    dsimp only
    have ea : hs ++ Str.ofString "1" ++ ⟨(chs (ns ++ create hs.cps.toList ns)).toArray⟩ = (⟨(addr hs.cps.toList ns).toArray⟩ : Str) := by
      rw [one_is]
      show (⟨hs.cps ++ #[49] ++ _⟩ : Str) = _
      congr 1
      simp [addr]
    refine PyProof.Rows.add_str (fun ta tka => ?_) ?_
    · rw [ea]
      k_unmd
      try k_unfold
      try dsimp only
      ktr_units
      all_goals (try (exfalso; (rename (bne _ _ = true) => hz); rw [hns] at hz; simp at hz; done))
      refine item_listR (isList_lst (N8.get (List.mem_of_getElem? (i := 4) rfl))) (Int.natCast_nonneg _) (by omega) hxA ?_
      have NE := nsel [false, false, true, true, true, true, true, true, true, true, true, true, true, true, true, true, true, true, true, true, true] N8
      dsimp only [msel] at NE
      clear N8
      have hneP : ∀ p ∈ (I, rangeIt (i + 1) 4) :: rest0, p.1 ≠ P := fun p hp => by
        refine led_ne NE (List.mem_of_getElem? (i := 1) rfl) p ?_ ?_
        · rcases List.mem_cons.mp hp with rfl | hp
          · exact .head _
          · rw [hr0] at hp; exact .tail _ (.tail _ hp)
        · rw [hr0] at hp
          simp only [List.mem_cons, List.not_mem_nil, or_false] at hp
          rcases hp with rfl | rfl | rfl | rfl | rfl | rfl | rfl | rfl | rfl | rfl | rfl | rfl | rfl | rfl | rfl | rfl | rfl | rfl
          all_goals first
            | exact ne_cell hdK
            | exact ne_cell hdS
            | exact ne_cell hdH
            | exact ne_cls (fun e => nomatch e)
      k_unmd
      try k_unfold
      try dsimp only
      ktr_units
      refine weaken 670 2800 (decode_led (xs := hs.cps.toList) (cs := ns ++ create hs.cps.toList ns) G F8 NE (List.mem_of_getElem? (i := 1) rfl) hokn hb2 ?e1 ?e2 (by omega) (by omega) ?e3 ?e4 hall ?e5 ?_) rfl (Nat.le_of_ble_eq_true rfl) (Nat.le_of_ble_eq_true rfl)
      case e1 => rfl
      case e2 => exact addr_okc hHum hn32
      case e3 => rw [List.length_append, hcl6]; omega
      case e4 => rw [List.length_append, hcl6]; omega
      case e5 => exact verifies
      intro s' Tp l x' t' us n ps' hb' hos' hok' hmore F' NN hk' hx' hus hTn hln
      have N2 := NN ((I, rangeIt (i + 1) 4) :: rest0) (by
        rw [hr0]
        intro p hp
        rcases List.mem_cons.mp hp with rfl | hp
        · exact NE _ (.head _)
        · exact NE _ (.tail _ (.tail _ hp))) hneP
      rw [hr0] at N2
      have hus' : IntsAre us (casts ns) := by
        have : (ns ++ create hs.cps.toList ns).take ((ns ++ create hs.cps.toList ns).length - 6) = ns := by
          rw [List.length_append, hcl6, Nat.add_sub_cancel, List.take_left]
        rwa [this] at hus
      clear NN hneP F8 NE hTn hln hk' hus
      k_unmd
      try k_unfold
      try dsimp only
      ktr_units
      rename Fr _ _ _ _ => F3
      rename News _ _ _ _ => N3
      refine item_listR (isList_lst (N3.get (List.mem_of_getElem? (i := 10) rfl))) (Int.natCast_nonneg _) (by omega) hxS ?_
      k_unmd
      try k_unfold
      try dsimp only
      ktr_units
      have hxe := str_same hx'
      subst hxe
      rename News _ _ _ _ => N4
      rename Fr _ _ _ _ => F4
      have ra : Reads _ (.ref Tp) (.tuple [.str x', .list ((casts ns).map PyData.int)]) _ := Reads.tuple (N4.get (List.mem_of_getElem? (i := 1) rfl)) rfl rfl (.cons (.str _ _) (.cons (.list (N4.get (List.mem_of_getElem? (i := 2) rfl)) rfl rfl (ints_readAll _ hus')) .nil))
      have rb := Reads.tuple (N4.get (List.mem_of_getElem? (i := 0) rfl)) rfl rfl (.cons (.str _ _) (.cons (.list (N4.get (List.mem_append_right [_, _, _, _, _, _, _, _, _, _, _, _] (List.mem_append_left [_, _, _, _, _, _] hmS))) rfl rfl (ints_readAll _ hiS)) .nil))
      refine PySem.SeqAt.compareNe_reads ra rb (pair_lay (hum_ok hHum) _) (pair_lay (hum_ok hHum) _) ?_ ?_
      · exact Nat.lt_of_le_of_lt (Nat.add_le_add_left (Nat.le_trans (Nat.min_le_left _ _) (pair_depth _ _)) _) (Nat.le_of_ble_eq_true rfl)
      rw [PySem.SeqAt.eqv_refl _ (pair_lay (hum_ok hHum) _)]
      k_unmd
      try k_unfold
      try dsimp only
      ktr_units
      have hB := back_len sz ([p0, p1, p2, p3].getD i 0)
      have hpad := back_pad hqi
      have hcv := back_cv hqi
      rw [hns] at hB hpad hcv
      rename News _ _ _ _ => N5
      rename Fr _ _ _ _ => F5
      refine weaken 690 3000 (conv58_call (Wd.of X T F5) (isList_of (N5.get (List.mem_of_getElem? (i := 2) rfl))) hus' (by omega) hn32 hB hpad ?_) rfl (Nat.le_of_ble_eq_true rfl) (Nat.le_of_ble_eq_true rfl)
      intro rJ uJ hJ tkJ hkJ hrJ hlJ hiJ
      obtain ⟨nJ, hlJ⟩ := hlJ
      rw [hcv] at hiJ
      have N6 := news_add F5 N5 hkJ hrJ hlJ
      have F6 := F5.keeps hkJ
      clear N5 F5
      k_unmd
      try k_unfold
      try dsimp only
      ktr_units
      refine bytes_K F6 N6 (isList_of (N6.get (.head _))) hiJ (oct_bytes _ _) (by have := hiJ.length; rw [sizeLine_eq, this]; simp [oct_length]; omega) rfl ?_
      intro h9 t9 k9 F9 N9 hbA
      k_unmd
      try k_unfold
      try dsimp only
      ktr_units
      have NA := nsel [false, false, true, true, true, true, true, true, true, true, true, true, true, true, true, true, true, true, true, true, true, true, true] N9
      dsimp only [msel] at NA
      clear N9 N6 F6
      refine weaken 680 2900 (des_call (Wd.of X T F9) (NA.get (List.mem_of_getElem? (i := 16) rfl)) (NA.get (List.mem_of_getElem? (i := 17) rfl)) hs12 hs1 (bInts_back (oct_bytes _ _)) (oct_length _ _) ?_) rfl (Nat.le_of_ble_eq_true rfl) (Nat.le_of_ble_eq_true rfl)
      intro tb h10 tk10 hk10
      have FB := F9.keeps hk10
      have NB := NA.grown hk10
      clear F9 NA
      rw [num_oct hqi]
      k_unmd
      try k_unfold
      try dsimp only
      ktr_unf
      rename IntsAre _ (casts [p0, p1, p2] ++ [(p3 : Int)]) => IP
      rename News _ _ _ _ => NP
      obtain ⟨tp, hp, hs4⟩ := picks_at IP hi4
      refine item_listR (isList_of (NP.get (.head _))) (Int.natCast_nonneg _) (by omega) hp ?_
      k_unmd
      try k_unfold
      try dsimp only
      ktr_unf
      all_goals (try (exfalso; (rename (_ ≠ _) => hz); exact hz rfl))
      rename News _ _ _ _ => NP
      have NQ := nsel [false, false, false, false, true, true, true, true, true, true, true, true, true, true, true, true, true, true, true, true, true, true, true] NP
      dsimp only [msel] at NQ
      rename Fr _ _ _ _ => FQ
      rw [lm_tk, ← hm1] at FQ
      rw [← hr0] at NQ
      clear NP IP
      refine for_range (B0 := B0) (LawI ((P, tbl ps') :: (I, rangeIt (i + 1) 4) :: rest0) m1 (some (.int (i : Int) tkI)) (some (.ref Tp)) s'.os) rfl rfl rfl ?_
      ktr_unf
      rename IsRange _ _ _ _ _ _ _ _ => RR
      rename Fr _ _ _ _ => FR
      rename News _ _ _ _ => NR
      refine ⟨_, _, _, _, _, i, _, _, rfl, RR, (small_four hi4).1, (small_four hi4).2, FR, NR, ⟨hb', rfl, ⟨_, _, rfl⟩, rfl⟩, ?_, ?_⟩
      · rintro j m news tkj s3 J E' hji ⟨hb3, hos3, ⟨jv3, uv3, rfl⟩, rfl⟩ hnJ FJ NJ
        rw [← hos3]
        refine LI (ta0 := ta0) (ta1 := ta1) (ta2 := ta2) (ta3 := ta3) X T hm1 hi4 hji hs12 hp0 hp1 hp2 hp3 (by omega) (hum_ascii hHum) IY hb3 FJ (fun p hp => ?_) hnJ
        rcases List.mem_cons.mp hp with rfl | hp
        · exact NJ _ (.tail _ (.tail _ (.tail _ (by rw [hr0]; exact .head _))))
        · rcases List.mem_cons.mp hp with rfl | hp
          · exact NJ _ (.tail _ (.tail _ (.tail _ (by rw [hr0]; exact List.mem_of_getElem? (i := 11) rfl))))
          · exact NJ _ hp
      · rintro m news s3 ⟨hb3, hos3, ⟨jv3, uv3, rfl⟩, rfl⟩ FJ NJ
        k_unmd
        try k_unfold
        try dsimp only
        ktr_unf
        obtain ⟨more2, hm2⟩ := hmore
        refine ⟨_, (P, tbl ps') :: rest0, ⟨hb3, hos3.trans (hos'.trans hos2), ⟨_, _, _, _, by rw [hm1]⟩, ps', more ++ more2, by rw [hm2, hpsn, Array.append_assoc], hok', by rw [hr0]⟩, fun p hp => ?_, FJ, fun p hp => ?_⟩
        · rcases List.mem_cons.mp hp with rfl | hp
          · exact hnI (P, tbl psn) (.head _)
          · rw [hr0] at hp
            exact hnI p (.tail _ hp)
        · rcases List.mem_cons.mp hp with rfl | hp
          · exact NJ _ (.tail _ (.head _))
          · rcases List.mem_cons.mp hp with rfl | hp
            · exact NJ _ (.head _)
            · exact NJ _ (.tail _ (.tail _ hp))
    · rw [sizeLine_eq, one_is]
      show (hs.cps ++ #[49]).size + (chs (ns ++ create hs.cps.toList ns)).toArray.size ≤ _
      simp [hcl]
      omega
end Mine
end
section
open PySem PySem.W PySem.Calls PyProof.Rows
set_option linter.unusedSimpArgs false
set_option linter.unusedVariables false
namespace Mine
local macro_rules | `(tactic| walk_at "binaryOp LShift int int") => `(tactic| (refine lshift_int_small (by decide) (by decide) (by assumption) ?_))
local macro_rules | `(tactic| walk_at "eval Name") => `(tactic| (k_here; (with_reducible show wpAny _ _ (eval _ (compEnvC _ _ _ _)) _ _ _); k_dflt (first
  | (refine' kcf_cell ?N ?c ?m ?d ?_ ?a ?b ?e; (case a => rfl); (case b => rfl); (case e => decide); (case N => k_asm); (case c => rfl); (case m => k_mem); (case d => k_asm); k_whole)
  | (refine' nmL ?n ?v ?_ ?a ?b ?c; (case a => rfl); (case b => rfl); (case c => decide); (case n => assumption); (case v => assumption); k_whole)
  | (refine' nmB ?F ?X ?T ?e ?v ?n ?_ ?a ?b ?c ?d ?g; (case a => rfl); (case b => rfl); (case c => rfl); (case d => rfl); (case g => decide); (case F => k_asm); (case X => k_asm); (case T => k_asm); (case e => k_is); (case v => boot_fast); (case n => decide); k_whole)
  | (refine' nameG_K ?F ?X ?T ?e ?_ ?a ?b ?c ?d; (case a => rfl); (case b => rfl); (case c => rfl); (case d => decide); (case F => k_asm); (case X => k_asm); (case T => k_asm); (case e => k_is); k_whole))))
local macro_rules | `(tactic| walk_at "eval Name") => `(tactic| (k_here; (with_reducible show wpAny _ _ (eval _ (genEnv _ _ _ _ _ _)) _ _ _); k_dflt (first
  | (refine' gnL ?n ?v ?_ ?a ?b ?c; (case a => rfl); (case b => rfl); (case c => decide); (case n => assumption); (case v => assumption); k_whole)
  | (refine' gnB' ?X ?T ?e ?v ?n ?_ ?a ?b ?c ?d ?g; (case a => rfl); (case b => rfl); (case c => rfl); (case d => rfl); (case g => decide); (case X => assumption); (case T => assumption); (case e => k_is); (case v => boot_fast); (case n => decide); k_whole)
  | (refine' gnG' ?X ?T ?e ?_ ?a ?b ?c ?d; (case a => rfl); (case b => rfl); (case c => rfl); (case d => decide); (case X => assumption); (case T => assumption); (case e => k_is); k_whole))))
local macro_rules | `(tactic| ktr_unf) => `(tactic| (repeat' (first
   | (k_unmd; k_unfold; (try dsimp only))
   | ((fail_if_success (with_reducible show Exists _)); (fail_if_success (with_reducible show Keeps _ _ ∧ _)); (fail_if_success (with_reducible show InvEndN _ _ _ _ _ _ _)); (fail_if_success (with_reducible show KswEnd _ _ _ _ _ _ _ _ _ _ _ _)); (fail_if_success (with_reducible show wpAny _ _ (exec (Stmt.For _ _ _ _ _) _) _ _ _)); (fail_if_success (with_reducible show wpAny _ _ (pyIter _) _ _ _)); (fail_if_success (with_reducible show wpAny _ _ (eval (Expr.Subscript (Expr.List _ _) (Expr.BinOp _ _ _ _) _) _) _ _ _)); (fail_if_success (with_reducible show wpAny _ _ (subscriptTail (Expr.List _ _) _ _ (Value.int _ _)) _ _ _)); (fail_if_success (with_reducible show wpAny _ _ (subscriptTail (Expr.Name _ _) (Expr.Slice (some (Expr.Call _ _ _ _)) _ _ _) _ _) _ _ _)); (fail_if_success (with_reducible show wpAny _ _ (PySem.call (Value.type "bytes") _) _ _ _)); (fail_if_success (with_reducible show wpAny _ _ (PySem.call (Value.type "zip") _) _ _ _)); (fail_if_success (with_reducible show TurnEnd _ _ _ _ _ _ _ _ _)); (fail_if_success (with_reducible show wpAny _ _ (subscriptTail _ (Expr.Name _ _) _ _) _ _ _)); (fail_if_success (with_reducible show wpAny _ _ (eval (Expr.GeneratorExp _ _ _ _) _) _ _ _)); (fail_if_success (with_reducible show wpAny _ _ (PySem.call (Value.builtin "any") _) _ _ _)); (fail_if_success (with_reducible show wpAny _ _ (PySem.call (Value.builtin "str.rfind") _) _ _ _)); (fail_if_success (with_reducible show wpAny _ _ (PySem.call (Value.builtin "all") _) _ _ _)); (fail_if_success (with_reducible show wpAny _ _ (PySem.call (Value.ref _) _) _ _ _)); (fail_if_success (with_reducible show wpAny _ _ (exec (Stmt.While _ _ _ _) _) _ _ _)); (fail_if_success (with_reducible show wpAny _ _ (eval (Expr.ListComp _ _ _ _) _) _ _ _)); (fail_if_success (with_reducible show wpAny _ _ (exec (Stmt.Assign _ (Expr.ListComp _ _ _ _) _) _) _ _ _)); walk1))))
local macro_rules | `(tactic| ktr_units) => `(tactic| (repeat' (first
   | (k_unmd; k_unfold; (try dsimp only))
   | ((fail_if_success (with_reducible show Exists _)); (fail_if_success (with_reducible show Keeps _ _ ∧ _)); (fail_if_success (with_reducible show InvEndN _ _ _ _ _ _ _)); (fail_if_success (with_reducible show KswEnd _ _ _ _ _ _ _ _ _ _ _ _)); (fail_if_success (with_reducible show wpAny _ _ (exec (Stmt.For _ _ _ _ _) _) _ _ _)); (fail_if_success (with_reducible show wpAny _ _ (pyIter _) _ _ _)); (fail_if_success (with_reducible show wpAny _ _ (eval (Expr.Subscript (Expr.List _ _) (Expr.BinOp _ _ _ _) _) _) _ _ _)); (fail_if_success (with_reducible show wpAny _ _ (subscriptTail (Expr.List _ _) _ _ (Value.int _ _)) _ _ _)); (fail_if_success (with_reducible show wpAny _ _ (subscriptTail (Expr.Name _ _) (Expr.Slice (some (Expr.Call _ _ _ _)) _ _ _) _ _) _ _ _)); (fail_if_success (with_reducible show wpAny _ _ (PySem.call (Value.type "bytes") _) _ _ _)); (fail_if_success (with_reducible show wpAny _ _ (PySem.call (Value.type "zip") _) _ _ _)); (fail_if_success (with_reducible show TurnEnd _ _ _ _ _ _ _ _ _)); (fail_if_success (with_reducible show wpAny _ _ (binaryOp Operator.Add (Value.str _ _) _) _ _ _)); (fail_if_success (with_reducible show wpAny _ _ (binaryOp Operator.Add (Value.ref _) (Value.ref _)) _ _ _)); (fail_if_success (with_reducible show wpAny _ _ (subscriptTail _ (Expr.Name _ _) _ _) _ _ _)); (fail_if_success (with_reducible show wpAny _ _ (eval (Expr.GeneratorExp _ _ _ _) _) _ _ _)); (fail_if_success (with_reducible show wpAny _ _ (PySem.call (Value.builtin "any") _) _ _ _)); (fail_if_success (with_reducible show wpAny _ _ (PySem.call (Value.builtin "str.rfind") _) _ _ _)); (fail_if_success (with_reducible show wpAny _ _ (PySem.call (Value.builtin "all") _) _ _ _)); (fail_if_success (with_reducible show wpAny _ _ (PySem.call (Value.ref _) _) _ _ _)); (fail_if_success (with_reducible show wpAny _ _ (exec (Stmt.While _ _ _ _) _) _ _ _)); (fail_if_success (with_reducible show wpAny _ _ (eval (Expr.ListComp _ _ _ _) _) _ _ _)); (fail_if_success (with_reducible show wpAny _ _ (exec (Stmt.Assign _ (Expr.ListComp _ _ _ _) _) _) _ _ _)); walk1))))
local macro_rules | `(tactic| ktr_rel) => `(tactic| (repeat' (first
   | (k_unmd; k_unfold; (try dsimp only))
   | ((fail_if_success (with_reducible show Exists _)); (fail_if_success (with_reducible show Keeps _ _ ∧ _)); (fail_if_success (with_reducible show InvEndN _ _ _ _ _ _ _)); (fail_if_success (with_reducible show KswEnd _ _ _ _ _ _ _ _ _ _ _ _)); (fail_if_success (with_reducible show wpAny _ _ (exec (Stmt.For _ _ _ _ _) _) _ _ _)); (fail_if_success (with_reducible show wpAny _ _ (pyIter _) _ _ _)); (fail_if_success (with_reducible show wpAny _ _ (eval (Expr.Subscript (Expr.List _ _) (Expr.BinOp _ _ _ _) _) _) _ _ _)); (fail_if_success (with_reducible show wpAny _ _ (subscriptTail (Expr.List _ _) _ _ (Value.int _ _)) _ _ _)); (fail_if_success (with_reducible show wpAny _ _ (subscriptTail (Expr.Name _ _) (Expr.Slice (some (Expr.Call _ _ _ _)) _ _ _) _ _) _ _ _)); (fail_if_success (with_reducible show wpAny _ _ (PySem.call (Value.type "bytes") _) _ _ _)); (fail_if_success (with_reducible show wpAny _ _ (PySem.call (Value.type "zip") _) _ _ _)); (fail_if_success (with_reducible show TurnEnd _ _ _ _ _ _ _ _ _)); (fail_if_success (with_reducible show wpAny _ _ (subscriptTail _ (Expr.Name _ _) _ _) _ _ _)); (fail_if_success (with_reducible show wpAny _ _ (eval (Expr.GeneratorExp _ _ _ _) _) _ _ _)); (fail_if_success (with_reducible show wpAny _ _ (PySem.call (Value.builtin "any") _) _ _ _)); (fail_if_success (with_reducible show wpAny _ _ (PySem.call (Value.builtin "str.rfind") _) _ _ _)); (fail_if_success (with_reducible show wpAny _ _ (PySem.call (Value.builtin "all") _) _ _ _)); (fail_if_success (with_reducible show wpAny _ _ (exec (Stmt.While _ _ _ _) _) _ _ _)); (fail_if_success (with_reducible show wpAny _ _ (eval (Expr.ListComp _ _ _ _) _) _ _ _)); (fail_if_success (with_reducible show wpAny _ _ (exec (Stmt.Assign _ (Expr.ListComp _ _ _ _) _) _) _ _ _)); walk1))))


theorem human_at {j : Int} (h0 : 0 ≤ j) (h5 : j < 5) (a b c d e : Tok) : ∃ hs th, (#[Value.str (Str.ofString "x") a, Value.str (Str.ofString "rlp") b, Value.str (Str.ofString "num") c, Value.str (Str.ofString "a1b") d, Value.str (Str.ofString "sum") e] : Array Value)[j.toNat]? = some (.str hs th) ∧ hs.cps.toList ∈ HUM := by
  obtain ⟨n, rfl⟩ := Int.eq_ofNat_of_zero_le h0
  have hn : n < 5 := by omega
  match n, hn with
  | 0, _ => exact ⟨_, _, rfl, by decide +kernel⟩
  | 1, _ => exact ⟨_, _, rfl, by decide +kernel⟩
  | 2, _ => exact ⟨_, _, rfl, by decide +kernel⟩
  | 3, _ => exact ⟨_, _, rfl, by decide +kernel⟩
  | 4, _ => exact ⟨_, _, rfl, by decide +kernel⟩
def pk (a2 a3 a4 : Int) (sz j : Nat) : Nat := (([a2, a3, a4].getD j 0).fmod ((256 ^ sz : Nat) : Int)).toNat
theorem pk_lt {a2 a3 a4 : Int} {sz j : Nat} : pk a2 a3 a4 sz j < 2 ^ (8 * sz) := by
  have h0 : (0 : Int) < ((256 ^ sz : Nat) : Int) := by exact_mod_cast Nat.pow_pos (by decide)
  have h1 := Int.fmod_lt_of_pos ([a2, a3, a4].getD j 0) h0
  have h2 := Int.fmod_nonneg_of_pos ([a2, a3, a4].getD j 0) h0
  have e : 2 ^ (8 * sz) = 256 ^ sz := by rw [Nat.pow_mul]
  rw [e]
  unfold pk
  omega
theorem pk_int {a2 a3 a4 : Int} {sz j : Nat} : ((pk a2 a3 a4 sz j : Nat) : Int) = ([a2, a3, a4].getD j 0).fmod ((256 ^ sz : Nat) : Int) := by
  have h0 : (0 : Int) < ((256 ^ sz : Nat) : Int) := by exact_mod_cast Nat.pow_pos (by decide)
  have h2 := Int.fmod_nonneg_of_pos ([a2, a3, a4].getD j 0) h0
  unfold pk
  omega
theorem lit_ints (a b c d e : Tok) : IntsAre [Value.int 0 a, Value.int 1 b, Value.int 1 c, Value.int 2 d, Value.int 4 e] [0, 1, 1, 2, 4] := by
  repeat (first | exact .nil | refine .cons ⟨_, rfl⟩ ?_ | constructor)
theorem five_of {ns : List Int} (hlen : ns.length ≤ 63) : ∃ a0 a1 a2 a3 a4, List.take 5 (List.take 5 ns ++ List.drop ((ns.length : Int)).toNat [0, 1, 1, 2, 4]) = [a0, a1, a2, a3, a4] := by
  have h5 : (List.take 5 (List.take 5 ns ++ List.drop ((ns.length : Int)).toNat [0, 1, 1, 2, 4])).length = 5 := by
    simp; omega
  match h : List.take 5 (List.take 5 ns ++ List.drop ((ns.length : Int)).toNat [0, 1, 1, 2, 4]), h5 with
  | [a0, a1, a2, a3, a4], _ => exact ⟨a0, a1, a2, a3, a4, rfl⟩

set_option maxRecDepth 100000 in
set_option maxHeartbeats 8000000 in
theorem law_call {w : World} {mg mb mgx : Str → Option Value} {s : Shared} {l : Addr} {vs : List Value} {ns : List Int} {P bm : Addr} {ob : Obj} {ps : Array Value} {Q E : Value → Shared → Prop}
    (W : Wd w mg mb s.heap) (M : BMod s.heap mainGlobals mgx bm ob) (hc : s.heap.IsCode 47 P ps) (ht : s.heap.TableAt 47 P ps) (hP : P ≠ cStatics) (hb : AllBare s.gens)
    (hl : s.heap.IsList l vs.toArray) (hi : IntsAre vs ns) (hlen : ns.length ≤ 63)
    (h : ∀ s' more, AllBare s'.gens → s'.os = s.os → (∀ b o, b ≠ P → s.heap.get? b = some o → s'.heap.get? b = some o) → s'.heap.TableAt 47 P (ps ++ more) → Q (.bool true) s') :
    wpAny (model PySem.Challenge.rw_vn0023_01.row.prog w) (Aat 400 1000) (call (.ref 171) [.ref l]) Q E s := by
  have X0 := W.K
  have T0 := W.T
  have G := gd_of W M hc ht hP
  have hlP : l ≠ P := fun q => by
    obtain ⟨o, e, c, _⟩ := hl
    rw [q, ht.2] at e; cases e; cases c
  have hlB : (bare s.heap P).IsList l vs.toArray := by
    obtain ⟨o, e, r⟩ := hl
    exact ⟨o, (bare_other hlP).trans e, r⟩
  have hkB : ∀ b o, b ≠ P → s.heap.get? b = some o → (bare s.heap P).get? b = some o := fun b o hb e => (bare_other hb).trans e
  have hok := triples_of hc
  refine' enterL (k := 11) (binds := [(Str.ofString "script", Value.ref l)]) X0 T0.nolimit ?k1 ?k2 ?k3 ?k4 ?k5 ?k6 ?k7 ?k8 ?k9 ?kl (law_turn w) ?_
  case k1 => k_is
  case k2 => k_is
  case k3 => decide
  case k4 => exact BindsTo.of_eq rfl
  case k5 => rfl
  case k6 => decide +kernel
  case k7 => rfl
  case k8 => rfl
  case k9 => rfl
  case kl => rfl
  intro LT h₁ tk₁ cells F N Y
  k_cells Y
  have FN := to_bare F N ht.2
  replace hl := hlB
  clear F N X0 T0 W M hlB hlP
  generalize bare s.heap P = B0 at *
  obtain ⟨F, N⟩ := FN
  simp only [List.cons_append, List.nil_append] at N
  have X := G.K
  have T := G.T
  k_unmd; k_fold
  ktr_unf
  (refine' kmk_slice_ints ?u1 ?u2 ?u3 ?u4 ?u5 ?u6 ?u7 ?u8 ?_ ?u9 ?v1 ?v2; (case u1 => k_asm); (case u2 => k_asm); (case u3 => kmk_list); (case u4 => kmk_part); (case u5 => kmk_part); (case u6 => exact lit_ints _ _ _ _ _); (case u7 => exact kmk_from (lit_ints _ _ _ _ _) (Int.natCast_nonneg _)); (case u8 => kmk_len); (case u9 => with_unfolding_all rfl); (case v1 => kmk_pure); (case v2 => kmk_size)); intro D' ws' h' F' N' l1 hI' hC' hL'
  k_unmd; k_fold
  ktr_unf
  obtain ⟨a0, a1, a2, a3, a4, e5⟩ := five_of hlen
  rename IntsAre _ (List.take 5 (List.take 5 _ ++ _)) => I5
  rename Fr _ _ _ _ => F5
  rename News _ _ _ _ => N5
  rw [e5] at I5
  have N6 := nsel [true, false, false, false, false, true, true, true, true] N5
  clear N5
  dsimp only [msel] at N6
  k_unmd; k_fold
  refine Subscript_ ?_
  ktr_unf
  rename News _ _ _ _ => N7
  obtain ⟨hs, th, hx, hHum⟩ := human_at (Int.fmod_nonneg_of_pos ([a0, a1, a2, a3, a4].getD (Int.toNat 0) 0) (by decide)) (Int.fmod_lt_of_pos _ (by decide)) _ _ _ _ _
  refine item_listR (isList_of (N7.get (.head _))) (Int.fmod_nonneg_of_pos _ (by decide)) (Int.lt_of_lt_of_le (Int.fmod_lt_of_pos _ (by decide)) (by decide)) hx ?_
  have N8 := nsel [false, true, true, true, true, true] N7
  clear N7
  dsimp only [msel] at N8
  k_unmd
  try k_unfold
  try dsimp only
  ktr_unf
  obtain ⟨sz, hsz, hs1, hs12⟩ : ∃ sz : Nat, ([a0, a1, a2, a3, a4].getD (Int.toNat 1) 0).fmod 12 + 1 = (sz : Int) ∧ 1 ≤ sz ∧ sz ≤ 12 := by
    have h1 := Int.fmod_nonneg_of_pos ([a0, a1, a2, a3, a4].getD (Int.toNat 1) 0) (b := 12) (by decide)
    have h2 := Int.fmod_lt_of_pos ([a0, a1, a2, a3, a4].getD (Int.toNat 1) 0) (b := 12) (by decide)
    refine ⟨(([a0, a1, a2, a3, a4].getD (Int.toNat 1) 0).fmod 12 + 1).toNat, ?_, ?_, ?_⟩ <;> omega
  rename (_ = Data.cell (some (Value.int _ _))) => hdS
  rw [hsz] at hdS ⊢
  rename News _ _ _ _ => N9
  simp only [List.cons_append, List.nil_append] at N9
  rename Fr _ _ _ _ => F9
  refine weaken 680 2900 (kind_led X T F9 N9 ?_) rfl (Nat.le_of_ble_eq_true rfl) (Nat.le_of_ble_eq_true rfl)
  intro x dx h' tkK hsh tk1 tv kk FK NK lK1 lK2
  clear F9 N9
  k_lt lK1
  k_unmd
  try k_unfold
  try dsimp only
  ktr_unf
  rename News _ _ _ _ => NA
  rename Fr _ _ _ _ => FA
  rename (_ = Data.cell (some (Value.ref x))) => hdK
  rename (_ = Data.cell (some (Value.str hs th))) => hdH
  simp only [List.cons_append, List.nil_append] at NA
  refine comp_assign (fun _ => true) (fun _ j y _ => ∃ t, y = .int ((pk a2 a3 a4 sz j : Nat) : Int) t) (fun _ _ _ _ _ h _ => h) rfl rfl (by decide) rfl (by decide) rfl rfl ?_
  ktr_unf
  rename IntsAre _ (List.drop 2 [_, _, _, _, _]) => IB
  rename Fr _ _ _ _ => FB
  rename News _ _ _ _ => NB
  replace IB : IntsAre _ [a2, a3, a4] := IB
  have lB := IB.length
  refine ⟨_, _, _, by rw [sizeLine_eq, List.size_toArray, lB]; exact Nat.le_of_ble_eq_true rfl, FB.ns, it_list rfl (isList_of (NB.get (.head _))), turn_name (by decide) rfl ?_, ?_⟩
  · rintro i v C bad s₄ m₄ E' hi hv hn hx4 hC hkp hbad hCb ⟨h4, tk4, rfl⟩
    obtain ⟨z, tz, rfl, hz⟩ := IntsAre.at IB i v (by simpa using hv)
    dsimp only at hn hkp
    have F4 : Fr B0 s.heap.objs.size h4 _ := FB.keeps hkp
    have N4 : News B0 s.heap.objs.size h4 _ := NB.grown hkp
    k_unmd; k_fold
    ktr_unf
    have e : [a2, a3, a4].getD i 0 = z := by rw [List.getD, hz]; rfl
    have e2 : z.fmod (256 ^ (sz : Int).toNat) = ((pk a2 a3 a4 sz i : Nat) : Int) := by
      rw [pk_int, Int.toNat_natCast, e]
      push_cast
      rfl
    exact ⟨⟨_, _, rfl, fun _ _ e => e⟩, _, congrArg (fun q => Value.int q _) e2⟩
  · intro D bad h' tk' ys hD hl hP hNs hkD
    dsimp only at hD hNs hkD
    rw [filter_true] at hP
    have I8 := ints_of_paired hP
    rw [List.size_toArray, lB] at I8
    replace I8 : IntsAre ys (casts [pk a2 a3 a4 sz 0, pk a2 a3 a4 sz 1, pk a2 a3 a4 sz 2]) := I8
    have hp0 : pk a2 a3 a4 sz 0 < 2 ^ (8 * sz) := pk_lt
    have hp1 : pk a2 a3 a4 sz 1 < 2 ^ (8 * sz) := pk_lt
    have hp2 : pk a2 a3 a4 sz 2 < 2 ^ (8 * sz) := pk_lt
    generalize pk a2 a3 a4 sz 0 = p0 at *
    generalize pk a2 a3 a4 sz 1 = p1 at *
    generalize pk a2 a3 a4 sz 2 = p2 at *
    obtain ⟨FD, ND⟩ := after_comp FB NB hNs hkD hD hl
    have NE := nsel [true, false, true, true, false, true, true, true, true] ND
    clear ND NB FB hP IB lB hNs hkD hl
    dsimp only [msel] at NE
    k_unmd
    try k_unfold
    dsimp only
    try k_fold
    ktr_unf
    have e4 : Builtin.bitXor (Builtin.bitXor ((casts [p0, p1, p2]).getD (Int.toNat 0) 0) ((casts [p0, p1, p2]).getD (Int.toNat 1) 0)) ((casts [p0, p1, p2]).getD (Int.toNat 2) 0) = ((p0 ^^^ p1 ^^^ p2 : Nat) : Int) := by
      show Builtin.bitXor (Builtin.bitXor (p0 : Int) (p1 : Int)) (p2 : Int) = _
      rw [xor_cast, xor_cast]
    rename Fr _ _ _ _ => FF
    rename News _ _ _ _ => NF
    rw [e4] at FF
    have hp3 : p0 ^^^ p1 ^^^ p2 < 2 ^ (8 * sz) := Nat.xor_lt_two_pow (Nat.xor_lt_two_pow hp0 hp1) hp2
    obtain ⟨p3, hp3e⟩ : ∃ p3, p3 = p0 ^^^ p1 ^^^ p2 := ⟨_, rfl⟩
    rw [← hp3e] at FF hp3
    refine comp_assign (fun _ => true) (fun _ j y _ => ∃ b t, y = .bytes b t ∧ KBw.bInts b = casts (oct sz ([p0, p1, p2, p3].getD j 0))) (fun _ _ _ _ _ h _ => h) rfl rfl (by decide) rfl (by decide) rfl rfl ?_
    ktr_unf
    rename IntsAre _ (casts _ ++ _) => IB
    rename Fr _ _ _ _ => FB
    rename News _ _ _ _ => NB
    replace IB : IntsAre _ (casts [p0, p1, p2, p3]) := IB
    have lB := IB.length
    refine ⟨_, _, _, by rw [sizeLine_eq, List.size_toArray, lB]; exact Nat.le_of_ble_eq_true rfl, FB.ns, it_list rfl (isList_of (NB.get (.head _))), turn_name (by decide) rfl ?_, ?_⟩
    · rintro i v C bad s₄ m₄ E' hi hv hn hx4 hC hkp hbad hCb ⟨h4, tk4, rfl⟩
      obtain ⟨z, tz, hz, rfl⟩ := ints_at IB hv
      have hzlt : z < 2 ^ (8 * sz) := by
        have hm := List.mem_of_getElem? hz
        simp only [List.mem_cons, List.not_mem_nil, or_false] at hm
        rcases hm with rfl | rfl | rfl | rfl <;> assumption
      dsimp only at hn hkp
      have F4 : Fr B0 s.heap.objs.size h4 _ := FB.keeps hkp
      have N4 : News B0 s.heap.objs.size h4 _ := NB.grown hkp
      k_unmd; k_fold
      ktr_unf
      refine weaken 680 2900 (ser_call (Wd.of X T F4) (N4.get (.tail _ (.tail _ (.tail _ (.head _))))) (N4.get (.tail _ (.tail _ (.tail _ (.tail _ (.head _)))))) hs12 hs1 hzlt ?_) rfl (Nat.le_of_ble_eq_true rfl) (Nat.le_of_ble_eq_true rfl)
      intro b tb h5 tk5 hk5 hb5
      k_unmd
      try k_unfold
      try dsimp only
      ktr_unf
      refine ⟨⟨_, _, rfl, hk5⟩, b, tb, rfl, ?_⟩
      rw [hb5, List.getD, hz]
      rfl
    · intro D2 bad h2 tk2 ys2 hD hl hP hNs hkD
      dsimp only at hD hNs hkD
      rw [filter_true] at hP
      rw [List.size_toArray, lB] at hP
      obtain ⟨y0, y1, y2, y3, rfl, ⟨b0, t0, rfl, hb0⟩, ⟨b1, t1, rfl, hb1⟩, ⟨b2, t2, rfl, hb2⟩, ⟨b3, t3, rfl, hb3⟩⟩ := paired4 hP
      replace hb0 : KBw.bInts b0 = casts (oct sz p0) := hb0
      replace hb1 : KBw.bInts b1 = casts (oct sz p1) := hb1
      replace hb2 : KBw.bInts b2 = casts (oct sz p2) := hb2
      replace hb3 : KBw.bInts b3 = casts (oct sz p3) := hb3
      have hany : ∀ i v, [Value.bytes b0 t0, .bytes b1 t1, .bytes b2 t2, .bytes b3 t3].toArray[i]? = some v → ∃ b t, v = .bytes b t ∧ KBw.bInts b = casts (oct sz ([p0, p1, p2, p3].getD i 0)) := fun i v e => by
        match i, e with
        | 0, e => cases e; exact ⟨_, _, rfl, hb0⟩
        | 1, e => cases e; exact ⟨_, _, rfl, hb1⟩
        | 2, e => cases e; exact ⟨_, _, rfl, hb2⟩
        | 3, e => cases e; exact ⟨_, _, rfl, hb3⟩
        | n + 4, e => simp at e
      obtain ⟨F2, N2⟩ := after_comp FB NB hNs hkD hD hl
      have N3 := nsel [true, false, false, true, true, true, true, true, true, true] N2
      clear N2 NB FB hP IB lB hNs hkD hl hD
      dsimp only [msel] at N3
      k_unmd
      try k_unfold
      dsimp only
      try k_fold
      ktr_unf
      refine comp_assign (fun _ => true) (RowR B0 fun j => sg sz ([p0, p1, p2, p3].getD j 0)) rowR_mono rfl rfl (by decide) rfl (by decide) rfl rfl ?_
      ktr_unf
      refine ⟨_, _, _, ?_, F2.ns, it_list (items := [Value.bytes b0 t0, .bytes b1 t1, .bytes b2 t2, .bytes b3 t3].toArray) rfl (isList_lst (N3.get (.head _))), turn_name (by decide) rfl ?_, ?_⟩
      · rw [sizeLine_eq]; exact Nat.le_of_ble_eq_true rfl
      · rintro i v C bad s₄ m₄ E' hi hv hn hx4 hC hkp hbad hCb ⟨h4, tk4, rfl⟩
        obtain ⟨b, tb, rfl, hb⟩ := hany i v hv
        dsimp only at hn hkp
        have F4 : Fr B0 s.heap.objs.size h4 _ := F2.keeps hkp
        have N4 : News B0 s.heap.objs.size h4 _ := N3.grown hkp
        k_unmd; k_fold
        ktr_unf
        refine weaken 690 3000 (conv85_call (Wd.of X T F4) hb (by rw [oct_length]; omega) ?_) rfl (Nat.le_of_ble_eq_true rfl) (Nat.le_of_ble_eq_true rfl)
        intro r us h5 tk5 hk5 hr5 hl5 hi5
        k_unmd
        try k_unfold
        try dsimp only
        exact ⟨⟨_, _, rfl, hk5⟩, r, us, rfl, hl5, hi5, not_bad hbad hr5, none_of_keeps F4.keep hr5⟩
      · intro D3 bad h3 tk3 ys3 hD hl hP hNs hkD
        dsimp only at hD hNs hkD
        rw [filter_true] at hP
        obtain ⟨r0, r1, r2, r3, u0, u1, u2, u3, n0, n1, n2, n3, rfl, F5, N5, i0, i1, i2, i3⟩ := rows_made F2 N3 hNs hkD hD hl hP
        clear F2 N3 hP hNs hkD hl hD
        k_unmd
        try k_unfold
        dsimp only
        try k_fold
        ktr_unf
        have hslen : ∀ j, (sg sz ([p0, p1, p2, p3].getD j 0)).length ≤ 20 := fun j => sg_len_le _ hs12
        have hhl : hs.cps.size ≤ 100 := by
          have : ∀ xs ∈ HUM, xs.length ≤ 100 := by decide
          have := this _ hHum
          simpa using this
        refine comp_assign (fun _ => true) (RowR B0 fun j => create hs.cps.toList (sg sz ([p0, p1, p2, p3].getD j 0))) rowR_mono rfl rfl (by decide) rfl (by decide) rfl rfl ?_
        ktr_unf
        refine ⟨_, _, _, ?_, F5.ns, it_list (items := [Value.ref r0, .ref r1, .ref r2, .ref r3].toArray) rfl (isList_lst (N5.get (.head _))), turn_name (by decide) rfl ?_, ?_⟩
        · rw [sizeLine_eq]; exact Nat.le_of_ble_eq_true rfl
        · rintro i v C bad s₄ m₄ E' hi hv hn hx4 hC hkp hbad hCb ⟨h4, tk4, rfl⟩
          dsimp only at hn hkp
          have F4 : Fr B0 s.heap.objs.size h4 _ := F5.keeps hkp
          have N4 : News B0 s.heap.objs.size h4 _ := N5.grown hkp
          obtain ⟨r, us, nr, rfl, hm, hir⟩ := row_any (f := fun j => sg sz ([p0, p1, p2, p3].getD j 0)) N4 (.tail _ (.head _)) (.tail _ (.tail _ (.head _))) (.tail _ (.tail _ (.tail _ (.head _)))) (.tail _ (.tail _ (.tail _ (.tail _ (.head _))))) i0 i1 i2 i3 hv
          k_unmd; k_fold
          ktr_unf
          refine weaken 680 2900 (create_call (Wd.of X T F4) hhl (isList_of (N4.get hm)) hir (Nat.le_trans (hslen i) (by decide)) ?_) rfl (Nat.le_of_ble_eq_true rfl) (Nat.le_of_ble_eq_true rfl)
          intro r us h5 tk5 hk5 hr5 hl5 hi5
          k_unmd
          try k_unfold
          try dsimp only
          exact ⟨⟨_, _, rfl, hk5⟩, r, us, rfl, hl5, hi5, not_bad hbad hr5, none_of_keeps F4.keep hr5⟩
        · intro D4 bad h4 tk4 ys4 hD hl hP hNs hkD
          dsimp only at hD hNs hkD
          rw [filter_true] at hP
          obtain ⟨c0, c1, c2, c3, w0, w1, w2, w3, k0, k1, k2, k3, rfl, F6, N6, j0, j1, j2, j3⟩ := rows_made F5 N5 hNs hkD hD hl hP
          clear F5 N5 hP hNs hkD hl hD
          k_unmd
          try k_unfold
          dsimp only
          try k_fold
          ktr_unf
          refine weaken 690 3000 (joined_call (Wd.of X T F6) (isList_lst (N6.get (List.mem_of_getElem? (i := 10) rfl))) rfl rfl rfl (zInts_bytes hb0) (zInts_bytes hb1) (zInts_bytes hb2) (by rw [oct_length]; omega) (by rw [oct_length, oct_length]) (by rw [oct_length, oct_length]) ?_) rfl (Nat.le_of_ble_eq_true rfl) (Nat.le_of_ble_eq_true rfl)
          intro rJ uJ hJ tkJ hkJ hrJ hlJ hiJ
          obtain ⟨nJ, hlJ⟩ := hlJ
          rw [oct_xor3, ← hp3e] at hiJ
          have N7 := news_add F6 N6 hkJ hrJ hlJ
          have F7 := F6.keeps hkJ
          clear N6 F6
          k_unmd
          try k_unfold
          try dsimp only
          ktr_unf
          refine bytes_K F7 N7 (isList_of (N7.get (.head _))) hiJ (bytes_range hb3) (by have := hiJ.length; rw [sizeLine_eq, this]; simp [oct_length]; omega) rfl ?_
          intro h8 t8 k8 F8 N8 _
          rw [bytes_same hb3]
          have N9 := nsel [false, true, true, true, true, true, true, true, true, true, true, true, true, true, true, true, true, true, true] N8
          clear N8 N7 F7
          dsimp only [msel] at N9
          k_unmd
          try k_unfold
          try dsimp only
          ktr_unf
          all_goals (try (exfalso; (rename (bne b3.toList b3.toList = true) => hz); simp at hz; done))
          refine weaken 690 3000 (joined_call (Wd.of X T F8) (isList_lst (N9.get (List.mem_of_getElem? (i := 5) rfl))) rfl rfl rfl (zInts_list (isList_of (N9.get (List.mem_of_getElem? (i := 6) rfl))) i0) (zInts_list (isList_of (N9.get (List.mem_of_getElem? (i := 7) rfl))) i1) (zInts_list (isList_of (N9.get (List.mem_of_getElem? (i := 8) rfl))) i2) (Nat.le_trans (hslen 0) (by decide)) (by rw [sg_len, sg_len]) (by rw [sg_len, sg_len]) ?_) rfl (Nat.le_of_ble_eq_true rfl) (Nat.le_of_ble_eq_true rfl)
          intro rJ uJ hJ tkJ hkJ hrJ hlJ hiJ
          obtain ⟨nJ, hlJ⟩ := hlJ
          replace hiJ : IntsAre uJ (casts (sg sz p3)) := by
            rw [hp3e, ← sg_xor3]; exact hiJ
          have i3' : IntsAre u3 (casts (sg sz p3)) := i3
          have NB := news_add F8 N9 hkJ hrJ hlJ
          have FB := F8.keeps hkJ
          clear N9 F8
          k_unmd
          try k_unfold
          try dsimp only
          ktr_unf
          refine weaken 690 3000 (joined_call (Wd.of X T FB) (isList_lst (NB.get (List.mem_of_getElem? (i := 1) rfl))) rfl rfl rfl (zInts_list (isList_of (NB.get (List.mem_of_getElem? (i := 2) rfl))) j0) (zInts_list (isList_of (NB.get (List.mem_of_getElem? (i := 3) rfl))) j1) (zInts_list (isList_of (NB.get (List.mem_of_getElem? (i := 4) rfl))) j2) (by rw [create_len]; decide) (by rw [create_len, create_len]) (by rw [create_len, create_len]) ?_) rfl (Nat.le_of_ble_eq_true rfl) (Nat.le_of_ble_eq_true rfl)
          intro rK uK hK tkL hkK hrK hlK hiK
          obtain ⟨nK, hlK⟩ := hlK
          replace hiK : IntsAre uK (casts (create hs.cps.toList (sg sz p3))) := by
            rw [hp3e, ← create_xor3]; exact hiK
          have j3' : IntsAre w3 (casts (create hs.cps.toList (sg sz p3))) := j3
          have NC0 := news_add FB NB hkK hrK hlK
          have FC := FB.keeps hkK
          have NC := nsel [true, false, true, true, true, true, true, true, true, true, true, true, true, true, true, true, true, true, true, true] NC0
          dsimp only [msel] at NC
          clear NB FB NC0
          k_unmd
          try k_unfold
          try dsimp only
          ktr_unf
          refine comp_assign (fun _ => true) (fun _ j y _ => ∃ t, y = .str ⟨(addr hs.cps.toList (sg sz ([p0, p1, p2, p3].getD j 0))).toArray⟩ t) (fun _ _ _ _ _ h _ => h) rfl rfl (by decide) rfl (by decide) rfl rfl ?_
          ktr_unf
          refine ⟨_, _, _, ?_, FC.ns, it_list (items := [Value.ref r0, .ref r1, .ref r2, .ref r3].toArray) rfl (isList_lst (NC.get (List.mem_of_getElem? (i := 6) rfl))), turn_name (by decide) rfl ?_, ?_⟩
          · rw [sizeLine_eq]; exact Nat.le_of_ble_eq_true rfl
          · rintro i v C bad s₄ m₄ E' hi hv hn hx4 hC hkp hbad hCb ⟨h4, tk4, rfl⟩
            dsimp only at hn hkp
            have F4 : Fr B0 s.heap.objs.size h4 _ := FC.keeps hkp
            have N4 : News B0 s.heap.objs.size h4 _ := NC.grown hkp
            obtain ⟨r, us, nr, rfl, hm, hir⟩ := row_any (f := fun j => sg sz ([p0, p1, p2, p3].getD j 0)) N4 (List.mem_of_getElem? (i := 7) rfl) (List.mem_of_getElem? (i := 8) rfl) (List.mem_of_getElem? (i := 9) rfl) (List.mem_of_getElem? (i := 10) rfl) i0 i1 i2 i3 hv
            k_unmd; k_fold
            ktr_unf
            refine weaken 670 2800 (encode_call (Wd.of X T F4) hhl (isList_of (N4.get hm)) hir (Nat.le_trans (hslen i) (by decide)) (sg_lt _ _) ?_) rfl (Nat.le_of_ble_eq_true rfl) (Nat.le_of_ble_eq_true rfl)
            intro t5 h5 tk5 hk5
            k_unmd
            try k_unfold
            try dsimp only
            exact ⟨⟨_, _, rfl, hk5⟩, _, rfl⟩
          · intro D5 bad h5 tk5 ys5 hD hl hP hNs hkD
            dsimp only at hD hNs hkD
            rw [filter_true] at hP
            obtain ⟨y0, y1, y2, y3, rfl, ⟨ta0, rfl⟩, ⟨ta1, rfl⟩, ⟨ta2, rfl⟩, ⟨ta3, rfl⟩⟩ := paired4 hP
            obtain ⟨FD, ND0⟩ := after_comp FC NC hNs hkD hD hl
            have ND := nsel [true, false, true, true, true, true, true, true, true, true, true, true, false, true, true, true, true, true, true, true] ND0
            dsimp only [msel] at ND
            clear FC NC ND0 hP hNs hkD hl hD
            k_unmd
            try k_unfold
            dsimp only
            try k_fold
            ktr_unf
            have hPl := ND _ (List.mem_of_getElem? (i := 17) rfl)
            obtain ⟨rest, hrest, NR⟩ := namedN (nsel [true, true, true, true, true, true, true, true, true, true, true, true, true, true, true, true, true, false] ND)
            dsimp only [msel] at hrest
            obtain ⟨m0, hm0, FM⟩ := namedF FD
            have NP := news_front NR hPl
            clear FD ND NR
            refine for_range (B0 := B0) (LawT ps P rest m0 s.os) rfl rfl rfl ?_
            ktr_unf
            rename IsRange _ _ _ _ _ _ _ _ => RR
            rename Fr _ _ _ _ => FR
            rename News _ _ _ _ => NR
            refine ⟨_, _, _, _, _, 4, m0, (P, tbl ps) :: rest, rfl, RR, by decide, by decide, FR, NR, ⟨hb, rfl, ⟨_, _, _, _, lm_self m0⟩, ps, #[], by simp, hok, rfl⟩, ?_, ?_⟩
            · rintro i m news tk s2 I E' hi4 ⟨hb2, hos2, ⟨kv, tv, jv, uv, rfl⟩, psn, more, hpsn, hokn, rfl⟩ hnI FL NL
              replace FL : Fr B0 s.heap.objs.size s2.heap _ := FL
              replace NL : News B0 s.heap.objs.size s2.heap _ := NL
              refine LT G hm0 hrest hdK hdS hdH hHum hs1 hs12 hp0 hp1 hp2 hp3 I8 i0 i1 i2 i3 j0 j1 j2 j3 hi4 hb2 hos2 hpsn hokn FL NL hnI
            · rintro m news s2 ⟨hb2, hos2, ⟨kv, tv, jv, uv, rfl⟩, psn, more, hpsn, hokn, rfl⟩ FL NL
              replace FL : Fr B0 s.heap.objs.size s2.heap _ := FL
              replace NL : News B0 s.heap.objs.size s2.heap _ := NL
              k_unmd
              try k_unfold
              try dsimp only
              ktr_unf
              dsimp only
              k_unmd
              try k_unfold
              try dsimp only
              refine h _ more hb2 hos2 (fun b o hb e => FL.keep _ _ (hkB b o hb e)) ?_
              rw [← hpsn]
              exact (G.code _ _ FL.keep (NL.get (.head _)) hokn).2
end Mine
end
section
open PySem PySem.W PySem.Calls PyProof.Rows
set_option maxRecDepth 100000
set_option maxHeartbeats 8000000
namespace Mine
theorem tab_of {K : Frag} {p : Program} {loose : List Str} {mean : ExcName → Option Value} {mg mb : Str → Option Value} {h : Heap} {dr : DefRec} {nm name qual : Str} {params : Arguments} {body : List Stmt} {scope : Scope} {dV kV doc pm ct oc : Value} {an od : Option Addr} {osl : Array (Option Value)} {f c : Addr}
    (X : K.In h) (T : Top p loose mean mg mb h) (hf : (recsOf p).find? (fun e => e.name == nm) = some dr) (e : nsIn K mainGlobals nm = some (some (.ref f)))
    (ho : K.lookup f = some ⟨oc, od, .func (fnOf name qual params body scope dV kV doc pm an (.ref c) ct), osl⟩) : ∃ P, h.IsCode c P #[] ∧ h.TableAt c P #[] ∧ P ≠ cStatics := by
  obtain ⟨c', P, h4, B⟩ := based_of_top T hf (mg_of X T.g e) (X _ _ ho) rfl
  cases h4
  exact ⟨P, B.code, B.tab, B.notStatics⟩
theorem dec_tab {w : World} {mean : ExcName → Option Value} {mg mb : Str → Option Value} {h : Heap} (X : (hd.heap_39 w.params).In h) (T : Top hd.view_39 (looseW hd.view_39 [Str.ofString "convertbits"]) mean mg mb h) : ∃ P, h.IsCode 47 P #[] ∧ h.TableAt 47 P #[] ∧ P ≠ cStatics := by
  refine' tab_of (nm := Str.ofString "bech32_decode") (f := 48) X T ?a ?b ?c
  case b => k_is
  case c => k_is
  case a => rfl
theorem law_at {w : World} {mean : ExcName → Option Value} {mg mb : Str → Option Value} {h : Heap} {fa : Addr} (X : (hd.heap_39 w.params).In h) (T : Top hd.view_39 (looseW hd.view_39 [Str.ofString "convertbits"]) mean mg mb h) (e : mg (Str.ofString "law") = some (.ref fa)) : fa = 171 := by
  have a : mg (Str.ofString "law") = some (.ref 171) := by
    refine' mg_of X T.g ?b
    case b => k_is
  rw [a] at e
  cases e
  rfl
theorem top : PySem.Challenge.rw_vn0023_01.Holds := hd (by
  k_fill
  intro w s₀ s₁ mg mb G Y fa o pm cd doc dV kV ho hd hcd hD hmg hg args vals as hpre hlay hrd hwl hlo
  have KX := kIn_of Y
  have X := (Ground.X G).1
  have V := (Ground.X G).2
  try w_nolog (first | (have GL := glob_more (Ground.glob G (by decide +kernel)) V) | (have GL := glob_more (Ground.glob G (by decide +kernel) (by decide +kernel)) V))
  refine Ground.open G ?_
  intro T B D TE TW
  try (refine guard_noD D (by decide +kernel) ?_; clear D)
  obtain ⟨_, _, M⟩ := bmod_of_top T
  have ha := law_at KX T hmg
  subst ha
  obtain ⟨P, hc, ht, hP⟩ := dec_tab KX T
  wrow_args hpre hlay hrd hwl hlo
  rename Heap.IsList _ _ _ => hLst
  rename IntsAre _ _ => hInt
  rename (¬ (_ < _)) => h63
  refine weaken 400 1000 (law_call ⟨KX, topRead_of T⟩ M hc ht hP (.of_eq hg) hLst hInt (by omega) ?_) rfl (Nat.le_of_ble_eq_true rfl) (Nat.le_of_ble_eq_true rfl)
  intro s' more hb' hos' hk' ht'
  refine ⟨.inl ⟨.bool true, _, [], rfl, raisesW_false (by wrow_none_raised), readsW_of_reads (.bool true), ?_, ?_⟩, (OldK.refl _).step_table ht ht ht' (fun b o hb e => hk' b o hb e) hP, hos', hb'⟩
  · exact postW_of (by wrow_shape) (by wtm_val) (by str_meet; first | done | w_fin)
  · first | exact unshared_nil | exact fun h => absurd h (by decide))
end Mine
end
open PySem PySem.W PyProof.Rows
set_option maxRecDepth 100000 in
set_option maxHeartbeats 8000000 in
theorem PySem.Challenge.cw_vn0023_01_holds : PySem.Challenge.rw_vn0023_01.Holds :=
  Mine.top
