import PyProof.Rows.All
import Wide.All
import OpenK.AllK
import Wide.FinOn
import Lean
import PySem.Challenge.RW_wy0019_01
open PySem PySem.W PySem.W.X PyProof.Rows PySem.Calls PySem.Spec
set_option Elab.async false
set_option maxRecDepth 100000
set_option maxHeartbeats 8000000
set_option linter.unusedVariables false
set_option compiler.extract_closed false
namespace Mine
/-- a goal under a name: what is taken apart next need not bear it -/
theorem gg {G : Prop} (h : ∀ P : Prop, (G → P) → P) : G := h G id
theorem said : PySem.W.OpenLaw.wellSaid PySem.Challenge.rw_wy0019_01 = true := by decide +kernel
/-- what `exported` looks for in the stack -/
noncomputable def expF (v : Value) : { F : Code × Pos → Bool // Builtin.Bytes.exported v = (stack >>= fun st => Pure.pure (st.any F)) } := ⟨_, rfl⟩
/-- nothing that holds a bytearray runs in this code -/
noncomputable def noDec (c : Code) : Prop := ∀ v p, (expF v).1 (c, p) = false
noncomputable def Clean (l : List (Code × Pos)) : Prop := ∀ x ∈ l, noDec x.1
/-- as wpAny, over the contexts without a decoder -/
noncomputable def wpS {α : Type} (M : Model) (A : Around) (t : Sem α) (Q : α → Shared → Prop) (E : Value → Shared → Prop) (s : Shared) : Prop :=
  ∀ Γ p, Γ.In A → noDec Γ.code → Clean Γ.below → Sem.wp M Γ t (fun a _ s' => Q a s') (fun e _ s' => E e s') p s
noncomputable def codeS (M : Model) (A : Around) (c : Code) (R : Result → Shared → Prop) (s : Shared) : Prop :=
  ∀ Γ p, Γ.code = c → Γ.Below A → Clean Γ.below → wpCode M Γ R p s
section
variable {α β : Type} {M : Model} {A : Around} {E : Value → Shared → Prop} {s : Shared}
theorem S.any {t : Sem α} {Q : α → Shared → Prop} (h : wpAny M A t Q E s) : wpS M A t Q E s := fun Γ p hΓ _ _ => h Γ p hΓ
theorem S.code {c : Code} {R : Result → Shared → Prop} (h : codeAny M A c R s) : codeS M A c R s := fun Γ p hc hΓ _ => h Γ p hc hΓ
theorem S.mono {t : Sem α} {Q Q' : α → Shared → Prop} {E' : Value → Shared → Prop} (h : wpS M A t Q E s) (hQ : ∀ a s, Q a s → Q' a s) (hE : ∀ e s, E e s → E' e s) : wpS M A t Q' E' s :=
  fun Γ p hΓ c1 c2 => Sem.wp_mono M Γ t (fun a _ s => hQ a s) (fun e _ s => hE e s) p s (h Γ p hΓ c1 c2)
theorem S.bind {m : Sem α} {f : α → Sem β} {Q : β → Shared → Prop} (h : wpS M A m (fun a s' => wpS M A (f a) Q E s') E s) : wpS M A (m >>= f) Q E s := fun Γ p hΓ c1 c2 => by
  rw [Sem.wp_bind']
  exact Sem.wp_mono M Γ m (fun a p' s' h' => h' Γ p' hΓ c1 c2) (fun _ _ _ h' => h') p s (h Γ p hΓ c1 c2)
/-- the first part of a bind by the wider judgement -/
theorem S.bindA {m : Sem α} {f : α → Sem β} {Q : β → Shared → Prop} (h : wpAny M A m (fun a s' => wpS M A (f a) Q E s') E s) : wpS M A (m >>= f) Q E s := S.bind (S.any h)
theorem S.pure {a : α} {Q : α → Shared → Prop} (h : Q a s) : wpS M A (Pure.pure a) Q E s := fun _ _ _ _ _ => h
theorem S.holding {vs : List Value} {m : Sem α} {Q : α → Shared → Prop} (h : wpS M A m Q E s) : wpS M A (holding vs m) Q E s := fun Γ p hΓ c1 c2 => by rw [Sem.wp_holding]; exact h Γ p hΓ c1 c2
theorem S.keep {vs : List Value} {m : Sem α} {Q : α → Shared → Prop} (h : wpS M A m Q E s) : wpS M A (m.keep vs) Q E s := fun Γ p hΓ c1 c2 => by rw [Sem.wp_keep]; exact h Γ p hΓ c1 c2
theorem S.onRaise {m : Sem α} {k : Value → Sem Unit} {Q : α → Shared → Prop} (h : wpS M A m Q (fun e s' => wpS M A (k e) (fun _ s'' => E e s'') E s') s) : wpS M A (m.onRaise k) Q E s := fun Γ p hΓ c1 c2 => by
  rw [Sem.wp_onRaise]
  exact Sem.wp_mono M Γ m (fun _ _ _ h' => h') (fun e p' s' h' => h' Γ p' hΓ c1 c2) p s (h Γ p hΓ c1 c2)
theorem S.of_eq {t : Sem α} {a : α} {Q : α → Shared → Prop} (e : t = Pure.pure a) (h : Q a s) : wpS M A t Q E s := by subst e; exact S.pure h
theorem S.eqv {t t' : Sem α} {Q : α → Shared → Prop} (e : t = t') (h : wpS M A t' Q E s) : wpS M A t Q E s := by subst e; exact h
theorem S.iteF {c : Bool} {a b : Sem α} {Q : α → Shared → Prop} (hc : c = false) (h : wpS M A b Q E s) : wpS M A (if c = true then a else b) Q E s := by subst hc; exact h
theorem S.iteT {c : Bool} {a b : Sem α} {Q : α → Shared → Prop} (hc : c = true) (h : wpS M A a Q E s) : wpS M A (if c = true then a else b) Q E s := by subst hc; exact h
theorem S.runValue {c : Code} {Q : Value → Shared → Prop} (hc : codeS M A c (fun r s' => match r with | .ok (.ret v) => Q v s' | .ok _ => False | .error e => E e s') s) : wpS M A (runValue c) Q E s := fun Γ p hΓ c1 c2 => by
  rw [Sem.wp_runValue]
  refine hc _ p rfl (hΓ.enter c none p (by intro x; cases x)) fun x hx => ?_
  rcases List.mem_cons.mp (show x ∈ (Γ.code, p) :: Γ.below from hx) with rfl | hx
  · exact c1
  · exact c2 x hx
theorem S.call {f : Value} {pos : List Value} {kw : List (Str × Value)} {Q : Value → Shared → Prop} (hc : codeS M A (.call f ⟨pos, kw⟩) (fun r s' => match r with | .ok (.ret v) => Q v s' | .ok _ => False | .error e => E e s') s) : wpS M A (call f pos kw) Q E s := S.runValue hc
theorem S.of_tree {c : Code} {R : Result → Shared → Prop} (hn : noDec c) (h : wpS M (A.under c) (M.den c) (fun fin s' => match fin with | .done f => R (.ok f) s' | .again c' => c'.quiet = true ∧ codeS M A c' R s') (fun e s' => R (.error e) s') s) : codeS M A c R s := fun Γ p hc hΓ c2 => by
  rw [wpCode_iff_wp, hc]
  refine Sem.wp_mono M Γ _ (fun fin p' s' h' => ?_) (fun _ _ _ h' => h') p s (h Γ p (hc ▸ hΓ.in) (hc ▸ hn) c2)
  cases fin with
  | done f => exact h'
  | again c' => exact ⟨h'.1, h'.2 (Γ.goto c') p' rfl (hΓ.goto c') c2⟩
theorem S.operate {vs : List Value} {m : Sem Value} {Q : Value → Shared → Prop} (h : wpS M A m Q E s) : wpS M A (operate vs m) Q E s := fun Γ p hΓ c1 c2 => by rw [Sem.wp_operate]; exact h Γ p hΓ c1 c2
end
section
variable {prog : Program} {w : World} {A : Around} {E : Value → Shared → Prop} {s : Shared} {R : Result → Shared → Prop}
theorem S.builtin {id : String} {args : Args} {b : Builtin} (hn : noDec (.builtin id args)) (hb : entryFor table id = some b)
    (h : wpS (model prog w) (A.under (.builtin id args)) (b args) (fun fin s' => match fin with | .done f => R (.ok f) s' | .again c' => c'.quiet = true ∧ codeS (model prog w) A c' R s') (fun e s' => R (.error e) s') s) :
    codeS (model prog w) A (.builtin id args) R s := by
  refine S.of_tree hn ?_
  show wpS _ _ (match entryFor table id with | some b => b args | none => unsupported ((withoutEnding? id "#data").getD id)) _ _ s
  rw [hb]; exact h
theorem S.call_function {a : Addr} {args : Args} {o : Obj} {fd : FuncData} {body : List Stmt} (hroom : A.depth < recursionLimit)
    (ho : s.heap.get? a = some o)
    (hd' : o.data = .func fd) (hco : fd.scope.isCoroutine = false) (hgen : fd.scope.isGenerator = false) (hbody : fd.body = .stmts body) (hcd : s.heap.CodeRec fd.code fd.qualname)
    (h : wpAny (model prog w) A.in1 (bindArgs fd args) (fun binds s₁ =>
      wpAny (model prog w) A.in1 (newFunctionEnv fd.scope fd.globals fd.closure binds (fd.qualname ++ ".<locals>.") (some a) fd.code none fd.builtins)
        (fun env s₂ => s₂.heap.NoLimit ∧ codeS (model prog w) A (.func body env) R s₂) (fun e s' => R (.error e) s') s₁) (fun e s' => R (.error e) s') s) :
    codeS (model prog w) A (.call (.ref a) args) R s := by
  refine S.of_tree (fun _ _ => rfl) (S.any ?_)
  show wpAny _ A.in1 (callAny (.ref a) args) _ _ s
  simp only [callAny]
  refine wpAny_bind (wpAny_load ho ?_)
  obtain ⟨c, oc, vs, tq, hc, hoc, hdc, hq⟩ := hcd
  simp only [hd', callFunction, hco, hgen, hbody, hc]
  rw [hc] at h
  refine wpAny_bind (m := field (.ref c) 1) (wpAny_field hoc hdc hq (wpAny_bind (wpAny_pure ?_)))
  exact wpAny_bind (wpAny_mono h (fun binds s₁ h₁ => wpAny_bind (wpAny_mono h₁ (fun env s₂ h₂ => wpAny_bind (wpAny_enterFrame h₂.1 hroom
    (wpAny_pure (And.intro rfl h₂.2)))) fun _ _ h' => h')) fun _ _ h' => h')
theorem S.func {body env}
    (h : wpS (model prog w) (A.deeper env) (execs body env) (fun f s' => R (.ok (.ret (match f with | .ret v => v | _ => .none))) s') (fun _ _ => False) s) :
    codeS (model prog w) A (.func body env) R s := by
  refine S.of_tree (fun _ _ => rfl) ?_
  show wpS _ (A.deeper env) (do point; match ← (execs body env).onRaise (leaving env) with | .ret v => ret v | _ => ret .none) _ _ s
  refine S.bindA (wpAny_point (S.bind (S.onRaise (S.mono h (fun f s' h' => ?_) fun _ _ h' => h'.elim))))
  cases f <;> exact S.pure h'
theorem S.execs_cons {env : Env} {st rest} {Q : Flow → Shared → Prop}
    (h : wpS (model prog w) A (exec st env) (fun f s' => match f with | .next => wpS (model prog w) A (execs rest env) Q E s' | f => Q f s') E s) :
    wpS (model prog w) A (execs (st :: rest) env) Q E s := by
  refine S.eqv (PySem.execs_cons env st rest) (S.bind (S.mono h (fun f s' h' => ?_) fun _ _ x => x))
  cases f <;> first | exact h' | exact S.pure h'
/-- a statement by the wider judgement -/
theorem S.stmt {env : Env} {st rest} {Q : Flow → Shared → Prop}
    (h : wpAny (model prog w) A (exec st env) (fun f s' => match f with | .next => wpS (model prog w) A (execs rest env) Q E s' | f => Q f s') E s) :
    wpS (model prog w) A (execs (st :: rest) env) Q E s := S.execs_cons (S.any h)
theorem S.Assign_Name {env : Env} {x pos' value pos} {Q : Flow → Shared → Prop}
    (h : wpS (model prog w) A (eval value env) (fun v s₁ => wpAny (model prog w) A (storeName env x v) (fun _ => Q .next) E s₁) E s)
    (hs : swapsWith value (some (.Name x pos')) pos.line env = Pure.pure false := by rfl) :
    wpS (model prog w) A (exec (.Assign [.Name x pos'] value pos) env) Q E s := by
  refine S.eqv (exec_Assign_Name env x pos' value pos hs) ?_
  refine S.bindA (wpAny_standAt (S.bind (S.mono h (fun v s₁ h₁ => ?_) fun _ _ x => x)))
  refine S.bindA (wpAny_standAt ?_)
  exact S.bindA (wpAny_bindName (wpAny_mono h₁ (fun _ _ q => S.pure q) fun _ _ x => x))
theorem S.isExported {v : Value} {Q : Bool → Shared → Prop} (h : Q false s) : wpS (model prog w) A (Builtin.Bytes.exported v) Q E s := fun Γ p hΓ c1 c2 => by
  have key : ((Γ.code, p) :: Γ.below).any (expF v).1 = false := by
    rw [List.any_eq_false]
    rintro ⟨c, q⟩ hx
    rcases List.mem_cons.mp hx with e | hx
    · cases e; rw [c1 v p]; exact Bool.false_ne_true
    · rw [c2 _ hx v q]; exact Bool.false_ne_true
  rw [(expF v).2, Sem.wp_bind']
  have st : ∀ K E', Sem.wp (model prog w) Γ stack K E' p s = K ((Γ.code, p) :: Γ.below) p s := fun _ _ => rfl
  rw [st, key]
  exact h
end
theorem S.thread_ends {prog : Program} {w : World} {t : Sem Fin} {s : Shared} {R : Result → Shared → Prop} (hreg : s.asleep)
    (h : wpS (model prog w) callerA t (fun fin s' => ∃ f, fin = .done f ∧ (R (.ok f) s' ∧ leftWithCleanup s'.gens = false)) (fun e s' => R (.error e) s' ∧ leftWithCleanup s'.gens = false) s) :
    ∃ n r s' s'', runN (denote table) prog w n s ⟨t, .builtin "claim.caller" {}, default, []⟩ = .halted (outcomeOf r) s' ∧
      schedN (denote table) prog w n (.single s ⟨t, .builtin "claim.caller" {}, default, []⟩) = .halted (outcomeOf r) s' ∧ s'.forget = s''.forget ∧ R r s'' := by
  obtain ⟨n, r, s₁, s₂, hs, hn, hfo, hR⟩ := wp_halts_full (M := model prog w) (R := R) hreg
    (Sem.wp_mono _ _ t (fun fin p' s' h' => by obtain ⟨f, rfl, hf⟩ := h'; exact hf) (fun _ _ _ h' => h') default s (h _ default caller_in (fun _ _ => rfl) (fun x hx => nomatch hx)))
  exact ⟨n, r, s₂, s₁, hn, hs, hfo, hR⟩
theorem S.callFrom {c : ClaimW} {tree : List Value → Sem Fin} {w : World} {s : Shared} {free : Addr → Prop} {gens : Prop} {kept : Heap → Prop} (hz : s.asleep) (hgens : s.gens = #[])
    (hspec : ∀ args, c.pre args = true → WData.layableAll args = true →
      ∀ ord : List DictEntry → List DictEntry, (∀ l, (ord l).Perm l) →
      ∃ vs s₁, layAllW c.records (classAt s.heap) w.params ord args s = some (vs, s₁) ∧
        wpS (model c.prog w) callerA (tree vs) (fun fin s' => ∃ f, fin = .done f ∧ (c.Ends s args vs s₁ (.ok f) s' ∧ s'.os = s.os ∧ AllBare s'.gens ∧ kept s'.heap))
          (fun e s' => c.Ends s args vs s₁ (.error e) s' ∧ s'.os = s.os ∧ AllBare s'.gens ∧ kept s'.heap) s₁) :
    c.CallFrom (fun vs => ⟨tree vs, .builtin "claim.caller" {}, default, []⟩) w free gens kept s := by
  intro args hpre hlay ord hord
  refine gg fun P hP => ?_
  obtain ⟨vs, s₁, hlaid, hcode⟩ := hspec args hpre hlay ord hord
  refine hP ?_
  clear hP
  have hal := layAllW_rest _ _ _ hlaid
  refine gg fun P hP => ?_
  obtain ⟨k, r, s', s'', hrun, hsched, hfo, hcase, hos, hkp⟩ := S.thread_ends (prog := c.prog) (w := w) (t := tree vs) (s := s₁)
    (R := fun r s' => c.Ends s args vs s₁ r s' ∧ s'.os = s.os ∧ kept s'.heap)
    (Shared.asleep_of_life hal.2.2.2 hz)
    (S.mono hcode (fun _ _ ⟨f, e, h1, h2, h3, h4⟩ => ⟨f, e, ⟨h1, h2, h4⟩, leftWithCleanup_false_of_bare h3⟩) (fun _ _ ⟨h1, h2, h3, h4⟩ => ⟨⟨h1, h2, h4⟩, leftWithCleanup_false_of_bare h3⟩))
  obtain ⟨eh, _, _, eo, _⟩ := Shared.forget_eq hfo
  refine hP ?_
  clear hP
  have hcase := hcase.congr eh
  rw [← eh] at hkp
  rw [← eo] at hos
  have hlife : s'.heap.life = s.heap.life := (runN_life _ _ _ hrun).trans hal.2.2.2
  refine ⟨vs, s₁, hlaid, k, _, s', hsched, ?_, (fun _ i x hx => by rw [hgens] at hx; simp at hx), hkp, by rw [hlife], Shared.rest_eq hos⟩
  rcases hcase with ⟨v, rfl, d1, d2, d3, d4, d5⟩ | ⟨e, ob, cls, rfl, d1, d2, d3, d4, d5⟩
  · exact .inl ⟨v, rfl, d1, d2, d3, fun b o y _ => d4 b o y, d5⟩
  · exact .inr ⟨e, ob, cls, rfl, d1, d2, d3, d4, fun b o y _ => d5 b o y⟩
theorem S.open_any {r : RowW} {run : Value → List Value → Sem Value} {tree : List Value → Sem Fin} {q : Program} {loose defs kps : List Str} {writes : Bool} {Xt : Shared → Bool} {XP : (Str → Option Value) → Heap → Prop} {α : Type} {Yf : Shared → α} {Ya : World → α} {YP : World → Heap → Prop} {N : Nat}
    (left : LeftO r.prog q loose Xt Yf Ya N) (hY : ∀ w s, Yf s = Ya w → YP w s.heap) (hYk : ∀ w h h', YP w h → (∀ b o, h.get? b = some o → h'.get? b = some o) → YP w h') (hX : ∀ s, Xt s = true → XP (s.heap.nsMap mainGlobals) s.heap) (hXk : ∀ mg h h', XP mg h → (∀ b o, h.get? b = some o → h'.get? b = some o) → XP mg h')
    (hRf : ∀ s, Xt s = true → RecFacts r.records s.heap) (hwr : (!writes || r.records.isEmpty) = true) (ok : (chainsOk q && opensWell r.prog && (frees r && r.within.isEmpty)) = true) (hb : r.prog.bare) (hw : r.promised)
    (ht : ∀ vs (w : World) (s : Shared) mg f (Q : Fin → Shared → Prop) (E : Value → Shared → Prop), s.heap.Ns mainGlobals mg → mg r.name = some f → wpS (model r.prog w) callerA (run f vs) (fun v s' => Q (.done (.ret v)) s') E s → wpS (model r.prog w) callerA (tree vs) Q E s)
    (pin : ∀ w s, s.heap.isNs mainGlobals = true → Ground q loose [] XP w s (s.heap.nsMap mainGlobals) (s.heap.nsMap builtinsNs) s.heap → ∀ n ∈ defs, isTheDefsW r.prog s.heap n)
    (call : ∀ (w : World) (s₀ s₁ : Shared) (mg mb : Str → Option Value), Ground q loose r.records XP w s₀ mg mb s₁.heap → YP w s₁.heap → ∀ (args : List WData) (vs : List Value) (as : List Addr),
      r.claim.pre args = true → WData.layableAll args = true → Laid r.records w s₀ s₁ args vs as → sysModules < s₀.heap.objs.size → ∃ f, mg r.name = some f ∧
        wpS (model r.prog w) callerA (run f vs) (fun v s' => GoodWG r.claim (classAt s₀.heap) (ExcName.means s₀.heap) args s₁ (.ok (.ret v)) s')
          (fun e s' => GoodWG r.claim (classAt s₀.heap) (ExcName.means s₀.heap) args s₁ (.error e) s') s₁) : r.claim.HoldsOpenBy (fun vs => ⟨tree vs, .builtin "claim.caller" {}, default, []⟩) defs kps writes := by
  refine gg fun P hP => ?_
  obtain ⟨ok, k5⟩ := Bool.and_eq_true_iff.mp ok
  obtain ⟨hch, o1⟩ := Bool.and_eq_true_iff.mp ok
  obtain ⟨k5, k6⟩ := Bool.and_eq_true_iff.mp k5
  obtain ⟨hsame, hu, ha, hap, hm⟩ := frees_parts k5
  refine hP ?_
  clear hP
  refine ⟨⟨hb, o1, by show r.makers.map _ = []; rw [hm]; rfl⟩, hw.witness, fun w => ⟨(left.behind hX hch w).1, fun s' hs' => ?_⟩⟩
  refine gg fun P hP => ?_
  obtain ⟨s₀, hf, hg0, s, hT, hz, hgens, hg, G00, y⟩ := (left.behind (XP := fun mg h => XP mg h ∧ RecFacts r.records h) (fun s hs => ⟨hX s hs, hRf s hs⟩) hch w).2 s' hs'
  refine hP ?_
  clear hP
  have G0 : Ground q loose [] XP w s (s.heap.nsMap mainGlobals) (s.heap.nsMap builtinsNs) s.heap := ⟨G00.T, G00.B, G00.D, G00.TE, G00.TD, G00.W, G00.X.1, G00.cls, G00.has, G00.apart, G00.once, G00.K⟩
  have RF := G00.X.2
  have hT' := hT
  refine ⟨s₀, hf, hg0, s, hT, pin w s hg G0, RF.1, RF.2.1, ?_⟩
  have hgens : s.gens = #[] := Array.eq_empty_of_size_eq_zero (beq_iff_eq.mp hgens)
  have G : Ground q loose r.records XP w s _ _ s.heap := RF.ground G0
  refine S.callFrom (c := r.claim) hz hgens fun args hpre hlay ord hord => ?_
  refine gg fun P hP => ?_
  obtain ⟨⟨vs, s₁⟩, hlaid⟩ := Option.isSome_iff_exists.mp (layAllW_isSome (P := w.params) (ord := ord) G.has args r.args s (pre_splitW hpre).1)
  refine hP ?_
  clear hP
  have keeps := layAllW_keeps _ _ _ hlaid
  have hal := layAllW_rest _ _ _ hlaid
  refine gg fun P hP => ?_
  obtain ⟨as, hrd, hin, hold⟩ := reads_layAllW hord _ _ _ hlaid hlay s₁.heap (fun _ _ e => e)
  refine hP ?_
  clear hP
  have L : Laid r.records w s s₁ args vs as := ⟨⟨ord, hord, hlaid⟩, hrd, hin, hold, keeps, hal.1.trans hgens, hal.2.2.1⟩
  have G₁ := G.keeps hXk keeps
  refine gg fun P hP => ?_
  obtain ⟨f, hf, h⟩ := call w s s₁ _ _ G₁ (hYk _ _ _ (hY w s y) keeps) args vs as hpre hlay L G.low
  refine hP ?_
  clear hP
  have hi := ident_freeW hu ha hap
  have hwi : r.claim.within = [] := List.isEmpty_iff.mp k6
  exact ⟨vs, s₁, hlaid, ht vs w s₁ _ f _ _ G₁.T.g hf (S.mono h (fun v s' g => ⟨_, rfl, have z := g.laid (c := r.claim) hsame hwi hi L; ⟨z.1, z.2.1, z.2.2, fun q => ⟨namesKept_of hT' hg kps keeps g.2.1.old, noTable hwr q⟩⟩⟩) fun e s' g => have z := g.laid (c := r.claim) hsame hwi hi L; ⟨z.1, z.2.1, z.2.2, fun q => ⟨namesKept_of hT' hg kps keeps g.2.1.old, noTable hwr q⟩⟩)⟩
abbrev WalkS (q : Program) (loose : List Str) (XP : (Str → Option Value) → Heap → Prop) (YP : World → Heap → Prop) (r : RowW) (d : DefRec) (kwd : List (Str × Expr)) (run : Value → List Value → Sem Value) : Prop :=
  ∀ (w : World) (s₀ s₁ : Shared) (mg mb : Str → Option Value), Ground q loose r.records XP w s₀ mg mb s₁.heap → YP w s₁.heap → ∀ (a : Addr) (o : Obj) (pm cd doc dV kV : Value), s₁.heap.get? a = some o →
    o.data = .func { docDef d.name d.params d.body d.scope pm cd doc with defaults := dV, kwdefaults := kV } → s₁.heap.CodeRec cd d.name → Dflts mg s₁.heap d.params kwd dV kV → mg d.name = some (.ref a) → s₁.gens = #[] →
    ∀ (args : List WData) (vals : List Value) (as : List Addr), r.claim.pre args = true → WData.layableAll args = true → ReadsAllW r.records (classAt s₀.heap) s₁.heap vals args as → WellAll w.params s₁.heap vals args → (∀ a ∈ as, (a == sysModules) = false) →
      wpS (model r.prog w) callerA (run (.ref a) vals) (fun v s' => GoodWG r.claim (classAt s₀.heap) (ExcName.means s₀.heap) args s₁ (.ok (.ret v)) s')
        (fun e s' => GoodWG r.claim (classAt s₀.heap) (ExcName.means s₀.heap) args s₁ (.error e) s') s₁
end Mine
namespace Mine.PySem.W
/-- the head, over the contexts without a decoder; its name: open_top asks for it -/
theorem holds_open {r : OpenRow} {q : Program} {loose : List Str} {Xt : Shared → Bool} {XP : (Str → Option Value) → Heap → Prop} {α : Type} {Yf : Shared → α} {Ya : World → α} {YP : World → Heap → Prop} {d : DefRec} {kwd : List (Str × Expr)} {N : Nat}
    (left : LeftO r.prog q loose Xt Yf Ya N) (hY : ∀ w s, Yf s = Ya w → YP w s.heap) (hYk : ∀ w h h', YP w h → (∀ b o, h.get? b = some o → h'.get? b = some o) → YP w h')
    (hX : ∀ s, Xt s = true → XP (s.heap.nsMap mainGlobals) s.heap) (hXk : ∀ mg h h', XP mg h → (∀ b o, h.get? b = some o → h'.get? b = some o) → XP mg h')
    (hdef : defOf q r.name = some (d, kwd)) (hp : r.prog.theDef r.name = some (d.params, d.body, d.scope)) (hk : kwWritten? d.params.kwonlyargs d.params.kw_defaults = some kwd) (hRf : ∀ s, Xt s = true → RecFacts r.records s.heap) (hwr : (!r.writes || r.records.isEmpty) = true)
    (k1 : r.wellSaid = true) (ok : (chainsOk q && opensWell r.prog && (frees r.toRowW && r.within.isEmpty)) = true) (hb : r.prog.bare) (hw : r.toRowW.promised)
    (call : WalkS q loose XP YP r.toRowW d kwd fun f vs => PySem.call f vs) : r.Holds := by
  refine ⟨k1, hw, S.open_any (r := r.toRowW) (run := fun f vs => PySem.call f vs) (tree := fun vs => do match ← nsGet mainNs r.name with
      | some f => do ret (← PySem.call f vs)
      | none => unsupported "claim.caller:no-such-global") left hY hYk hX hXk hRf hwr ok hb hw
    (fun vs w s mg f Q E hg hf h => S.bindA (wpAny_nsGet hg (by rw [hf]; exact S.bind (S.mono h (fun _ _ x => S.pure x) fun _ _ x => x))))
    (fun w s hg G n hn => ?_) fun w s₀ s₁ mg mb G Y args vs as hpre hlay L low => ?_⟩
  · obtain rfl : n = r.name := by split at hn <;> simp_all
    exact pinned_of_view hg G hdef hp hk
  · refine gg fun P hP => ?_
    obtain ⟨a, o, pm, cd, doc, dV, kV, h1, h2, h3, h4, h5⟩ := G.fn hdef
    refine hP ?_
    clear hP
    exact ⟨.ref a, h1, call w s₀ s₁ mg mb G Y a o pm cd doc dV kV h2 h3 h4 h5 (defOf_name hdef ▸ h1) L.gens args vs as hpre hlay L.reads L.well (L.low low)⟩
end Mine.PySem.W
namespace Mine
set_option synthInstance.maxSize 1 in
open_top hd for PySem.W.OpenLaw.row PySem.Challenge.rw_wy0019_01
/-- where a def is walked: room enough, nothing handled -/
abbrev AX (n u : Nat) : Around := { handled := none, depth := n, frames := none, guards := some [], units := u }
/-- every object stands as it stood -/
abbrev Kp (h h' : Heap) : Prop := ∀ b o, h.get? b = some o → h'.get? b = some o

/-- an object that stands is not where none stands -/
theorem ne_of_none {h : Heap} {a b : Nat} {o : Obj} (n : h.get? a = none) (e : h.get? b = some o) : b ≠ a := fun q => by rw [q, n] at e; cases e
theorem enter {prog : Program} {w : World} {A : Around} {s : Shared} {K : Frag} {Q : Value → Shared → Prop} {E : Value → Shared → Prop}
    {name qual : Str} {params : Arguments} {body : List Stmt} {scope : Scope} {dV kV doc pm cdv ct oc : Value} {an od : Option Addr} {osl : Array (Option Value)} {f : Addr} {vs : List Value} {kw : List (Str × Value)} {binds : List (Str × Value)}
    (X : K.In s.heap) (hlim : s.heap.NoLimit)
    (ho : K.lookup f = some ⟨oc, od, .func (fnOf name qual params body scope dV kV doc pm an cdv ct), osl⟩) (hcd : codeIn K cdv qual = true) (hroom : A.depth < recursionLimit)
    (hbind : BindsTo s (fnOf name qual params body scope dV kV doc pm an cdv ct) ⟨vs, kw⟩ binds) (hloc : ∀ y ∈ binds, scope.names.lookup y.1 = some .local)
    (h : ∀ L h₁ tk, L = s.heap.objs.size → Fr s.heap L h₁ (fun y => binds.reverse.lookup y) → News s.heap L h₁ [] →
      wpAny (model prog w) (A.deeper (envOf qual scope L f cdv)) (execs body (envOf qual scope L f cdv))
        (fun fl s' => Q (match fl with | .ret v => v | _ => .none) s') (fun _ _ => False)
        { s with heap := h₁, toks := tk })
    (hco : scope.isCoroutine = false) (hgen : scope.isGenerator = false) (hk : scope.kind = .function)
    (hcell : ∀ x ∈ scope.names, x.2 ≠ .cell) : wpAny (model prog w) A (call (.ref f) vs kw) Q E s := by
  refine wpAny_call ?_
  refine codeAny_call_def (fd := fnOf name qual params body scope dV kV doc pm an cdv ct) (body := body) (binds := binds) hroom (X _ _ ho) rfl hlim (codeRec_of X hcd) rfl hbind hcell hloc (fun h₁ hns hk₁ => ?_) hco hgen hk
  exact wpAny_mono (h _ h₁ _ rfl ⟨hns, hk₁, Nat.le_refl _⟩ News.nil) (fun fl s' hl => hl) fun _ _ y => y.elim

/-- a name's value, written into the frame's map -/
theorem Frp {h₀ h : Heap} {L : Addr} {m : Str → Option Value} (F : Fr h₀ L h m) (n : Str) {v : Value} (e : m n = some v) : Fr h₀ L h (fun y => if y = n then some v else m y) := by
  have : (fun y => if y = n then some v else m y) = m := by
    funext y
    by_cases q : y = n
    · subst q; rw [if_pos rfl, e]
    · rw [if_neg q]
  rw [this]; exact F
theorem pin_map {m : Str → Option Value} (n : Str) {v : Value} (e : m n = some v) : m = (fun y => if y = n then some v else m y) := by
  funext y
  by_cases q : y = n
  · subst q; rw [if_pos rfl, e]
  · rw [if_neg q]

theorem enterC {prog : Program} {w : World} {A : Around} {s : Shared} {K : Frag} {Q : Value → Shared → Prop} {E : Value → Shared → Prop}
    {name qual : Str} {params : Arguments} {body : List Stmt} {scope : Scope} {dV kV doc pm cdv ct oc : Value} {an od : Option Addr} {osl : Array (Option Value)} {f : Addr} {vs : List Value} {kw : List (Str × Value)} {binds : List (Str × Value)}
    (X : K.In s.heap) (hlim : s.heap.NoLimit)
    (ho : K.lookup f = some ⟨oc, od, .func (fnOf name qual params body scope dV kV doc pm an cdv ct), osl⟩) (hcd : codeIn K cdv qual = true) (hroom : A.depth < recursionLimit)
    (hbind : BindsTo s (fnOf name qual params body scope dV kV doc pm an cdv ct) ⟨vs, kw⟩ binds)
    (hkind : (binds.all fun y => scope.names.lookup y.1 == some .local || scope.names.lookup y.1 == some .cell) = true)
    (hnd : ((cellsFrom 0 scope.names []).map (·.1)).Nodup)
    (h : ∀ L h₁ tk cells, L = s.heap.objs.size → Fr s.heap L h₁ (bindL (envOfC qual scope L f cdv).kindOf binds fun _ => none) → News s.heap L h₁ cells →
      CellsAre (bindC (envOfC qual scope L f cdv).kindOf binds fun _ => none) (cellsFrom (L + 1) scope.names []) cells →
      wpAny (model prog w) (A.deeper (envOfC qual scope L f cdv)) (execs body (envOfC qual scope L f cdv))
        (fun fl s' => Q (match fl with | .ret v => v | _ => .none) s') (fun _ _ => False)
        { s with heap := h₁, toks := tk })
    (hco : scope.isCoroutine = false) (hgen : scope.isGenerator = false) (hk : scope.kind = .function) : wpAny (model prog w) A (call (.ref f) vs kw) Q E s := by
  refine wpAny_call ?_
  refine codeAny_call_function (fd := fnOf name qual params body scope dV kV doc pm an cdv ct) hroom (X _ _ ho) rfl hco hgen rfl (codeRec_of X hcd) (hbind _ _ _ _ ?_)
  refine wpAny_newFunctionEnv_cells hk (kindsX hkind _) fun env' he s' x => ?_
  subst he
  refine ⟨hlim.keeps x.toInCall.keep, codeAny_func ?_⟩
  obtain ⟨h₁, tk, rfl, _⟩ := x.done
  have hk₁ := x.toInCall.keep
  obtain ⟨cells, NC, Y⟩ := Cl.news (h₀ := s.heap) (Nat.le_refl _) fun n c hm => ⟨x.cell n c (lookup_of_mem_nodup (cellsFrom_names scope.names 0 (s.heap.objs.size + 1) [] [] rfl ▸ hnd) hm), x.above n c hm⟩
  exact wpAny_mono (h s.heap.objs.size h₁ tk cells rfl ⟨x.toInCall.ns, hk₁, Nat.le_refl _⟩ NC Y) (fun fl s' hl => hl) fun _ _ y => y.elim

/-- entering a def with some objects taken out of the base -/
theorem enterH {prog : Program} {w : World} {A : Around} {s : Shared} {K : Frag} {Q : Value → Shared → Prop} {E : Value → Shared → Prop} {p : Program} {loose : List Str} {mean : ExcName → Option Value} {mg mb : Str → Option Value}
    {name qual : Str} {params : Arguments} {body : List Stmt} {scope : Scope} {dV kV doc pm cdv ct oc : Value} {an od : Option Addr} {osl : Array (Option Value)} {f : Addr} {vs : List Value} {kw : List (Str × Value)} {binds : List (Str × Value)} {b₀ : Heap} {hid : List (Addr × Obj)}
    (X : K.In b₀) (T : Top p loose mean mg mb b₀) (hk₀ : Kp b₀ s.heap) (hhid : ∀ q ∈ hid, s.heap.get? q.1 = some q.2 ∧ b₀.get? q.1 = none)
    (ho : K.lookup f = some ⟨oc, od, .func (fnOf name qual params body scope dV kV doc pm an cdv ct), osl⟩) (hcd : codeIn K cdv qual = true) (hroom : A.depth < recursionLimit)
    (hbind : K.In s.heap → BindsTo s (fnOf name qual params body scope dV kV doc pm an cdv ct) ⟨vs, kw⟩ binds)
    (hkind : (binds.all fun y => scope.names.lookup y.1 == some .local || scope.names.lookup y.1 == some .cell) = true)
    (hnd : ((cellsFrom 0 scope.names []).map (·.1)).Nodup)
    (h : ∀ g L h₁ tk cells, K.In g → Top p loose mean mg mb g → (∀ b o, s.heap.get? b = some o → b ∉ hid.map (·.1) → g.get? b = some o) → (∀ b o, g.get? b = some o → s.heap.get? b = some o) → L = s.heap.objs.size → Fr g L h₁ (bindL (envOfC qual scope L f cdv).kindOf binds fun _ => none) → News g L h₁ (cells ++ hid) →
      CellsAre (bindC (envOfC qual scope L f cdv).kindOf binds fun _ => none) (cellsFrom (L + 1) scope.names []) cells →
      wpAny (model prog w) (A.deeper (envOfC qual scope L f cdv)) (execs body (envOfC qual scope L f cdv))
        (fun fl s' => Q (match fl with | .ret v => v | _ => .none) s') (fun _ _ => False)
        { s with heap := h₁, toks := tk })
    (hco : scope.isCoroutine = false) (hgen : scope.isGenerator = false) (hk : scope.kind = .function) : wpAny (model prog w) A (call (.ref f) vs kw) Q E s := by
  have Xs : K.In s.heap := X.keeps hk₀
  have kg : Kp b₀ (hideAll s.heap (hid.map (·.1))) := fun b o e => hideAll_get _ (hk₀ b o e) fun hm => by
    obtain ⟨q, hq, rfl⟩ := List.mem_map.mp hm
    rw [(hhid q hq).2] at e; cases e
  refine wpAny_call ?_
  refine codeAny_call_function (fd := fnOf name qual params body scope dV kV doc pm an cdv ct) hroom (Xs _ _ ho) rfl hco hgen rfl (codeRec_of Xs hcd) (hbind Xs _ _ _ _ ?_)
  refine wpAny_newFunctionEnv_cells hk (kindsX hkind _) fun env' he s' x => ?_
  subst he
  refine ⟨(T.nolimit.keeps hk₀).keeps x.toInCall.keep, codeAny_func ?_⟩
  obtain ⟨h₁, tk, rfl, _⟩ := x.done
  have hk₁ := x.toInCall.keep
  obtain ⟨cells, NC, Y⟩ := Cl.news (h₀ := s.heap) (Nat.le_refl _) fun n c hm => ⟨x.cell n c (lookup_of_mem_nodup (cellsFrom_names scope.names 0 (s.heap.objs.size + 1) [] [] rfl ▸ hnd) hm), x.above n c hm⟩
  refine wpAny_mono (h (hideAll s.heap (hid.map (·.1))) s.heap.objs.size h₁ tk cells (X.keeps kg) (T.keeps kg) (fun b o e hb => hideAll_get _ e hb) (fun b o e => of_hideAll _ e) rfl
    ⟨x.toInCall.ns, fun b o e => hk₁ b o (of_hideAll _ e), Nat.le_of_eq (hideAll_size _ _)⟩ (fun q hq => ?_) Y) (fun fl s' hl => hl) fun _ _ y => y.elim
  rcases List.mem_append.mp hq with hq | hq
  · refine ⟨(NC q hq).1, (NC q hq).2.1, ?_⟩
    cases z : (hideAll s.heap (hid.map (·.1))).get? q.1 with
    | none => rfl
    | some o => have := of_hideAll _ z; rw [(NC q hq).2.2] at this; cases this
  · exact ⟨hk₁ _ _ (hhid q hq).1, Nat.ne_of_lt (Heap.lt_size (hhid q hq).1), hideAll_none _ (List.mem_map_of_mem hq)⟩

theorem new_of {h h' : Heap} {D : Addr} (k : Kp h h') (l : h'.objs.size ≤ D) : h.get? D = none := by
  cases e : h.get? D with
  | none => rfl
  | some o => exact absurd (Heap.lt_size (k _ _ e)) (Nat.not_lt.mpr l)
example : (Mine.hd.heap_1, PySem.Challenge.rw_wy0019_01) = (Mine.hd.heap_1, PySem.Challenge.rw_wy0019_01) := by k_fill; rfl
local macro_rules | `(tactic| walk_at "exec While Compare cons nil") => `(tactic| k_extra "mine while")
local macro_rules | `(tactic| walk_at "call ref") => `(tactic| k_extra "mine call")
local macro_rules | `(tactic| walk_at "eval ListComp cons nil") => `(tactic| k_extra "mine comp")
local macro_rules | `(tactic| walk_at "getMethod ref") => `(tactic| k_extra "mine getm")
local macro_rules | `(tactic| walk_at "call builtin:list.index") => `(tactic| k_extra "mine index")
local macro_rules | `(tactic| walk_at "call type:int") => `(tactic| k_extra "mine int")
local macro_rules | `(tactic| walk_at "setAttr ref") => `(tactic| k_extra "mine setattr")
local macro_rules | `(tactic| walk_at "subscriptTail Name Constant ref str") => `(tactic| k_extra "mine dsub")
local macro_rules | `(tactic| walk_at "callWith") => `(tactic| k_extra "mine cw")
local macro_rules | `(tactic| walk_at "callWith ref") => `(tactic| k_extra "mine cw")
local macro_rules | `(tactic| walk_at "call builtin:hasattr") => `(tactic| k_extra "mine hasattr")
local macro_rules | `(tactic| walk_at "binaryOp Add ref ref") => `(tactic| k_extra "mine addl")
local macro_rules | `(tactic| walk_at "binaryOp Mult ref int") => `(tactic| k_extra "mine mull")
local macro_rules | `(tactic| walk_at "mine enter") => `(tactic| (walk_at "mine enter0"; intro L' h' tk' hL' F' N'; (try dsimp only); (try k_fold)))
local macro_rules | `(tactic| walk_at "mine enterC") => `(tactic| (walk_at "mine enterC0"; intro L' h' tk' cells' hL' F' N' Y'; k_cells Y'; (try simp only [List.cons_append, List.nil_append] at N'); (try dsimp only); (try k_fold)))
local macro_rules | `(tactic| walk_at "mine fnset") => `(tactic| first | (walk_at "mine fnset0"; intro d' od' h' tk' F' N' D' l1; (try dsimp only at N'); (try k_lt l1)) | (walk_at "mine fnset1"; intro od' h' tk' F' N' D'; (try dsimp only at N')))
local macro_rules | `(tactic| x_close) => `(tactic| (rename ∀ (_ : Heap) (_ : Nat) (_ : List (Addr × Obj)), Mem _ _ _ _ → _ => ret'; exact ret' _ _ _ (by assumption)))
local macro_rules | `(tactic| k_ne) => `(tactic| (refine neN ?_; (try dsimp only); first | k_extra "mine ne" | omega))
example : True := by k_with_none; trivial
example : True := by
  k_with "mine enter0" => (
      refine' enter ?kX ?kT ?k6 ?k7 ?k8 ?k9 ?kB ?_ ?c2 ?c3 ?c4 ?c5
      (case kX => assumption)
      (case kT => exact Top.nolimit (by assumption))
      (case k6 => k_is)
      (case k7 => k_is)
      (case k8 => decide)
      (case k9 => first | exact BindsTo.of_eq rfl | exact kp_binds (by assumption) (fun _ => rfl))
      (case c5 => decide)
      (case kB => exact locs rfl)
      (case c2 => exact rfl)
      (case c3 => exact rfl)
      (case c4 => exact rfl))
  k_with "mine enterC0" => (
      refine' enterC ?kX ?kT ?k6 ?k7 ?k8 ?k9 ?kB ?kD ?_ ?c2 ?c3 ?c4
      (case kX => assumption)
      (case kT => exact Top.nolimit (by assumption))
      (case k6 => k_is)
      (case k7 => k_is)
      (case k8 => decide)
      (case k9 => first | exact BindsTo.of_eq rfl | exact kp_binds (by assumption) (fun _ => rfl))
      (case kB => exact rfl)
      (case kD => decide +kernel)
      (case c2 => exact rfl)
      (case c3 => exact rfl)
      (case c4 => exact rfl))
  k_with "mine enterH" => (
      (case k6 => k_is)
      (case k7 => k_is)
      (case k8 => decide)
      (case k9 => first | exact fun _ => BindsTo.of_eq rfl | exact fun X' => kp_binds X' (fun _ => rfl))
      (case kB => exact rfl)
      (case kD => decide +kernel)
      (case c2 => exact rfl)
      (case c3 => exact rfl)
      (case c4 => exact rfl))
  k_with "mine ne" => (with_reducible first
      | exact Nat.ne_of_lt (by assumption)
      | exact Nat.ne_of_lt (And.left (by assumption))
      | exact Nat.ne_of_lt (And.left (And.right (by assumption)))
      | exact Nat.ne_of_lt (And.right (by assumption))
      | exact Nat.ne_of_lt (And.left (And.right (And.right (by assumption))))
      | exact Nat.ne_of_lt (And.right (And.right (by assumption)))
      | exact Nat.ne_of_lt (And.left (And.right (And.right (And.right (by assumption)))))
      | exact Nat.ne_of_lt (And.right (And.right (And.right (by assumption))))
      | exact Nat.ne_of_lt (And.left (And.right (And.right (And.right (And.right (by assumption))))))
      | exact Nat.ne_of_lt (And.right (And.right (And.right (And.right (by assumption)))))
      | exact Nat.ne_of_lt (And.left (And.right (And.right (And.right (And.right (And.right (by assumption)))))))
      | exact Nat.ne_of_lt (And.right (And.right (And.right (And.right (And.right (by assumption))))))
      | exact Nat.ne_of_lt (And.left (And.right (And.right (And.right (And.right (And.right (And.right (by assumption))))))))
      | exact Nat.ne_of_lt (And.right (And.right (And.right (And.right (And.right (And.right (by assumption)))))))
      | exact Nat.ne_of_lt (And.left (And.right (And.right (And.right (And.right (And.right (And.right (And.right (by assumption)))))))))
      | exact Nat.ne_of_lt (And.right (And.right (And.right (And.right (And.right (And.right (And.right (by assumption))))))))
      | exact Nat.ne_of_lt (And.left (And.right (And.right (And.right (And.right (And.right (And.right (And.right (And.right (by assumption))))))))))
      | exact Nat.ne_of_lt (And.right (And.right (And.right (And.right (And.right (And.right (And.right (And.right (by assumption)))))))))
      | exact Nat.ne_of_lt (And.left (And.right (And.right (And.right (And.right (And.right (And.right (And.right (And.right (And.right (by assumption)))))))))))
      | exact Nat.ne_of_lt (And.right (And.right (And.right (And.right (And.right (And.right (And.right (And.right (And.right (by assumption))))))))))
      | exact Nat.ne_of_gt (by assumption)
      | exact Nat.ne_of_gt (And.left (by assumption))
      | exact Nat.ne_of_gt (And.left (And.right (by assumption)))
      | exact Nat.ne_of_gt (And.right (by assumption))
      | exact Nat.ne_of_gt (And.left (And.right (And.right (by assumption))))
      | exact Nat.ne_of_gt (And.right (And.right (by assumption)))
      | exact Nat.ne_of_gt (And.left (And.right (And.right (And.right (by assumption)))))
      | exact Nat.ne_of_gt (And.right (And.right (And.right (by assumption))))
      | exact Nat.ne_of_gt (And.left (And.right (And.right (And.right (And.right (by assumption))))))
      | exact Nat.ne_of_gt (And.right (And.right (And.right (And.right (by assumption)))))
      | exact Nat.ne_of_gt (And.left (And.right (And.right (And.right (And.right (And.right (by assumption)))))))
      | exact Nat.ne_of_gt (And.right (And.right (And.right (And.right (And.right (by assumption))))))
      | exact Nat.ne_of_gt (And.left (And.right (And.right (And.right (And.right (And.right (And.right (by assumption))))))))
      | exact Nat.ne_of_gt (And.right (And.right (And.right (And.right (And.right (And.right (by assumption)))))))
      | exact Nat.ne_of_gt (And.left (And.right (And.right (And.right (And.right (And.right (And.right (And.right (by assumption)))))))))
      | exact Nat.ne_of_gt (And.right (And.right (And.right (And.right (And.right (And.right (And.right (by assumption))))))))
      | exact Nat.ne_of_gt (And.left (And.right (And.right (And.right (And.right (And.right (And.right (And.right (And.right (by assumption))))))))))
      | exact Nat.ne_of_gt (And.right (And.right (And.right (And.right (And.right (And.right (And.right (And.right (by assumption)))))))))
      | exact Nat.ne_of_gt (And.left (And.right (And.right (And.right (And.right (And.right (And.right (And.right (And.right (And.right (by assumption)))))))))))
      | exact Nat.ne_of_gt (And.right (And.right (And.right (And.right (And.right (And.right (And.right (And.right (And.right (by assumption)))))))))))
  trivial
theorem add_spec {prog : Program} {w : World} {p loose mean mg mb} {s : Shared} {a b : Int} {ta tb : Tok} {Q E : Value → Shared → Prop}
    (X : (hd.heap_1 w.params).In s.heap) (T : Top p loose mean mg mb s.heap)
    (ret : ∀ t h' tk', Kp s.heap h' → Q (.int (a + b) t) { s with heap := h', toks := tk' }) :
    wpAny (model prog w) (AX 700 5000) (call (.ref 55) [.int a ta, .int b tb]) Q E s := by
  walk_at "mine enter"
  k_steps
  all_goals (dsimp only; exact ret _ _ _ (Fr.keep (by assumption)))

theorem sub_spec {prog : Program} {w : World} {p loose mean mg mb} {s : Shared} {a b : Int} {ta tb : Tok} {Q E : Value → Shared → Prop}
    (X : (hd.heap_1 w.params).In s.heap) (T : Top p loose mean mg mb s.heap)
    (ret : ∀ t h' tk', Kp s.heap h' → Q (.int (a - b) t) { s with heap := h', toks := tk' }) :
    wpAny (model prog w) (AX 700 5000) (call (.ref 76) [.int a ta, .int b tb]) Q E s := by
  walk_at "mine enter"
  k_steps
  all_goals (dsimp only; exact ret _ _ _ (Fr.keep (by assumption)))

theorem neg_spec {prog : Program} {w : World} {p loose mean mg mb} {s : Shared} {a : Int} {ta : Tok} {Q E : Value → Shared → Prop}
    (X : (hd.heap_1 w.params).In s.heap) (T : Top p loose mean mg mb s.heap)
    (ret : ∀ t h' tk', Kp s.heap h' → Q (.int (-a) t) { s with heap := h', toks := tk' }) :
    wpAny (model prog w) (AX 700 5000) (call (.ref 69) [.int a ta]) Q E s := by
  walk_at "mine enter"
  k_steps
  all_goals (dsimp only; exact ret _ _ _ (Fr.keep (by assumption)))

theorem mul_spec {prog : Program} {w : World} {p loose mean mg mb} {s : Shared} {a b : Int} {ta tb : Tok} {Q E : Value → Shared → Prop}
    (X : (hd.heap_1 w.params).In s.heap) (T : Top p loose mean mg mb s.heap) (hlo : -10 < a) (hhi : a < 10)
    (ret : ∀ t h' tk', Kp s.heap h' → Q (.int (a * b) t) { s with heap := h', toks := tk' }) :
    wpAny (model prog w) (AX 700 5000) (call (.ref 62) [.int a ta, .int b tb]) Q E s := by
  walk_at "mine enter"
  k_steps
  all_goals (dsimp only; exact ret _ _ _ (Fr.keep (by assumption)))
example : True := by k_with_none; trivial
example : True := by
  k_with "mine enter0" => (
      refine' enter ?kX ?kT ?k6 ?k7 ?k8 ?k9 ?kB ?_ ?c2 ?c3 ?c4 ?c5
      (case kX => assumption)
      (case kT => exact Top.nolimit (by assumption))
      (case k6 => k_is)
      (case k7 => k_is)
      (case k8 => decide)
      (case k9 => first | exact BindsTo.of_eq rfl | exact kp_binds (by assumption) (fun _ => rfl))
      (case c5 => decide)
      (case kB => exact locs rfl)
      (case c2 => exact rfl)
      (case c3 => exact rfl)
      (case c4 => exact rfl))
  k_with "mine enterC0" => (
      refine' enterC ?kX ?kT ?k6 ?k7 ?k8 ?k9 ?kB ?kD ?_ ?c2 ?c3 ?c4
      (case kX => assumption)
      (case kT => exact Top.nolimit (by assumption))
      (case k6 => k_is)
      (case k7 => k_is)
      (case k8 => decide)
      (case k9 => first | exact BindsTo.of_eq rfl | exact kp_binds (by assumption) (fun _ => rfl))
      (case kB => exact rfl)
      (case kD => decide +kernel)
      (case c2 => exact rfl)
      (case c3 => exact rfl)
      (case c4 => exact rfl))
  k_with "mine enterH" => (
      (case k6 => k_is)
      (case k7 => k_is)
      (case k8 => decide)
      (case k9 => first | exact fun _ => BindsTo.of_eq rfl | exact fun X' => kp_binds X' (fun _ => rfl))
      (case kB => exact rfl)
      (case kD => decide +kernel)
      (case c2 => exact rfl)
      (case c3 => exact rfl)
      (case c4 => exact rfl))
  k_with "mine ne" => (with_reducible first
      | exact Nat.ne_of_lt (by assumption)
      | exact Nat.ne_of_lt (And.left (by assumption))
      | exact Nat.ne_of_lt (And.left (And.right (by assumption)))
      | exact Nat.ne_of_lt (And.right (by assumption))
      | exact Nat.ne_of_lt (And.left (And.right (And.right (by assumption))))
      | exact Nat.ne_of_lt (And.right (And.right (by assumption)))
      | exact Nat.ne_of_lt (And.left (And.right (And.right (And.right (by assumption)))))
      | exact Nat.ne_of_lt (And.right (And.right (And.right (by assumption))))
      | exact Nat.ne_of_lt (And.left (And.right (And.right (And.right (And.right (by assumption))))))
      | exact Nat.ne_of_lt (And.right (And.right (And.right (And.right (by assumption)))))
      | exact Nat.ne_of_lt (And.left (And.right (And.right (And.right (And.right (And.right (by assumption)))))))
      | exact Nat.ne_of_lt (And.right (And.right (And.right (And.right (And.right (by assumption))))))
      | exact Nat.ne_of_lt (And.left (And.right (And.right (And.right (And.right (And.right (And.right (by assumption))))))))
      | exact Nat.ne_of_lt (And.right (And.right (And.right (And.right (And.right (And.right (by assumption)))))))
      | exact Nat.ne_of_lt (And.left (And.right (And.right (And.right (And.right (And.right (And.right (And.right (by assumption)))))))))
      | exact Nat.ne_of_lt (And.right (And.right (And.right (And.right (And.right (And.right (And.right (by assumption))))))))
      | exact Nat.ne_of_lt (And.left (And.right (And.right (And.right (And.right (And.right (And.right (And.right (And.right (by assumption))))))))))
      | exact Nat.ne_of_lt (And.right (And.right (And.right (And.right (And.right (And.right (And.right (And.right (by assumption)))))))))
      | exact Nat.ne_of_lt (And.left (And.right (And.right (And.right (And.right (And.right (And.right (And.right (And.right (And.right (by assumption)))))))))))
      | exact Nat.ne_of_lt (And.right (And.right (And.right (And.right (And.right (And.right (And.right (And.right (And.right (by assumption))))))))))
      | exact Nat.ne_of_gt (by assumption)
      | exact Nat.ne_of_gt (And.left (by assumption))
      | exact Nat.ne_of_gt (And.left (And.right (by assumption)))
      | exact Nat.ne_of_gt (And.right (by assumption))
      | exact Nat.ne_of_gt (And.left (And.right (And.right (by assumption))))
      | exact Nat.ne_of_gt (And.right (And.right (by assumption)))
      | exact Nat.ne_of_gt (And.left (And.right (And.right (And.right (by assumption)))))
      | exact Nat.ne_of_gt (And.right (And.right (And.right (by assumption))))
      | exact Nat.ne_of_gt (And.left (And.right (And.right (And.right (And.right (by assumption))))))
      | exact Nat.ne_of_gt (And.right (And.right (And.right (And.right (by assumption)))))
      | exact Nat.ne_of_gt (And.left (And.right (And.right (And.right (And.right (And.right (by assumption)))))))
      | exact Nat.ne_of_gt (And.right (And.right (And.right (And.right (And.right (by assumption))))))
      | exact Nat.ne_of_gt (And.left (And.right (And.right (And.right (And.right (And.right (And.right (by assumption))))))))
      | exact Nat.ne_of_gt (And.right (And.right (And.right (And.right (And.right (And.right (by assumption)))))))
      | exact Nat.ne_of_gt (And.left (And.right (And.right (And.right (And.right (And.right (And.right (And.right (by assumption)))))))))
      | exact Nat.ne_of_gt (And.right (And.right (And.right (And.right (And.right (And.right (And.right (by assumption))))))))
      | exact Nat.ne_of_gt (And.left (And.right (And.right (And.right (And.right (And.right (And.right (And.right (And.right (by assumption))))))))))
      | exact Nat.ne_of_gt (And.right (And.right (And.right (And.right (And.right (And.right (And.right (And.right (by assumption)))))))))
      | exact Nat.ne_of_gt (And.left (And.right (And.right (And.right (And.right (And.right (And.right (And.right (And.right (And.right (by assumption)))))))))))
      | exact Nat.ne_of_gt (And.right (And.right (And.right (And.right (And.right (And.right (And.right (And.right (And.right (by assumption)))))))))))
  trivial
/-- what stands between the turns of a binary search -/
noncomputable def BJ (a : Addr) (ns : List Int) (x : Int) (tx : Tok) (lt : Int → Int → Prop) (n : Nat) (m : Str → Option Value) (news : List (Addr × Obj)) : Prop :=
  news = [] ∧ ∃ (lo hi : Int) (t t' : Tok), m "a" = some (.ref a) ∧ m "x" = some (.int x tx) ∧ m "lo" = some (.int lo t) ∧ m "hi" = some (.int hi t') ∧
    n = (hi - lo).toNat ∧ 0 ≤ lo ∧ lo ≤ hi ∧ hi ≤ ns.length ∧ (∀ k : Nat, (k : Int) < lo → lt (ns.getD k 0) x) ∧ (∀ k : Nat, hi ≤ k → k < ns.length → ¬ lt (ns.getD k 0) x)

/-- rising -/
noncomputable def Rising (ns : List Int) : Prop := ∀ i j : Nat, i < j → j < ns.length → ns.getD i 0 < ns.getD j 0

theorem bs_mid {lo hi : Int} (h : lo < hi) : lo ≤ (lo + hi).fdiv 2 ∧ (lo + hi).fdiv 2 < hi := by
  rw [Int.fdiv_eq_ediv_of_nonneg _ (by decide)]
  omega
theorem bs_up {ns : List Int} {x lo hi : Int} {lt : Int → Int → Prop} (hlt : ∀ u u' v, lt u v → u' ≤ u → lt u' v) (hr : Rising ns) (b1 : 0 ≤ lo) (b3 : hi ≤ ns.length) (hlh : lo < hi) (h : lt (ns.getD ((lo + hi).fdiv 2).toNat 0) x) :
    ∀ k : Nat, (k : Int) < (lo + hi).fdiv 2 + 1 → lt (ns.getD k 0) x := by
  intro k hk
  have hm := bs_mid hlh
  rcases Nat.lt_or_ge k ((lo + hi).fdiv 2).toNat with q | q
  · exact hlt _ _ _ h (Int.le_of_lt (hr _ _ q (by omega)))
  · have : k = ((lo + hi).fdiv 2).toNat := by omega
    rw [this]; exact h
theorem bs_down {ns : List Int} {x lo hi : Int} {lt : Int → Int → Prop} (hlt : ∀ u u' v, lt u v → u' ≤ u → lt u' v) (hr : Rising ns) (b1 : 0 ≤ lo) (hlh : lo < hi) (h : ¬ lt (ns.getD ((lo + hi).fdiv 2).toNat 0) x) :
    ∀ k : Nat, (lo + hi).fdiv 2 ≤ k → k < ns.length → ¬ lt (ns.getD k 0) x := by
  intro k hk hk'
  have hm := bs_mid hlh
  rcases Nat.lt_or_ge ((lo + hi).fdiv 2).toNat k with q | q
  · exact fun z => h (hlt _ _ _ z (Int.le_of_lt (hr _ _ q hk')))
  · have : k = ((lo + hi).fdiv 2).toNat := by omega
    rw [this]; exact h
theorem lt_mono : ∀ u u' v : Int, u < v → u' ≤ u → u' < v := fun _ _ _ a b => by omega
theorem le_mono : ∀ u u' v : Int, u ≤ v → u' ≤ u → u' ≤ v := fun _ _ _ a b => by omega

theorem BJ.start {a : Addr} {ns : List Int} {x : Int} {tx t t' : Tok} {lt : Int → Int → Prop} {m : Str → Option Value} (e1 : m "a" = some (.ref a)) (e2 : m "x" = some (.int x tx)) (e3 : m "lo" = some (.int 0 t)) (e4 : m "hi" = some (.int (ns.length : Nat) t')) : BJ a ns x tx lt ns.length m [] :=
  ⟨rfl, 0, ns.length, t, t', e1, e2, e3, e4, by rw [Int.sub_zero, Int.toNat_natCast], Int.le_refl _, Int.natCast_nonneg _, Int.le_refl _, fun k hk => absurd hk (Int.not_lt.mpr (Int.natCast_nonneg k)), fun k hk hk' => absurd hk' (Nat.not_lt.mpr (Int.ofNat_le.mp hk))⟩
theorem BJ.up {a : Addr} {ns : List Int} {x lo hi : Int} {tx t t' : Tok} {lt : Int → Int → Prop} {m : Str → Option Value} (e1 : m "a" = some (.ref a)) (e2 : m "x" = some (.int x tx)) (e3 : m "lo" = some (.int ((lo + hi).fdiv 2 + 1) t)) (e4 : m "hi" = some (.int hi t')) (hlh : lo < hi) (b1 : 0 ≤ lo) (b3 : hi ≤ ns.length)
    (u : ∀ k : Nat, (k : Int) < (lo + hi).fdiv 2 + 1 → lt (ns.getD k 0) x) (b5 : ∀ k : Nat, hi ≤ k → k < ns.length → ¬ lt (ns.getD k 0) x) : BJ a ns x tx lt (hi - ((lo + hi).fdiv 2 + 1)).toNat m [] :=
  have hm := bs_mid hlh
  ⟨rfl, (lo + hi).fdiv 2 + 1, hi, t, t', e1, e2, e3, e4, rfl, Int.le_trans b1 (Int.le_trans hm.1 (Int.le_of_lt (Int.lt_succ _))), hm.2, b3, u, b5⟩
theorem BJ.down {a : Addr} {ns : List Int} {x lo hi : Int} {tx t t' : Tok} {lt : Int → Int → Prop} {m : Str → Option Value} (e1 : m "a" = some (.ref a)) (e2 : m "x" = some (.int x tx)) (e3 : m "lo" = some (.int lo t)) (e4 : m "hi" = some (.int ((lo + hi).fdiv 2) t')) (hlh : lo < hi) (b1 : 0 ≤ lo) (b3 : hi ≤ ns.length)
    (b4 : ∀ k : Nat, (k : Int) < lo → lt (ns.getD k 0) x) (d : ∀ k : Nat, (lo + hi).fdiv 2 ≤ k → k < ns.length → ¬ lt (ns.getD k 0) x) : BJ a ns x tx lt ((lo + hi).fdiv 2 - lo).toNat m [] :=
  have hm := bs_mid hlh
  ⟨rfl, lo, (lo + hi).fdiv 2, t, t', e1, e2, e3, e4, rfl, b1, hm.1, Int.le_trans (Int.le_of_lt hm.2) b3, b4, d⟩
theorem bs_fewer {lo hi : Int} {n : Nat} (hn : n = (hi - lo).toNat) (hlh : lo < hi) : (hi - ((lo + hi).fdiv 2 + 1)).toNat < n ∧ ((lo + hi).fdiv 2 - lo).toNat < n := by
  have hm := bs_mid hlh
  omega
/-- the end of a search -/
theorem bs_end {ns : List Int} {x lo hi : Int} {lt : Int → Int → Prop} (hlh : ¬ lo < hi) (b1 : 0 ≤ lo) (b2 : lo ≤ hi) (b3 : hi ≤ ns.length) (b4 : ∀ k : Nat, (k : Int) < lo → lt (ns.getD k 0) x) (b5 : ∀ k : Nat, hi ≤ k → k < ns.length → ¬ lt (ns.getD k 0) x) :
    ∃ r : Nat, lo = (r : Int) ∧ r ≤ ns.length ∧ (∀ k : Nat, k < r → lt (ns.getD k 0) x) ∧ ∀ k : Nat, r ≤ k → k < ns.length → ¬ lt (ns.getD k 0) x := by
  obtain ⟨r, rfl⟩ := Int.eq_ofNat_of_zero_le b1
  exact ⟨r, rfl, Int.ofNat_le.mp (Int.le_trans b2 b3), fun k hk => b4 k (Int.ofNat_lt.mpr hk), fun k hk hk' => b5 k (Int.le_trans (Int.not_lt.mp hlh) (Int.ofNat_le.mpr hk)) hk'⟩
/-- bisect_left of a list, a number, 0 and None, however they were handed in -/
theorem bisect_left_any {prog : Program} {w : World} {p loose mean mg mb} {s : Shared} {a : Addr} {vs : List Value} {ns : List Int} {x : Int} {tx t0 : Tok} {as : List Value} {Q E : Value → Shared → Prop}
    (hbind : ∀ o fd, (hd.heap_1 w.params).lookup 48 = some o → o.data = .func fd → BindsTo s fd ⟨as, []⟩ [("a", .ref a), ("x", .int x tx), ("lo", .int 0 t0), ("hi", .none), ("key", .none)])
    (X : (hd.heap_1 w.params).In s.heap) (T : Top p loose mean mg mb s.heap) (hl : s.heap.IsList a vs.toArray) (hi : IntsAre vs ns) (hn : ns.length ≤ 100) (hr : Rising ns)
    (ret : ∀ (r : Nat) t h' tk', Kp s.heap h' → r ≤ ns.length → (∀ k : Nat, k < r → ns.getD k 0 < x) → (∀ k : Nat, r ≤ k → k < ns.length → x ≤ ns.getD k 0) → Q (.int r t) { s with heap := h', toks := tk' }) :
    wpAny (model prog w) (AX 700 5000) (call (.ref 48) as) Q E s := by
  k_with "mine while" => (
    refine' While_inv (BJ a ns x tx (fun u v => u < v)) (n₀ := ns.length) ?kF ?kN ?kJ ?kt ?kE
    (case kF => assumption)
    (case kN => assumption)
    (case kE => passes_own)
    (case kJ => exact BJ.start rfl rfl rfl rfl)
    intro n m₁ news₁ h₁ tk₁ F₁ N₁ J₁
    obtain ⟨rfl, lo, hi', t, t', e1, e2, e3, e4, hn', b1, b2, b3, b4, b5⟩ := J₁
    replace F₁ := Frp (Frp (Frp (Frp F₁ "hi" e4) "lo" e3) "x" e2) "a" e1
    (try k_fold))
  refine' enter X (Top.nolimit T) ?k6 ?k7 ?k8 (hbind _ _ rfl rfl) ?kB ?_ ?c2 ?c3 ?c4 ?c5
  (case k6 => k_is)
  (case k7 => k_is)
  (case k8 => decide)
  (case c5 => decide)
  (case kB => exact locs rfl)
  (case c2 => exact rfl)
  (case c3 => exact rfl)
  (case c4 => exact rfl)
  intro L₁ h₁ tk₁ hL₁ F₁ N₁
  (try dsimp only)
  (try k_fold)
  have hls := hi.length
  k_steps
  · rename lo < hi' => hlh
    rename ns.getD _ _ < x => hq
    exact WhileStep.intro (by assumption) (by assumption) (n' := (hi' - ((lo + hi').fdiv 2 + 1)).toNat) (bs_fewer hn' hlh).1 (BJ.up rfl rfl rfl rfl hlh b1 b3 (bs_up lt_mono hr b1 b3 hlh hq) b5)
  · rename lo < hi' => hlh
    rename ¬ (ns.getD _ _ < x) => hq
    exact WhileStep.intro (by assumption) (by assumption) (n' := ((lo + hi').fdiv 2 - lo).toNat) (bs_fewer hn' hlh).2 (BJ.down rfl rfl rfl rfl hlh b1 b3 b4 (bs_down lt_mono hr b1 hlh hq))
  · rename ¬ lo < hi' => hlh
    obtain ⟨r, rfl, r1, r2, r3⟩ := bs_end hlh b1 b2 b3 b4 b5
    dsimp only
    exact ret r _ _ _ (Fr.keep (by assumption)) r1 r2 (fun k hk hk' => Int.not_lt.mp (r3 k hk hk'))

theorem bisect_left_spec {prog : Program} {w : World} {p loose mean mg mb} {s : Shared} {a : Addr} {vs : List Value} {ns : List Int} {x : Int} {tx : Tok} {Q E : Value → Shared → Prop}
    (X : (hd.heap_1 w.params).In s.heap) (T : Top p loose mean mg mb s.heap) (hl : s.heap.IsList a vs.toArray) (hi : IntsAre vs ns) (hn : ns.length ≤ 100) (hr : Rising ns)
    (ret : ∀ (r : Nat) t h' tk', Kp s.heap h' → r ≤ ns.length → (∀ k : Nat, k < r → ns.getD k 0 < x) → (∀ k : Nat, r ≤ k → k < ns.length → x ≤ ns.getD k 0) → Q (.int r t) { s with heap := h', toks := tk' }) :
    wpAny (model prog w) (AX 700 5000) (call (.ref 48) [.ref a, .int x tx]) Q E s :=
  bisect_left_any (fun o fd e d => by
    obtain rfl : o = _ := Option.some.inj (e.symm.trans rfl)
    cases d
    exact kp_binds X (fun _ => rfl)) X T hl hi hn hr ret

theorem bisect_right_spec {prog : Program} {w : World} {p loose mean mg mb} {s : Shared} {a : Addr} {vs : List Value} {ns : List Int} {x : Int} {tx : Tok} {Q E : Value → Shared → Prop}
    (X : (hd.heap_1 w.params).In s.heap) (T : Top p loose mean mg mb s.heap) (hl : s.heap.IsList a vs.toArray) (hi : IntsAre vs ns) (hn : ns.length ≤ 100) (hr : Rising ns)
    (ret : ∀ (r : Nat) t h' tk', Kp s.heap h' → r ≤ ns.length → (∀ k : Nat, k < r → ns.getD k 0 ≤ x) → (∀ k : Nat, r ≤ k → k < ns.length → x < ns.getD k 0) → Q (.int r t) { s with heap := h', toks := tk' }) :
    wpAny (model prog w) (AX 700 5000) (call (.ref 30) [.ref a, .int x tx]) Q E s := by
  k_with "mine while" => (
    refine' While_inv (BJ a ns x tx (fun u v => u ≤ v)) (n₀ := ns.length) ?kF ?kN ?kJ ?kt ?kE
    (case kF => assumption)
    (case kN => assumption)
    (case kE => passes_own)
    (case kJ => exact BJ.start rfl rfl rfl rfl)
    intro n m₁ news₁ h₁ tk₁ F₁ N₁ J₁
    obtain ⟨rfl, lo, hi', t, t', e1, e2, e3, e4, hn', b1, b2, b3, b4, b5⟩ := J₁
    replace F₁ := Frp (Frp (Frp (Frp F₁ "hi" e4) "lo" e3) "x" e2) "a" e1
    (try k_fold))
  walk_at "mine enter"
  have hls := hi.length
  k_steps
  · rename lo < hi' => hlh
    rename x < ns.getD _ _ => hq
    exact WhileStep.intro (by assumption) (by assumption) (n' := ((lo + hi').fdiv 2 - lo).toNat) (bs_fewer hn' hlh).2 (BJ.down rfl rfl rfl rfl hlh b1 b3 b4 (bs_down le_mono hr b1 hlh (Int.not_le.mpr hq)))
  · rename lo < hi' => hlh
    rename ¬ (x < ns.getD _ _) => hq
    exact WhileStep.intro (by assumption) (by assumption) (n' := (hi' - ((lo + hi').fdiv 2 + 1)).toNat) (bs_fewer hn' hlh).1 (BJ.up rfl rfl rfl rfl hlh b1 b3 (bs_up le_mono hr b1 b3 hlh (Int.not_lt.mp hq)) b5)
  · rename ¬ lo < hi' => hlh
    obtain ⟨r, rfl, r1, r2, r3⟩ := bs_end hlh b1 b2 b3 b4 b5
    dsimp only
    exact ret r _ _ _ (Fr.keep (by assumption)) r1 r2 (fun k hk hk' => Int.not_le.mp (r3 k hk hk'))
example : True := by k_with_none; trivial
example : True := by
  k_with "mine enter0" => (
      refine' enter ?kX ?kT ?k6 ?k7 ?k8 ?k9 ?kB ?_ ?c2 ?c3 ?c4 ?c5
      (case kX => assumption)
      (case kT => exact Top.nolimit (by assumption))
      (case k6 => k_is)
      (case k7 => k_is)
      (case k8 => decide)
      (case k9 => first | exact BindsTo.of_eq rfl | exact kp_binds (by assumption) (fun _ => rfl))
      (case c5 => decide)
      (case kB => exact locs rfl)
      (case c2 => exact rfl)
      (case c3 => exact rfl)
      (case c4 => exact rfl))
  k_with "mine enterC0" => (
      refine' enterC ?kX ?kT ?k6 ?k7 ?k8 ?k9 ?kB ?kD ?_ ?c2 ?c3 ?c4
      (case kX => assumption)
      (case kT => exact Top.nolimit (by assumption))
      (case k6 => k_is)
      (case k7 => k_is)
      (case k8 => decide)
      (case k9 => first | exact BindsTo.of_eq rfl | exact kp_binds (by assumption) (fun _ => rfl))
      (case kB => exact rfl)
      (case kD => decide +kernel)
      (case c2 => exact rfl)
      (case c3 => exact rfl)
      (case c4 => exact rfl))
  k_with "mine enterH" => (
      (case k6 => k_is)
      (case k7 => k_is)
      (case k8 => decide)
      (case k9 => first | exact fun _ => BindsTo.of_eq rfl | exact fun X' => kp_binds X' (fun _ => rfl))
      (case kB => exact rfl)
      (case kD => decide +kernel)
      (case c2 => exact rfl)
      (case c3 => exact rfl)
      (case c4 => exact rfl))
  k_with "mine ne" => (with_reducible first
      | exact Nat.ne_of_lt (by assumption)
      | exact Nat.ne_of_lt (And.left (by assumption))
      | exact Nat.ne_of_lt (And.left (And.right (by assumption)))
      | exact Nat.ne_of_lt (And.right (by assumption))
      | exact Nat.ne_of_lt (And.left (And.right (And.right (by assumption))))
      | exact Nat.ne_of_lt (And.right (And.right (by assumption)))
      | exact Nat.ne_of_lt (And.left (And.right (And.right (And.right (by assumption)))))
      | exact Nat.ne_of_lt (And.right (And.right (And.right (by assumption))))
      | exact Nat.ne_of_lt (And.left (And.right (And.right (And.right (And.right (by assumption))))))
      | exact Nat.ne_of_lt (And.right (And.right (And.right (And.right (by assumption)))))
      | exact Nat.ne_of_lt (And.left (And.right (And.right (And.right (And.right (And.right (by assumption)))))))
      | exact Nat.ne_of_lt (And.right (And.right (And.right (And.right (And.right (by assumption))))))
      | exact Nat.ne_of_lt (And.left (And.right (And.right (And.right (And.right (And.right (And.right (by assumption))))))))
      | exact Nat.ne_of_lt (And.right (And.right (And.right (And.right (And.right (And.right (by assumption)))))))
      | exact Nat.ne_of_lt (And.left (And.right (And.right (And.right (And.right (And.right (And.right (And.right (by assumption)))))))))
      | exact Nat.ne_of_lt (And.right (And.right (And.right (And.right (And.right (And.right (And.right (by assumption))))))))
      | exact Nat.ne_of_lt (And.left (And.right (And.right (And.right (And.right (And.right (And.right (And.right (And.right (by assumption))))))))))
      | exact Nat.ne_of_lt (And.right (And.right (And.right (And.right (And.right (And.right (And.right (And.right (by assumption)))))))))
      | exact Nat.ne_of_lt (And.left (And.right (And.right (And.right (And.right (And.right (And.right (And.right (And.right (And.right (by assumption)))))))))))
      | exact Nat.ne_of_lt (And.right (And.right (And.right (And.right (And.right (And.right (And.right (And.right (And.right (by assumption))))))))))
      | exact Nat.ne_of_gt (by assumption)
      | exact Nat.ne_of_gt (And.left (by assumption))
      | exact Nat.ne_of_gt (And.left (And.right (by assumption)))
      | exact Nat.ne_of_gt (And.right (by assumption))
      | exact Nat.ne_of_gt (And.left (And.right (And.right (by assumption))))
      | exact Nat.ne_of_gt (And.right (And.right (by assumption)))
      | exact Nat.ne_of_gt (And.left (And.right (And.right (And.right (by assumption)))))
      | exact Nat.ne_of_gt (And.right (And.right (And.right (by assumption))))
      | exact Nat.ne_of_gt (And.left (And.right (And.right (And.right (And.right (by assumption))))))
      | exact Nat.ne_of_gt (And.right (And.right (And.right (And.right (by assumption)))))
      | exact Nat.ne_of_gt (And.left (And.right (And.right (And.right (And.right (And.right (by assumption)))))))
      | exact Nat.ne_of_gt (And.right (And.right (And.right (And.right (And.right (by assumption))))))
      | exact Nat.ne_of_gt (And.left (And.right (And.right (And.right (And.right (And.right (And.right (by assumption))))))))
      | exact Nat.ne_of_gt (And.right (And.right (And.right (And.right (And.right (And.right (by assumption)))))))
      | exact Nat.ne_of_gt (And.left (And.right (And.right (And.right (And.right (And.right (And.right (And.right (by assumption)))))))))
      | exact Nat.ne_of_gt (And.right (And.right (And.right (And.right (And.right (And.right (And.right (by assumption))))))))
      | exact Nat.ne_of_gt (And.left (And.right (And.right (And.right (And.right (And.right (And.right (And.right (And.right (by assumption))))))))))
      | exact Nat.ne_of_gt (And.right (And.right (And.right (And.right (And.right (And.right (And.right (And.right (by assumption)))))))))
      | exact Nat.ne_of_gt (And.left (And.right (And.right (And.right (And.right (And.right (And.right (And.right (And.right (And.right (by assumption)))))))))))
      | exact Nat.ne_of_gt (And.right (And.right (And.right (And.right (And.right (And.right (And.right (And.right (And.right (by assumption)))))))))))
  trivial
/-- a number's step: to which name, the figure, from which name -/
noncomputable def stTo (x : Int) : Nat := (x.fmod 4).toNat
noncomputable def stDg (x : Int) : Nat := ((x.fdiv 12).fmod 7).toNat
noncomputable def stFr (x : Int) : Nat := ((x + 1 + (x.fdiv 4).fmod 3).fmod 4).toNat
theorem fmod_rng (x : Int) (n : Nat) (h : 0 < n) : (x.fmod n).toNat < n ∧ 0 ≤ x.fmod n ∧ x.fmod n < n := by
  have h1 := Int.emod_nonneg x (b := (n : Int)) (by omega)
  have h2 := Int.emod_lt_of_pos x (b := (n : Int)) (by omega)
  rw [Int.fmod_eq_emod_of_nonneg _ (by omega)]
  omega
theorem stTo_lt (x : Int) : stTo x < 4 := (fmod_rng x 4 (by decide)).1
theorem stDg_lt (x : Int) : stDg x < 7 := (fmod_rng _ 7 (by decide)).1
theorem stFr_lt (x : Int) : stFr x < 4 := (fmod_rng _ 4 (by decide)).1
theorem stTo_ne (x : Int) : stTo x ≠ stFr x := by
  unfold stTo stFr
  have h := fmod_rng (x.fdiv 4) 3 (by decide)
  generalize (x.fdiv 4).fmod 3 = r at h
  rw [Int.fmod_eq_emod_of_nonneg _ (by decide), Int.fmod_eq_emod_of_nonneg _ (by decide)]
  omega
theorem getD_mem {ns : List Int} {i : Nat} (h : i < ns.length) : ns.getD i 0 ∈ ns := by
  rw [List.getD_eq_getElem?_getD, List.getElem?_eq_getElem h]
  exact List.getElem_mem h
/-- a step's text -/
noncomputable def stText (ns : List Int) (i d j : Nat) : Str := ⟨#[(ns.getD i 0).toNat, 48 + d, (ns.getD j 0).toNat]⟩
theorem fig_items : ∀ k, k < 7 → Txt.item (Str.ofString "0123456") ((k : Nat) : Int) = ⟨#[48 + k]⟩ := by decide +kernel
theorem fig_item (k : Int) (h0 : 0 ≤ k) (h1 : k < 7) : Txt.item (Str.ofString "0123456") k = ⟨#[48 + k.toNat]⟩ := by
  obtain ⟨n, rfl⟩ := Int.eq_ofNat_of_zero_le h0
  exact fig_items n (Int.ofNat_lt.mp h1)
theorem law_text_spec {prog : Program} {w : World} {p loose mean mg mb} {s : Shared} {a : Addr} {vs : List Value} {ns : List Int} {x : Int} {tx : Tok} {Q E : Value → Shared → Prop}
    (X : (hd.heap_1 w.params).In s.heap) (T : Top p loose mean mg mb s.heap) (hl : s.heap.IsList a vs.toArray) (hi : IntsAre vs ns) (hn : ns.length = 4) (hlo : ∀ n ∈ ns, 65 ≤ n) (hhi : ∀ n ∈ ns, n ≤ 92)
    (ret : ∀ (r : Str) t h' tk', Kp s.heap h' → r = stText ns (stTo x) (stDg x) (stFr x) → Q (.str r t) { s with heap := h', toks := tk' }) :
    wpAny (model prog w) (AX 700 5000) (call (.ref 127) [.int x tx, .ref a]) Q E s := by
  have c1 : 65 ≤ ns.getD (x.fmod 4).toNat 0 := hlo _ (getD_mem (by have := stTo_lt x; unfold stTo at this; omega))
  have c2 : ns.getD (x.fmod 4).toNat 0 ≤ 92 := hhi _ (getD_mem (by have := stTo_lt x; unfold stTo at this; omega))
  have c3 : 65 ≤ ns.getD ((x + 1 + (x.fdiv 4).fmod 3).fmod 4).toNat 0 := hlo _ (getD_mem (by have := stFr_lt x; unfold stFr at this; omega))
  have c4 : ns.getD ((x + 1 + (x.fdiv 4).fmod 3).fmod 4).toNat 0 ≤ 92 := hhi _ (getD_mem (by have := stFr_lt x; unfold stFr at this; omega))
  walk_at "mine enter"
  have hls := hi.length
  k_steps
  all_goals (
    (try dsimp only)
    refine ret _ _ _ _ (Fr.keep (by assumption)) ?_
    have q := fmod_rng (x.fdiv 12) 7 (by decide)
    have e := fig_item ((x.fdiv 12).fmod 7) q.2.1 q.2.2
    rw [e]
    rfl)
/-- g holds what of h' is new since h, or of the base h₀ -/
noncomputable def Sup (h₀ h h' g : Heap) : Prop := ∀ b o, h'.get? b = some o → (h.get? b = none ∨ h₀.get? b ≠ none) → g.get? b = some o
abbrev lstO (ys : List Value) : Obj := { cls := .type "list", data := .seq ys.toArray ys.length }
abbrev cellO (v : Option Value) : Obj := { cls := .type "cell", data := .cell v }
theorem lst_snoc (ys : List Value) (y : Value) : ({ cls := .type "list", data := .seq (ys.toArray.push y) (ys.length + 1) } : Obj) = lstO (ys ++ [y]) := by
  show ({ cls := .type "list", data := .seq (ys.toArray.push y) (ys.length + 1) } : Obj) = { cls := .type "list", data := .seq (ys ++ [y]).toArray (ys ++ [y]).length }
  rw [List.length_append, List.length_singleton, List.push_toArray]
theorem fresh_none {h : Heap} {a : Addr} (ha : h.objs.size ≤ a) : h.get? a = none := Heap.get?_none_of_le ha

/-- the turns of `[elt for x in range(n)]`: x stored at T (the frame C itself, or a cell) -/
theorem ne_sup {h₃ h₀ : Heap} {a b : Addr} (d : h₃.get? b = none ∨ h₀.get? b ≠ none) (n1 : h₃.get? a ≠ none) (n2 : h₀.get? a = none) : b ≠ a := fun q => by rw [q] at d; exact d.elim n1 fun d => d n2
theorem comp_loop {prog : Program} {w : World} {A : Around} {s : Shared} {elt iter : Expr} {x : Str} {px : Pos} {scope : Scope} {pos : Pos} {cenv : Env} {n : Nat} {h₀ : Heap} {I C D T : Addr} {G : Nat → Value → Heap → Prop}
    {St : Heap → Prop} {Bd : Value → Heap → Prop} {R : Result → Shared → Prop} {h₁ : Heap} {tk₁ : Nat}
    (hh : A.handled = none) (hn : n ≤ sizeLine) (hk₀ : Kp h₀ s.heap)
    (hI : s.heap.objs.size ≤ I) (hC : s.heap.objs.size ≤ C) (hD : s.heap.objs.size ≤ D) (hT : s.heap.objs.size ≤ T)
    (hIT : @Ne Nat I T) (hDT : @Ne Nat D T) (hID : @Ne Nat I D) (hIC : @Ne Nat I C) (hDC : @Ne Nat D C)
    (hst : ∀ v h, Bd v h → St h) (hns : ∀ h, St h → ∃ m, h.Ns C m)
    (hfr : ∀ h h', St h → (∀ b o, b ≠ I → b ≠ D → h.get? b = some o → h'.get? b = some o) → St h')
    (hinT : ∀ h, St h → h.get? T ≠ none)
    (hasg : ∀ v h tk (Q : Unit → Shared → Prop) (E : Value → Shared → Prop), St h → (∀ h₂ tk₂, Bd v h₂ → Heap.SameBut T h h₂ → Q () { s with heap := h₂, toks := tk₂ }) → wpAny (model prog w) A (storeName cenv x v) Q E { s with heap := h, toks := tk })
    (helt : ∀ (i : Nat) h t tk, i < n → Kp s.heap h → Bd (.int i t) h → wpAny (model prog w) A (eval elt cenv) (fun y s' => ∃ h' tk', s' = { s with heap := h', toks := tk' } ∧ Kp h h' ∧ ∀ g, Sup h₀ h h' g → G i y g) (fun _ _ => False) { s with heap := h, toks := tk })
    (hk₁ : Kp s.heap h₁) (hI₁ : IsRangeIter h₁ I 0 n 1) (hD₁ : h₁.get? D = some (lstO [])) (hS₁ : St h₁)
    (hR : ∀ h tk ys, Kp s.heap h → h.get? D = some (lstO ys) → ys.length = n → (∃ m, h.Ns C m) → (∀ g, (∀ b o, b ≠ I → b ≠ D → b ≠ T → b ≠ C → h.get? b = some o → (s.heap.get? b = none ∨ h₀.get? b ≠ none) → g.get? b = some o) → ∀ j, j < n → G j (ys.getD j .none) g) → R (.ok .next) { s with heap := h, toks := tk }) :
    codeAny (model prog w) A (.compLoop (.ListComp elt [⟨.Name x px, iter, [], 0⟩] scope pos) 0 (.ref I) (.ref D) cenv) R { s with heap := h₁, toks := tk₁ } := by
  have W := LCg.range_walks (prog := prog) (w := w) (A := A) (I := I) hh 0 n
  have nI := fresh_none hI
  have nD := fresh_none hD
  have nT := fresh_none hT
  have z0 : ∀ {a}, s.heap.get? a = none → h₀.get? a = none := fun {a} e => by
    cases q : h₀.get? a with
    | none => rfl
    | some o => rw [hk₀ _ _ q] at e; cases e
  refine codeAny_compLoop_tests
    (fun k s' => ∃ h' tk i ys, s' = { s with heap := h', toks := tk } ∧ i ≤ n ∧ k = n + 1 - i ∧ ys.length = i ∧ IsRangeIter h' I (0 + (i : Nat) * 1) ((n : Int) - (i : Nat)) 1 ∧ Kp s.heap h' ∧ h'.get? D = some (lstO ys) ∧ St h' ∧
      ∀ g, (∀ b o, b ≠ I → b ≠ D → b ≠ T → b ≠ C → h'.get? b = some o → (s.heap.get? b = none ∨ h₀.get? b ≠ none) → g.get? b = some o) → ∀ j, j < i → G j (ys.getD j .none) g) ?_ (n + 1)
    ⟨h₁, _, 0, [], rfl, Nat.zero_le _, rfl, rfl, by simpa using hI₁, hk₁, hD₁, hS₁, fun g _ j hj => by omega⟩
  intro k s' qq0
  refine gg fun P hP => ?_
  obtain ⟨h', tk, i, ys, rfl, hi, rfl, hyl, hst', hk', hD', hS', hG'⟩ := qq0
  refine hP ?_
  clear hP
  by_cases hlt : i < n
  · refine W.item i _ _ _ hlt hst' fun v h₂ tk₂ hPv hst₂ hk₂ => ?_
    obtain ⟨t, rfl⟩ := hPv
    rw [Int.zero_add]
    have k2 : ∀ b o, b ≠ I → h'.get? b = some o → h₂.get? b = some o := fun b o hb e => hk₂ b o (by simpa using hb) e
    have hS₂ : St h₂ := hfr _ _ hS' fun b o hb _ e => k2 b o hb e
    refine wpAny_assign_Name (hasg _ h₂ _ _ _ hS₂ fun h₃ tk₃ hB₃ hs₃ => ?_)
    refine wpAny_tests_nil ?_
    simp only [if_true]
    have k3 : Kp s.heap h₃ := fun b o e => hs₃.extBut b o (ne_of_none nT e) (k2 b o (ne_of_none nI e) (hk' b o e))
    have hst₃ : IsRangeIter h₃ I (0 + ((i + 1 : Nat) : Nat) * 1) ((n : Int) - ((i + 1 : Nat) : Nat)) 1 := W.frame _ _ _ hst₂ fun b hb o e => hs₃.extBut b o (fun q => hIT (by rw [← List.mem_singleton.mp hb]; exact q)) e
    have hD₃ : h₃.get? D = some (lstO ys) := hs₃.extBut _ _ hDT (k2 _ _ (Ne.symm hID) hD')
    refine wpAny_mono (helt i h₃ t tk₃ hlt k3 hB₃) (fun y s₄ h₄ => ?_) fun _ _ e => e.elim
    refine gg fun P hP => ?_
    obtain ⟨h₄, tk₄, rfl, k4, g4⟩ := h₄
    refine hP ?_
    clear hP
    refine append_at (hsz := by show ys.toArray.size ≤ sizeLine; rw [List.size_toArray, hyl]; exact Nat.le_trans hi hn) (k4 _ _ hD₃) fun h₅ hs₅ hD₅ => ?_
    have hS₃ := hst _ _ hB₃
    refine ⟨n + 1 - (i + 1), by omega, h₅, tk₄, i + 1, ys ++ [y], rfl, hlt, rfl, by rw [List.length_append, List.length_singleton, hyl],
      W.frame _ _ _ hst₃ fun b hb o e => hs₅.extBut b o (fun q => hID (by rw [← List.mem_singleton.mp hb]; exact q)) (k4 _ _ e), fun b o e => hs₅.extBut b o (ne_of_none nD e) (k4 _ _ (k3 b o e)),
      hD₅.trans (congrArg some (lst_snoc ys y)), hfr _ _ hS₃ (fun b o _ hb e => hs₅.extBut b o hb (k4 _ _ e)), fun g hg j hj => ?_⟩
    by_cases hji : j < i
    · rw [List.getD_eq_getElem?_getD, List.getElem?_append_left (by omega), ← List.getD_eq_getElem?_getD]
      exact hG' g (fun b o b1 b2 b3 b4 e d => hg b o b1 b2 b3 b4 (hs₅.extBut b o b2 (k4 _ _ (hs₃.extBut b o b3 (k2 b o b1 e)))) d) j hji
    · obtain rfl : j = i := by omega
      rw [List.getD_eq_getElem?_getD, List.getElem?_append_right (by omega), hyl, Nat.sub_self]
      refine g4 g fun b o e d => ?_
      have b1 : b ≠ I := ne_sup d (by rw [show h₃.get? I = some _ from hst₃]; nofun) (z0 nI)
      have b2 : b ≠ D := ne_sup d (by rw [hD₃]; nofun) (z0 nD)
      have b3 : b ≠ T := ne_sup d (hinT _ hS₃) (z0 nT)
      have b4 : b ≠ C := ne_sup d (let ⟨_, om, _, _, z, _⟩ := hns _ hS₃; by rw [z]; nofun) (z0 (fresh_none hC))
      refine hg b o b1 b2 b3 b4 (hs₅.extBut b o b2 e) ?_
      rcases d with d | d
      · refine .inl ?_
        cases q : s.heap.get? b with
        | none => rfl
        | some o' => rw [k3 _ _ q] at d; cases d
      · exact .inr d
  · obtain rfl : i = n := Nat.le_antisymm hi (Nat.not_lt.mp hlt)
    refine W.done _ _ _ hst' fun h₂ tk₂ hk₂ => ?_
    have k2 : ∀ b o, b ≠ I → h'.get? b = some o → h₂.get? b = some o := fun b o hb e => hk₂ b o (by simpa using hb) e
    exact hR h₂ tk₂ ys (fun b o e => k2 b o (ne_of_none nI e) (hk' b o e)) (k2 _ _ (Ne.symm hID) hD') hyl (hns _ (hfr _ _ hS' fun b o hb _ e => k2 b o hb e))
      fun g hg j hj => hG' g (fun b o b1 b2 b3 b4 e d => hg b o b1 b2 b3 b4 (k2 b o b1 e) d) j hj
theorem compEnv_new {prog : Program} {w : World} {A : Around} {E : Value → Shared → Prop} {s : Shared} {scope : Scope} {cl : List (Str × Addr)} {env : Env} {Q : Env → Shared → Prop}
    (h : Q (newEnv scope s.heap.objs.size env.globals (cellsFrom (s.heap.objs.size + 1) scope.names cl) env.qual none .none (some env) builtinsNs) { s with heap := pushCells (s.heap.push { cls := .type "dict", data := .dict #[] }) scope.names }) :
    wpAny (model prog w) A (newFunctionEnv scope env.globals cl [] env.qual none .none (some env)) Q E s := by
  simp only [newFunctionEnv, Option.isSome_some, if_true]
  simp only [newEnv] at h
  refine wpAny_bind (wpAny_alloc ?_)
  refine wpAny_bind (wpAny_layCells _ (fun name kind cells => by cases hkc : kind == NameKind.cell <;> simp) _ _ _ _ ?_)
  rw [show ({ s with heap := s.heap.push { cls := .type "dict", data := .dict #[] } } : Shared).heap.objs.size = s.heap.objs.size + 1 from Heap.size_push ..]
  simp only [List.forIn_nil]
  exact wpAny_bind (wpAny_pure (wpAny_pure h))

/-- `[elt for x in range(n)]`, x a plain name -/
theorem comp_local {prog : Program} {w : World} {A : Around} {E : Value → Shared → Prop} {s : Shared} {elt iter : Expr} {x : Str} {px : Pos} {scope : Scope} {pos : Pos} {env : Env} {cl : List (Str × Addr)} {n : Nat} {h₀ : Heap} {G : Nat → Value → Heap → Prop} {Q : Value → Shared → Prop}
    (hh : A.handled = none) (hn : n ≤ sizeLine) (hsm : Builtin.Range.small 0 n 1 = true) (hrs : Builtin.Range.rangeSize 0 n 1 = ((n : Nat) : Int)) (hk₀ : Kp h₀ s.heap)
    (hclos : closureFor scope env = pure cl) (hkind : scope.kind = .function) (hnames : ∀ y ∈ scope.names, y.2 = .local → scope.names.lookup y.1 = some .local)
    (hx : scope.names.lookup x = some .local) (hcf : ∀ k, cellsFrom k scope.names cl = cl) (hpc : ∀ h, pushCells h scope.names = h)
    (hiter : wpAny (model prog w) A (eval iter env) (fun xv s₁ => ∃ r t u v h tk, xv = .ref r ∧ s₁ = { s with heap := h, toks := tk } ∧ Kp s.heap h ∧ s.heap.objs.size ≤ h.objs.size ∧ IsRange h r 0 n 1 t u v) E s)
    (helt : ∀ (i : Nat) C m h t tk, i < n → s.heap.objs.size ≤ C → Fr s.heap C h m → m x = some (.int i t) → wpAny (model prog w) A (eval elt (compEnvC scope cl C env)) (fun y s' => ∃ h' tk', s' = { s with heap := h', toks := tk' } ∧ Kp h h' ∧ ∀ g, Sup h₀ h h' g → G i y g) (fun _ _ => False) { s with heap := h, toks := tk })
    (hQ : ∀ D h tk ys, Kp s.heap h → s.heap.objs.size ≤ D → h.get? D = some (lstO ys) → ys.length = n → (∀ g, Sup h₀ s.heap h g → ∀ j, j < n → G j (ys.getD j .none) g) → Q (.ref D) { s with heap := h, toks := tk })
    (hs : ∀ x, foldedSetIterable iter env x = pure x := by intro _; rfl) :
    wpAny (model prog w) A (eval (.ListComp elt [⟨.Name x px, iter, [], 0⟩] scope pos) env) Q E s := by
  rw [eval_ListComp]
  refine wpAny_comprehension_free (use := none) rfl hs hclos hkind hnames (wpAny_mono hiter (fun xv s₁ h₁ => ?_) fun _ _ e => e)
  obtain ⟨r, t, u, v, h, tk, rfl, rfl, hk, hle, hr⟩ := h₁
  refine wpAny_pyIter_range hr hsm ?_
  rw [hrs]
  refine wpAny_newObj_type (data := .seq ([] : List Value).toArray) (dict := none) ?_ (hd := by show (0 : Nat) ≤ _; exact Nat.zero_le _)
  refine compEnv_new ?_
  rw [hcf, hpc]
  dsimp only
  generalize hH1 : h.push { cls := .type "range_iterator", data := .fields #[rawInt 0, rawInt ((n : Nat) : Int), rawInt 1] } = H1
  generalize hH2 : H1.push { cls := .type "list", dict := none, data := .seq ([] : List Value).toArray } = H2
  have z1 : H1.objs.size = h.objs.size + 1 := by rw [← hH1, Heap.size_push]
  have z2 : H2.objs.size = h.objs.size + 2 := by rw [← hH2, Heap.size_push, z1]
  have u1 : ∀ b o, h.get? b = some o → H1.get? b = some o := fun b o e => hH1 ▸ Heap.get?_push_of_some _ e
  have u2 : ∀ b o, H1.get? b = some o → H2.get? b = some o := fun b o e => hH2 ▸ Heap.get?_push_of_some _ e
  have u3 : ∀ b o, H2.get? b = some o → (H2.push { cls := .type "dict", data := .dict #[] }).get? b = some o := fun b o e => Heap.get?_push_of_some _ e
  have loop : ∀ (R : Result → Shared → Prop), (∀ h' tk ys, Kp s.heap h' → h'.get? H1.objs.size = some (lstO ys) → ys.length = n → (∃ m, h'.Ns H2.objs.size m) →
      (∀ g, (∀ b o, b ≠ h.objs.size → b ≠ H1.objs.size → b ≠ H2.objs.size → b ≠ H2.objs.size → h'.get? b = some o → (s.heap.get? b = none ∨ h₀.get? b ≠ none) → g.get? b = some o) → ∀ j, j < n → G j (ys.getD j .none) g) → R (.ok .next) { s with heap := h', toks := tk }) →
      codeAny (model prog w) A (.compLoop (.ListComp elt [⟨.Name x px, iter, [], 0⟩] scope pos) 0 (.ref h.objs.size) (.ref H1.objs.size) (compEnvC scope cl H2.objs.size env)) R { s with heap := H2.push { cls := .type "dict", data := .dict #[] }, toks := tk } := fun R hR =>
    comp_loop (s := s) (h₀ := h₀) (n := n) (I := h.objs.size) (D := H1.objs.size) (C := H2.objs.size) (T := H2.objs.size) (G := G)
      (St := fun g => ∃ m, g.Ns H2.objs.size m) (Bd := fun v g => ∃ m, g.Ns H2.objs.size m ∧ m x = some v) hh hn hk₀ hle (by omega) (by omega) (by omega) (by omega) (by omega) (by omega) (by omega) (by omega)
      (fun v g ⟨m, e, _⟩ => ⟨m, e⟩) (fun g e => e) (fun g g' ⟨m, e⟩ k => ⟨m, e.at' fun o q => k _ o (Nat.ne_of_gt (by omega)) (Nat.ne_of_gt (by omega)) q⟩) (fun g ⟨m, e⟩ q => by obtain ⟨o, _, _, z, _⟩ := e; rw [z] at q; cases q)
      (fun v g tk Q E ⟨m, e⟩ q => wpAny_storeName_local (lookup_relabel_local hx) e (fun g₂ n₂ s₂ => q g₂ _ ⟨_, n₂, by simp⟩ s₂) (by simp [compEnvC, relabel, hkind]))
      (fun i g t tk hi k ⟨m, e, hm⟩ => helt i H2.objs.size m g t tk hi (by omega) ⟨e, k, by omega⟩ hm)
      (fun b o e => u3 _ _ (u2 _ _ (u1 _ _ (hk b o e)))) (u3 _ _ (u2 _ _ (by rw [← hH1]; simpa using Heap.get?_push_size h rfl))) (u3 _ _ (by rw [← hH2]; exact Heap.get?_push_size _ rfl)) ⟨_, Heap.Ns.new ..⟩ hR
  refine codeAny_compStart_list (loop _ ?_) ?_
  · rintro h' tk' ys k1 hD hyl ⟨m, hns⟩ hg
    refine ⟨m, hns, fun h'' hs'' => ?_⟩
    refine hQ _ h'' tk' ys (fun b o e => hs''.extBut b o (fun (q : b = H2.objs.size) => absurd (Heap.lt_size e) (by rw [q]; exact Nat.not_lt.mpr (by omega))) (k1 b o e)) (by omega) (hs''.extBut _ _ (show H1.objs.size ≠ H2.objs.size by omega) hD) hyl fun g sg j hj => hg g (fun b o b1 b2 b3 _ e d => sg b o (hs''.extBut b o b3 e) d) j hj
  · have hit : ({ s with heap := H2.push { cls := .type "dict", data := .dict #[] }, toks := tk } : Shared).heap.get? h.objs.size = some _ := u3 _ _ (u2 _ _ (by rw [← hH1]; simpa using Heap.get?_push_size h rfl))
    refine wpAny_pyIter_rangeiter (show IsRangeIter _ _ 0 n 1 from hit) (loop _ ?_)
    rintro h' tk' ys k1 hD hyl ⟨m, hns⟩ hg
    refine ⟨m, hns, fun h'' hs'' => ?_⟩
    refine hQ _ h'' tk' ys (fun b o e => hs''.extBut b o (fun (q : b = H2.objs.size) => absurd (Heap.lt_size e) (by rw [q]; exact Nat.not_lt.mpr (by omega))) (k1 b o e)) (by omega) (hs''.extBut _ _ (show H1.objs.size ≠ H2.objs.size by omega) hD) hyl fun g sg j hj => hg g (fun b o b1 b2 b3 _ e d => sg b o (hs''.extBut b o b3 e) d) j hj
theorem store_cell {prog : Program} {w : World} {A : Around} {E : Value → Shared → Prop} {s : Shared} {env : Env} {name : Str} {c : Addr} {v₀ : Option Value} {v : Value} {Q : Unit → Shared → Prop} (hk : env.scope.kind = .function) (hl : env.kindOf name = some .cell)
    (hc : env.cells.lookup name = some c) (hv : s.heap.get? c = some (cellO v₀))
    (h : ∀ h', h'.get? c = some (cellO (some v)) → Heap.SameBut c s.heap h' → Q () { s with heap := h' }) : wpAny (model prog w) A (storeName env name v) Q E s := by
  unfold storeName
  simp only [hl, hk]
  refine wpAny_bind (wpAny_cellOf hc ?_)
  unfold cellSet
  refine wpAny_bind (wpAny_load hv ?_)
  exact wpAny_update hv (h _ (Heap.get?_update_self _ hv rfl) (Heap.SameBut.update ..))

/-- `[elt for x in range(n)]`, x a cell -/
theorem comp_cell {prog : Program} {w : World} {A : Around} {E : Value → Shared → Prop} {s : Shared} {elt iter : Expr} {x : Str} {px : Pos} {scope : Scope} {pos : Pos} {env : Env} {cl : List (Str × Addr)} {n : Nat} {h₀ : Heap} {G : Nat → Value → Heap → Prop} {Q : Value → Shared → Prop}
    (hh : A.handled = none) (hn : n ≤ sizeLine) (hsm : Builtin.Range.small 0 n 1 = true) (hrs : Builtin.Range.rangeSize 0 n 1 = ((n : Nat) : Int)) (hk₀ : Kp h₀ s.heap)
    (hclos : closureFor scope env = pure cl) (hkind : scope.kind = .function) (hnames : ∀ y ∈ scope.names, y.2 = .local → scope.names.lookup y.1 = some .local)
    (hx : (relabel scope env).names.lookup x = some .cell) (hcf : ∀ k, cellsFrom k scope.names cl = (x, k) :: cl) (hpc : ∀ h, pushCells h scope.names = h.push (cellO none))
    (hiter : wpAny (model prog w) A (eval iter env) (fun xv s₁ => ∃ r t u v h tk, xv = .ref r ∧ s₁ = { s with heap := h, toks := tk } ∧ Kp s.heap h ∧ s.heap.objs.size ≤ h.objs.size ∧ IsRange h r 0 n 1 t u v) E s)
    (helt : ∀ (i : Nat) C c m h t tk, i < n → s.heap.objs.size ≤ C → s.heap.objs.size ≤ c → Fr s.heap C h m → News s.heap C h [(c, cellO (some (.int i t)))] → wpAny (model prog w) A (eval elt (compEnvC scope ((x, c) :: cl) C env)) (fun y s' => ∃ h' tk', s' = { s with heap := h', toks := tk' } ∧ Kp h h' ∧ ∀ g, Sup h₀ h h' g → G i y g) (fun _ _ => False) { s with heap := h, toks := tk })
    (hQ : ∀ D h tk ys, Kp s.heap h → s.heap.objs.size ≤ D → h.get? D = some (lstO ys) → ys.length = n → (∀ g, Sup h₀ s.heap h g → ∀ j, j < n → G j (ys.getD j .none) g) → Q (.ref D) { s with heap := h, toks := tk })
    (hs : ∀ x, foldedSetIterable iter env x = pure x := by intro _; rfl) :
    wpAny (model prog w) A (eval (.ListComp elt [⟨.Name x px, iter, [], 0⟩] scope pos) env) Q E s := by
  rw [eval_ListComp]
  refine wpAny_comprehension_free (use := none) rfl hs hclos hkind hnames (wpAny_mono hiter (fun xv s₁ h₁ => ?_) fun _ _ e => e)
  obtain ⟨r, t, u, v, h, tk, rfl, rfl, hk, hle, hr⟩ := h₁
  refine wpAny_pyIter_range hr hsm ?_
  rw [hrs]
  refine wpAny_newObj_type (data := .seq ([] : List Value).toArray) (dict := none) ?_ (hd := by show (0 : Nat) ≤ _; exact Nat.zero_le _)
  refine compEnv_new ?_
  rw [hcf, hpc]
  dsimp only
  generalize hH1 : h.push { cls := .type "range_iterator", data := .fields #[rawInt 0, rawInt ((n : Nat) : Int), rawInt 1] } = H1
  generalize hH2 : H1.push { cls := .type "list", dict := none, data := .seq ([] : List Value).toArray } = H2
  have z1 : H1.objs.size = h.objs.size + 1 := by rw [← hH1, Heap.size_push]
  have z2 : H2.objs.size = h.objs.size + 2 := by rw [← hH2, Heap.size_push, z1]
  have u1 : ∀ b o, h.get? b = some o → H1.get? b = some o := fun b o e => hH1 ▸ Heap.get?_push_of_some _ e
  have u2 : ∀ b o, H1.get? b = some o → H2.get? b = some o := fun b o e => hH2 ▸ Heap.get?_push_of_some _ e
  generalize hH3 : H2.push { cls := .type "dict", data := .dict #[] } = H3
  have z3 : H3.objs.size = h.objs.size + 3 := by rw [← hH3, Heap.size_push, z2]
  have u3 : ∀ b o, H2.get? b = some o → H3.get? b = some o := fun b o e => hH3 ▸ Heap.get?_push_of_some _ e
  have u4 : ∀ b o, H3.get? b = some o → (H3.push (cellO none)).get? b = some o := fun b o e => Heap.get?_push_of_some _ e
  have hcC : H2.objs.size + 1 = H3.objs.size := by omega
  rw [hcC]
  have loop : ∀ (R : Result → Shared → Prop), (∀ h' tk ys, Kp s.heap h' → h'.get? H1.objs.size = some (lstO ys) → ys.length = n → (∃ m, h'.Ns H2.objs.size m) →
      (∀ g, (∀ b o, b ≠ h.objs.size → b ≠ H1.objs.size → b ≠ H3.objs.size → b ≠ H2.objs.size → h'.get? b = some o → (s.heap.get? b = none ∨ h₀.get? b ≠ none) → g.get? b = some o) → ∀ j, j < n → G j (ys.getD j .none) g) → R (.ok .next) { s with heap := h', toks := tk }) →
      codeAny (model prog w) A (.compLoop (.ListComp elt [⟨.Name x px, iter, [], 0⟩] scope pos) 0 (.ref h.objs.size) (.ref H1.objs.size) (compEnvC scope ((x, H3.objs.size) :: cl) H2.objs.size env)) R { s with heap := H3.push (cellO none), toks := tk } := fun R hR =>
    comp_loop (s := s) (h₀ := h₀) (n := n) (I := h.objs.size) (D := H1.objs.size) (C := H2.objs.size) (T := H3.objs.size) (G := G)
      (St := fun g => (∃ m, g.Ns H2.objs.size m) ∧ ∃ v, g.get? H3.objs.size = some (cellO v)) (Bd := fun v g => (∃ m, g.Ns H2.objs.size m) ∧ g.get? H3.objs.size = some (cellO (some v))) hh hn hk₀ hle (by omega) (by omega) (by omega) (by omega) (by omega) (by omega) (by omega) (by omega)
      (fun v g ⟨m, e⟩ => ⟨m, _, e⟩) (fun g e => e.1) (fun g g' ⟨⟨m, e⟩, v, q⟩ k => ⟨⟨m, e.at' fun o q => k _ o (Nat.ne_of_gt (by omega)) (Nat.ne_of_gt (by omega)) q⟩, v, k _ _ (Nat.ne_of_gt (by omega)) (Nat.ne_of_gt (by omega)) q⟩) (fun g ⟨m, v, e⟩ q => by rw [e] at q; cases q)
      (fun v g tk Q E ⟨⟨m, e⟩, v₀, e'⟩ q => store_cell hkind hx (by simp [compEnvC]) e' (fun g₂ n₂ s₂ => q g₂ _ ⟨⟨m, e.sameBut s₂ (show H2.objs.size ≠ H3.objs.size from Nat.ne_of_lt (by omega))⟩, n₂⟩ s₂))
      (fun i g t tk hi k ⟨⟨m, e⟩, hm⟩ => helt i H2.objs.size H3.objs.size m g t tk hi (by omega) (by omega) ⟨e, k, by omega⟩ (fun p hp => by
        rw [List.mem_singleton.mp hp]
        exact ⟨hm, Nat.ne_of_gt (by show H2.objs.size < H3.objs.size; omega), fresh_none (show s.heap.objs.size ≤ H3.objs.size by omega)⟩))
      (fun b o e => u4 _ _ (u3 _ _ (u2 _ _ (u1 _ _ (hk b o e))))) (u4 _ _ (u3 _ _ (u2 _ _ (by rw [← hH1]; simpa using Heap.get?_push_size h rfl)))) (u4 _ _ (u3 _ _ (by rw [← hH2]; exact Heap.get?_push_size _ rfl))) ⟨⟨_, (hH3 ▸ Heap.Ns.new ..  : H3.Ns H2.objs.size _).keeps u4⟩, none, Heap.get?_push_size _ rfl⟩ hR
  refine codeAny_compStart_list (loop _ ?_) ?_
  · rintro h' tk' ys k1 hD hyl ⟨m, hns⟩ hg
    refine ⟨m, hns, fun h'' hs'' => ?_⟩
    refine hQ _ h'' tk' ys (fun b o e => hs''.extBut b o (fun (q : b = H2.objs.size) => absurd (Heap.lt_size e) (by rw [q]; exact Nat.not_lt.mpr (by omega))) (k1 b o e)) (by omega) (hs''.extBut _ _ (show H1.objs.size ≠ H2.objs.size by omega) hD) hyl fun g sg j hj => hg g (fun b o b1 b2 b3 b4 e d => sg b o (hs''.extBut b o b4 e) d) j hj
  · have hit : ({ s with heap := H3.push (cellO none), toks := tk } : Shared).heap.get? h.objs.size = some _ := u4 _ _ (u3 _ _ (u2 _ _ (by rw [← hH1]; simpa using Heap.get?_push_size h rfl)))
    refine wpAny_pyIter_rangeiter (show IsRangeIter _ _ 0 n 1 from hit) (loop _ ?_)
    rintro h' tk' ys k1 hD hyl ⟨m, hns⟩ hg
    refine ⟨m, hns, fun h'' hs'' => ?_⟩
    refine hQ _ h'' tk' ys (fun b o e => hs''.extBut b o (fun (q : b = H2.objs.size) => absurd (Heap.lt_size e) (by rw [q]; exact Nat.not_lt.mpr (by omega))) (k1 b o e)) (by omega) (hs''.extBut _ _ (show H1.objs.size ≠ H2.objs.size by omega) hD) hyl fun g sg j hj => hg g (fun b o b1 b2 b3 b4 e d => sg b o (hs''.extBut b o b4 e) d) j hj
/-- a global name that is a builtin -/
noncomputable def Bi (h : Heap) (x : Str) (v : Value) : Prop := ∃ mg mb, h.Ns mainGlobals mg ∧ mg x = none ∧ h.Ns builtinsNs mb ∧ mb x = some v
theorem Bi.keeps {h h' : Heap} {x : Str} {v : Value} (b : Bi h x v) (k : Kp h h') : Bi h' x v := by obtain ⟨mg, mb, a1, a2, a3, a4⟩ := b; exact ⟨mg, mb, a1.keeps k, a2, a3.keeps k, a4⟩
theorem Bi.of {p loose mean mg mb} {K : Frag} {h : Heap} {x : Str} {v : Value} (X : K.In h) (T : Top p loose mean mg mb h) (e : nsIn K mainGlobals x = some none) (hv : bootBuiltins x = some v) (hn : x ≠ "__name__") : Bi h x v :=
  ⟨mg, mb, T.g, mg_none_of X T.g e, T.b, (T.builtins x hn).trans hv⟩

/-- the heap stays as it is; the value answers P -/
noncomputable def Ev (prog : Program) (w : World) (A : Around) (env : Env) (e : Expr) (h : Heap) (P : Value → Prop) : Prop :=
  ∀ (s : Shared) (Q E : Value → Shared → Prop), s.heap = h → (∀ v tk, P v → Q v { s with toks := tk }) → wpAny (model prog w) A (eval e env) Q E s

section
variable {prog : Program} {w : World} {A : Around} {env : Env} {h : Heap}
theorem Ev.mono {e : Expr} {P P' : Value → Prop} (x : Ev prog w A env e h P) (y : ∀ v, P v → P' v) : Ev prog w A env e h P' := fun s Q E hs k => x s Q E hs fun v tk p => k v tk (y v p)
theorem Ev.int {i : Int} {k pos} : Ev prog w A env (.Constant (.int i) k pos) h (fun v => ∃ t, v = .int i t) := fun s Q E hs k => wpAny_Constant_int (k _ _ ⟨_, rfl⟩)
theorem Ev.local {x : Str} {pos : Pos} {m : Str → Option Value} {v : Value} (hn : h.Ns env.locals m) (hv : m x = some v) (hk : env.scope.kind = .function) (hx : env.kindOf x = some .local) (hd : (x == ("__debug__" : Str)) = false := by decide) :
    Ev prog w A env (.Name x pos) h (fun u => u = v) := fun s Q E hs k => by
  subst hs
  exact wpAny_Name (wpAny_loadName_local hk hx hn hv (k v s.toks rfl)) hd
theorem Ev.cell {x : Str} {pos : Pos} {c : Addr} {o : Obj} {v : Value} (ho : h.get? c = some o) (hv : o.data = .cell (some v)) (hk : env.scope.kind = .function) (hx : env.kindOf x = some .cell) (hc : env.cells.lookup x = some c) (hd : (x == ("__debug__" : Str)) = false := by decide) :
    Ev prog w A env (.Name x pos) h (fun u => u = v) := fun s Q E hs k => by
  subst hs
  exact wpAny_Name (wpAny_loadName_cell hk hx hc ⟨o, ho, hv⟩ (k v s.toks rfl)) hd
theorem Ev.free {x : Str} {pos : Pos} {c : Addr} {o : Obj} {v : Value} (ho : h.get? c = some o) (hv : o.data = .cell (some v)) (hk : env.scope.kind = .function) (hx : env.kindOf x = some .free) (hc : env.cells.lookup x = some c) (hd : (x == ("__debug__" : Str)) = false := by decide) (hb : (x == ("__classdict__" : Str)) = false := by decide) :
    Ev prog w A env (.Name x pos) h (fun u => u = v) := fun s Q E hs k => by
  subst hs
  exact wpAny_Name (wpAny_loadName_free hk hx hc ⟨o, ho, hv⟩ (k v s.toks rfl) hb) hd
theorem Ev.builtin {x : Str} {pos : Pos} {v : Value} (b : Bi h x v) (hg : env.globals = mainGlobals) (hb : env.builtins = builtinsNs) (hk : env.scope.kind = .function) (hx : env.kindOf x = some .globalImplicit) (hd : (x == ("__debug__" : Str)) = false := by decide) :
    Ev prog w A env (.Name x pos) h (fun u => u = v) := fun s Q E hs k => by
  subst hs
  obtain ⟨mg, mb, a1, a2, a3, a4⟩ := b
  exact Name_function_global hk hx (loadGlobal_builtin (env := env) (hg ▸ a1) a2 (hb ▸ a3) a4 (k v s.toks rfl)) hd
theorem Ev.sub {value slice : Expr} {pos : Pos} {l : Addr} {ys : List Value} {i : Nat} (hv : Ev prog w A env value h (fun u => u = .ref l)) (hs : Ev prog w A env slice h (fun u => ∃ t, u = .int (i : Int) t)) (hl : h.IsList l ys.toArray) (hi : i < ys.length) (hz : i < 1000)
    (hs' : ∀ o i, subscripted slice false o i = operate [o, i] (getItem o i) := by intro _ _; with_unfolding_all rfl) :
    Ev prog w A env (.Subscript value slice pos) h (fun u => u = ys.getD i .none) := fun s Q E hh k => by
  refine Subscript_ (hv s _ _ hh fun o tk e => ?_)
  subst e
  refine hs { s with toks := tk } _ _ hh fun x tk₂ ⟨t, e⟩ => ?_
  subst e
  subst hh
  refine tail_any (hl.typeIs) slot_list_getitem.lookup (wpAny_getItem_list hl (by omega) (by omega) ?_ (k (ys.getD i .none) _ rfl)) (hs' _ _)
  rw [Int.toNat_natCast, List.getD_eq_getElem?_getD, List.getElem?_toArray, List.getElem?_eq_getElem hi]; rfl
theorem Ev.mul {l r : Expr} {pos : Pos} {a b : Int} (hl : Ev prog w A env l h (fun u => ∃ t, u = .int a t)) (hr : Ev prog w A env r h (fun u => ∃ t, u = .int b t)) (hm : IntMulOk a b) :
    Ev prog w A env (.BinOp l .Mult r pos) h (fun u => ∃ t, u = .int (a * b) t) := fun s Q E hh k => by
  refine wpAny_BinOp (hl s _ _ hh fun o tk ⟨t, e⟩ => ?_)
  subst e
  refine hr { s with toks := tk } _ _ hh fun x tk₂ ⟨t₂, e⟩ => ?_
  subst e
  exact AutoIntOps.mul_0 (k _ _ ⟨_, rfl⟩) hm
theorem Ev.add {l r : Expr} {pos : Pos} {a b : Int} (hl : Ev prog w A env l h (fun u => ∃ t, u = .int a t)) (hr : Ev prog w A env r h (fun u => ∃ t, u = .int b t)) :
    Ev prog w A env (.BinOp l .Add r pos) h (fun u => ∃ t, u = .int (a + b) t) := fun s Q E hh k => by
  refine wpAny_BinOp (hl s _ _ hh fun o tk ⟨t, e⟩ => ?_)
  subst e
  refine hr { s with toks := tk } _ _ hh fun x tk₂ ⟨t₂, e⟩ => ?_
  subst e
  exact AutoIntOps.add_0 (k _ _ ⟨_, rfl⟩)
theorem Ev.ifeq {l r x y : Expr} {p₁ pos : Pos} {a b : Int} {P : Value → Prop} (hl : Ev prog w A env l h (fun u => ∃ t, u = .int a t)) (hr : Ev prog w A env r h (fun u => ∃ t, u = .int b t))
    (hx : a = b → Ev prog w A env x h P) (hy : a ≠ b → Ev prog w A env y h P) (hm : behindInMarks .Eq r = false := by with_unfolding_all rfl) :
    Ev prog w A env (.IfExp (.Compare l [.Eq] [r] p₁) x y pos) h P := fun s Q E hh k => by
  refine wpAny_IfExp (wpAny_isTrue_Compare1 (hl s _ _ hh fun o tk ⟨t, e⟩ => ?_) hm)
  subst e
  refine hr { s with toks := tk } _ _ hh fun z tk₂ ⟨t₂, e⟩ => ?_
  subst e
  refine wpAny_eq_int (wpAny_truthy_bool ?_)
  by_cases q : a = b
  · rw [show (a == b) = true by simpa using q]; simp only [if_true]
    exact hx q { s with toks := tk₂ } _ _ hh fun v tk p => k v tk p
  · rw [show (a == b) = false by simpa using q]; simp only [Bool.false_eq_true, if_false]
    exact hy q { s with toks := tk₂ } _ _ hh fun v tk p => k v tk p
/-- range(n) -/
theorem Ev_range {n : Int} {k : Nat} {p₁ p₂ pos : Pos} {Q : Value → Shared → Prop} {E : Value → Shared → Prop} {s : Shared} (b : Bi s.heap "range" (.type "range")) (hg : env.globals = mainGlobals) (hb : env.builtins = builtinsNs) (hk : env.scope.kind = .function) (hx : env.kindOf "range" = some .globalImplicit)
    (hQ : ∀ h' tk r t u v, Kp s.heap h' → s.heap.objs.size ≤ h'.objs.size → IsRange h' r 0 n 1 t u v → Q (.ref r) { s with heap := h', toks := tk }) :
    wpAny (model prog w) A (eval (.Call (.Name "range" p₁) [.Constant (.int n) k p₂] [] pos) env) Q E s := by
  refine Call_Name1 ((Ev.builtin (v := .type "range") b hg hb hk hx) s _ _ rfl fun v tk e => ?_)
  subst e
  refine PySem.callWith_type1 (Ev.int (h := s.heap) _ _ _ rfl fun v tk₂ ⟨t, e⟩ => ?_)
  subst e
  refine call_range_1 (hQ _ _ _ _ _ _ (fun _ _ e => Heap.get?_push_of_some _ e) ?_ (Heap.get?_push_size _ rfl))
  rw [Heap.size_push]; exact Nat.le_succ _
theorem Ev_rangeC {n : Int} {k : Nat} {p₁ p₂ pos : Pos} {E : Value → Shared → Prop} {s : Shared} (b : Bi s.heap "range" (.type "range")) (hg : env.globals = mainGlobals) (hb : env.builtins = builtinsNs) (hk : env.scope.kind = .function) (hx : env.kindOf "range" = some .globalImplicit) :
    wpAny (model prog w) A (eval (.Call (.Name "range" p₁) [.Constant (.int n) k p₂] [] pos) env) (fun xv s₁ => ∃ r t u v h tk, xv = .ref r ∧ s₁ = { s with heap := h, toks := tk } ∧ Kp s.heap h ∧ s.heap.objs.size ≤ h.objs.size ∧ IsRange h r 0 n 1 t u v) E s :=
  Ev_range b hg hb hk hx fun h' tk r t u v k l e => ⟨_, _, _, _, _, _, rfl, rfl, k, l, e⟩
end
section
variable {prog : Program} {w : World} {A : Around} {env : Env} {s : Shared} {h : Heap} {t : Nat} {E : Value → Shared → Prop}
/-- one value, the state as it stands but for the count -/
theorem Ev.go {e : Expr} {v : Value} {Q : Value → Shared → Prop} (x : Ev prog w A env e h (fun u => u = v)) (k : ∀ tk, Q v { s with heap := h, toks := tk }) : wpAny (model prog w) A (eval e env) Q E { s with heap := h, toks := t } :=
  x { s with heap := h, toks := t } Q E rfl fun u tk q => q ▸ k tk
theorem Ev.goI {e : Expr} {i : Int} {Q : Value → Shared → Prop} (x : Ev prog w A env e h (fun u => ∃ t, u = .int i t)) (k : ∀ t tk, Q (.int i t) { s with heap := h, toks := tk }) : wpAny (model prog w) A (eval e env) Q E { s with heap := h, toks := t } :=
  x { s with heap := h, toks := t } Q E rfl fun u tk q => by obtain ⟨t, rfl⟩ := q; exact k t tk
end
noncomputable def RowAt (g : Heap) (v : Value) (f : Nat → Int) : Prop := ∃ (a : Addr) (ys : List Value), v = .ref a ∧ g.IsList a ys.toArray ∧ ys.length = 4 ∧ ∀ j, j < 4 → ∃ t, ys.getD j .none = .int (f j) t
noncomputable def MatAt (g : Heap) (v : Value) (M : Nat → Nat → Int) : Prop := ∃ (a : Addr) (ys : List Value), v = .ref a ∧ g.IsList a ys.toArray ∧ ys.length = 4 ∧ ∀ i, i < 4 → RowAt g (ys.getD i .none) (M i)
theorem RowAt.keeps {g g' : Heap} {v : Value} {f : Nat → Int} (x : RowAt g v f) (k : Kp g g') : RowAt g' v f := by obtain ⟨a, ys, e, l, n, r⟩ := x; exact ⟨a, ys, e, l.elim fun o z => ⟨o, k _ _ z.1, z.2⟩, n, r⟩
theorem MatAt.keeps {g g' : Heap} {v : Value} {f : Nat → Nat → Int} (x : MatAt g v f) (k : Kp g g') : MatAt g' v f := by obtain ⟨a, ys, e, l, n, r⟩ := x; exact ⟨a, ys, e, l.elim fun o z => ⟨o, k _ _ z.1, z.2⟩, n, fun i hi => (r i hi).keeps k⟩
noncomputable def dot4 (f : Nat → Int) : Int := f 0 + f 1 + f 2 + f 3
theorem isList_of {h : Heap} {D : Addr} {ys : List Value} (e : h.get? D = some (lstO ys)) : h.IsList D ys.toArray := ⟨_, e, rfl, _, rfl⟩
/-- a row made by a comprehension over range(4) -/
theorem row_made {h₀ h h' : Heap} {D : Addr} {ys : List Value} {f : Nat → Int} (hD : h.objs.size ≤ D) (e : h'.get? D = some (lstO ys)) (hl : ys.length = 4) (g : ∀ g, Sup h₀ h h' g → ∀ j, j < 4 → ∃ t, ys.getD j .none = .int (f j) t) :
    ∀ g, Sup h₀ h h' g → RowAt g (.ref D) f := fun k S => ⟨D, ys, rfl, isList_of (S _ _ e (.inl (fresh_none hD))), hl, g k S⟩
theorem mat_made {h₀ h h' : Heap} {D : Addr} {ys : List Value} {f : Nat → Nat → Int} (hD : h.objs.size ≤ D) (e : h'.get? D = some (lstO ys)) (hl : ys.length = 4) (g : ∀ g, Sup h₀ h h' g → ∀ j, j < 4 → RowAt g (ys.getD j .none) (f j)) :
    ∀ g, Sup h₀ h h' g → MatAt g (.ref D) f := fun k S => ⟨D, ys, rfl, isList_of (S _ _ e (.inl (fresh_none hD))), hl, g k S⟩
theorem Sup.refl {h₀ h h' : Heap} : Sup h₀ h h' h' := fun _ _ e _ => e
theorem all4 {P : Nat → Prop} (h0 : P 0) (h1 : P 1) (h2 : P 2) (h3 : P 3) : ∀ j, j < 4 → P j := fun j hj => by
  rcases j with _ | _ | _ | _ | j
  · exact h0
  · exact h1
  · exact h2
  · exact h3
  · exact absurd (Nat.lt_of_add_lt_add_right (n := 4) (k := j) (m := 0) (by rw [Nat.zero_add]; exact hj)) (Nat.not_lt_zero _)
theorem intsAreF (ns : List Int) : ∀ ys : List Value, ys.length = ns.length → (∀ j, j < ns.length → ∃ t, ys.getD j .none = .int (ns.getD j 0) t) → IntsAre ys ns := by
  induction ns with
  | nil => intro ys hl _; rw [List.length_eq_zero_iff.mp hl]; exact .nil
  | cons n ns ih =>
    intro ys hl g
    cases ys with
    | nil => cases hl
    | cons y ys =>
      obtain ⟨t, e⟩ := g 0 (Nat.succ_pos _)
      rw [show y = .int n t from e]
      exact .cons _ _ (ih ys (Nat.succ.inj hl) fun j hj => g (j + 1) (Nat.succ_lt_succ hj))
theorem intsAre4 {ys : List Value} {f : Nat → Int} (hl : ys.length = 4) (g : ∀ j, j < 4 → ∃ t, ys.getD j .none = .int (f j) t) : IntsAre ys [f 0, f 1, f 2, f 3] :=
  intsAreF [f 0, f 1, f 2, f 3] ys hl (all4 (P := fun j => ∃ t, ys.getD j .none = .int ([f 0, f 1, f 2, f 3].getD j 0) t) (g 0 (by decide)) (g 1 (by decide)) (g 2 (by decide)) (g 3 (by decide)))
theorem dot4_add {f g : Nat → Int} : dot4 (fun k => f k + g k) = dot4 f + dot4 g := by
  unfold dot4
  dsimp only
  omega
theorem dot4_single {g : Nat → Int} : ∀ i, i < 4 → dot4 (fun k => if k = i then g k else 0) = g i :=
  all4 (by simp [dot4]) (by simp [dot4]) (by simp [dot4]) (by simp [dot4])
theorem intsGet {vs : List Value} {ns : List Int} (h : IntsAre vs ns) {k : Nat} (hk : k < ns.length) : ∃ t, vs.getD k .none = .int (ns.getD k 0) t := by
  have hl := h.length
  have hlt : k < vs.length := by omega
  obtain ⟨t, e⟩ := IntsAre.int_at h k _ (List.getElem?_eq_getElem hlt)
  exact ⟨t, by rw [List.getD_eq_getElem?_getD, List.getElem?_eq_getElem hlt, ← e]; rfl⟩
section
variable {prog : Program} {w : World} {A : Around} {env : Env} {h : Heap}
/-- `m[i][j]` of a table -/
theorem Ev.mat {value s1 s2 : Expr} {p1 pos : Pos} {v : Value} {M : Nat → Nat → Int} {i j : Nat} (x : MatAt h v M) (hv : Ev prog w A env value h (fun u => u = v)) (h1 : Ev prog w A env s1 h (fun u => ∃ t, u = .int (i : Int) t)) (h2 : Ev prog w A env s2 h (fun u => ∃ t, u = .int (j : Int) t)) (hi : i < 4) (hj : j < 4)
    (e1 : ∀ o i, subscripted s1 false o i = operate [o, i] (getItem o i) := by intro _ _; with_unfolding_all rfl) (e2 : ∀ o i, subscripted s2 false o i = operate [o, i] (getItem o i) := by intro _ _; with_unfolding_all rfl) :
    Ev prog w A env (.Subscript (.Subscript value s1 p1) s2 pos) h (fun u => ∃ t, u = .int (M i j) t) := by
  obtain ⟨a, ys, rfl, l, n, r⟩ := x
  obtain ⟨a', ys', e', l', n', r'⟩ := r i hi
  obtain ⟨t, r''⟩ := r' j hj
  exact (Ev.sub (i := j) ((Ev.sub (i := i) hv h1 l (n ▸ hi) (Nat.lt_of_lt_of_le hi (by decide)) e1).mono fun v e => e.trans e') h2 l' (n' ▸ hj) (Nat.lt_of_lt_of_le hj (by decide)) e2).mono fun v e => ⟨t, e.trans r''⟩
/-- `row[k]` of a list of four ints -/
theorem Ev.ints {value s1 : Expr} {pos : Pos} {l : Addr} {vs : List Value} {ns : List Int} {k : Nat} (hv : Ev prog w A env value h (fun u => u = .ref l)) (h1 : Ev prog w A env s1 h (fun u => ∃ t, u = .int (k : Int) t)) (hl : h.IsList l vs.toArray) (hi : IntsAre vs ns) (hn : ns.length = 4) (hk : k < 4)
    (e1 : ∀ o i, subscripted s1 false o i = operate [o, i] (getItem o i) := by intro _ _; with_unfolding_all rfl) : Ev prog w A env (.Subscript value s1 pos) h (fun u => ∃ t, u = .int (ns.getD k 0) t) := by
  obtain ⟨t, e⟩ := intsGet hi (hn ▸ hk)
  exact (Ev.sub (i := k) hv h1 hl (hi.length ▸ hn ▸ hk) (Nat.lt_of_lt_of_le hk (by decide)) e1).mono fun v q => ⟨t, q.trans e⟩
end
/-- sum([elt for x in range(4)]) -/
theorem Ev_sumcomp {prog : Program} {w : World} {A : Around} {env : Env} {E : Value → Shared → Prop} {s : Shared} {e : Expr} {p₁ pos : Pos} {f : Nat → Int} {Q : Value → Shared → Prop} (hh : A.handled = none)
    (b : Bi s.heap "sum" (.builtin "sum")) (hg : env.globals = mainGlobals) (hb : env.builtins = builtinsNs) (hk : env.scope.kind = .function) (hx : env.kindOf "sum" = some .globalImplicit)
    (h : ∀ (tk₀ : Nat) Q', (∀ D h' tk (ys : List Value), Kp s.heap h' → h'.IsList D ys.toArray → IntsAre ys [f 0, f 1, f 2, f 3] → Q' (.ref D) { s with heap := h', toks := tk }) → wpAny (model prog w) A (eval e env) Q' E { s with toks := tk₀ })
    (hQ : ∀ h' tk t, Kp s.heap h' → Q (.int (dot4 f) t) { s with heap := h', toks := tk })
    (hs : starEach [e] env = [(false, eval e env)] := by rfl) :
    wpAny (model prog w) A (eval (.Call (.Name "sum" p₁) [e] [] pos) env) Q E s := by
  refine Call_Name1 ((Ev.builtin (v := .builtin "sum") b hg hb hk hx) s _ _ rfl fun v tk e => ?_) hs
  subst e
  refine PySem.callWith_builtin1 (h _ _ fun D h' tk ys k hl hi => ?_)
  obtain ⟨xs, hx⟩ := hi.allInts.items
  have hn : numsOf ys.toArray.toList = [f 0, f 1, f 2, f 3] := by rw [show ys.toArray.toList = ys from rfl, hi.numsOf]
  have hl' : h'.IsList D (intItems xs) := hx ▸ hl
  rw [hx] at hn
  rw [nums_intItems] at hn
  refine sum_intListG hh hl' fun h'' tk' t' hk' => ?_
  rw [preSum_eq, List.take_of_length_le (by simp), hn]
  have := hQ h'' tk' t' (fun b o e => hk' b o (k b o e))
  rw [show dot4 f = [f 0, f 1, f 2, f 3].sum by simp [dot4]; omega] at this
  exact this
example : True := by k_with_none; trivial
example : True := by
  k_with "mine enter0" => (
      refine' enter ?kX ?kT ?k6 ?k7 ?k8 ?k9 ?kB ?_ ?c2 ?c3 ?c4 ?c5
      (case kX => assumption)
      (case kT => exact Top.nolimit (by assumption))
      (case k6 => k_is)
      (case k7 => k_is)
      (case k8 => decide)
      (case k9 => first | exact BindsTo.of_eq rfl | exact kp_binds (by assumption) (fun _ => rfl))
      (case c5 => decide)
      (case kB => exact locs rfl)
      (case c2 => exact rfl)
      (case c3 => exact rfl)
      (case c4 => exact rfl))
  k_with "mine enterC0" => (
      refine' enterC ?kX ?kT ?k6 ?k7 ?k8 ?k9 ?kB ?kD ?_ ?c2 ?c3 ?c4
      (case kX => assumption)
      (case kT => exact Top.nolimit (by assumption))
      (case k6 => k_is)
      (case k7 => k_is)
      (case k8 => decide)
      (case k9 => first | exact BindsTo.of_eq rfl | exact kp_binds (by assumption) (fun _ => rfl))
      (case kB => exact rfl)
      (case kD => decide +kernel)
      (case c2 => exact rfl)
      (case c3 => exact rfl)
      (case c4 => exact rfl))
  k_with "mine enterH" => (
      (case k6 => k_is)
      (case k7 => k_is)
      (case k8 => decide)
      (case k9 => first | exact fun _ => BindsTo.of_eq rfl | exact fun X' => kp_binds X' (fun _ => rfl))
      (case kB => exact rfl)
      (case kD => decide +kernel)
      (case c2 => exact rfl)
      (case c3 => exact rfl)
      (case c4 => exact rfl))
  k_with "mine ne" => (with_reducible first
      | exact Nat.ne_of_lt (by assumption)
      | exact Nat.ne_of_lt (And.left (by assumption))
      | exact Nat.ne_of_lt (And.left (And.right (by assumption)))
      | exact Nat.ne_of_lt (And.right (by assumption))
      | exact Nat.ne_of_lt (And.left (And.right (And.right (by assumption))))
      | exact Nat.ne_of_lt (And.right (And.right (by assumption)))
      | exact Nat.ne_of_lt (And.left (And.right (And.right (And.right (by assumption)))))
      | exact Nat.ne_of_lt (And.right (And.right (And.right (by assumption))))
      | exact Nat.ne_of_lt (And.left (And.right (And.right (And.right (And.right (by assumption))))))
      | exact Nat.ne_of_lt (And.right (And.right (And.right (And.right (by assumption)))))
      | exact Nat.ne_of_lt (And.left (And.right (And.right (And.right (And.right (And.right (by assumption)))))))
      | exact Nat.ne_of_lt (And.right (And.right (And.right (And.right (And.right (by assumption))))))
      | exact Nat.ne_of_lt (And.left (And.right (And.right (And.right (And.right (And.right (And.right (by assumption))))))))
      | exact Nat.ne_of_lt (And.right (And.right (And.right (And.right (And.right (And.right (by assumption)))))))
      | exact Nat.ne_of_lt (And.left (And.right (And.right (And.right (And.right (And.right (And.right (And.right (by assumption)))))))))
      | exact Nat.ne_of_lt (And.right (And.right (And.right (And.right (And.right (And.right (And.right (by assumption))))))))
      | exact Nat.ne_of_lt (And.left (And.right (And.right (And.right (And.right (And.right (And.right (And.right (And.right (by assumption))))))))))
      | exact Nat.ne_of_lt (And.right (And.right (And.right (And.right (And.right (And.right (And.right (And.right (by assumption)))))))))
      | exact Nat.ne_of_lt (And.left (And.right (And.right (And.right (And.right (And.right (And.right (And.right (And.right (And.right (by assumption)))))))))))
      | exact Nat.ne_of_lt (And.right (And.right (And.right (And.right (And.right (And.right (And.right (And.right (And.right (by assumption))))))))))
      | exact Nat.ne_of_gt (by assumption)
      | exact Nat.ne_of_gt (And.left (by assumption))
      | exact Nat.ne_of_gt (And.left (And.right (by assumption)))
      | exact Nat.ne_of_gt (And.right (by assumption))
      | exact Nat.ne_of_gt (And.left (And.right (And.right (by assumption))))
      | exact Nat.ne_of_gt (And.right (And.right (by assumption)))
      | exact Nat.ne_of_gt (And.left (And.right (And.right (And.right (by assumption)))))
      | exact Nat.ne_of_gt (And.right (And.right (And.right (by assumption))))
      | exact Nat.ne_of_gt (And.left (And.right (And.right (And.right (And.right (by assumption))))))
      | exact Nat.ne_of_gt (And.right (And.right (And.right (And.right (by assumption)))))
      | exact Nat.ne_of_gt (And.left (And.right (And.right (And.right (And.right (And.right (by assumption)))))))
      | exact Nat.ne_of_gt (And.right (And.right (And.right (And.right (And.right (by assumption))))))
      | exact Nat.ne_of_gt (And.left (And.right (And.right (And.right (And.right (And.right (And.right (by assumption))))))))
      | exact Nat.ne_of_gt (And.right (And.right (And.right (And.right (And.right (And.right (by assumption)))))))
      | exact Nat.ne_of_gt (And.left (And.right (And.right (And.right (And.right (And.right (And.right (And.right (by assumption)))))))))
      | exact Nat.ne_of_gt (And.right (And.right (And.right (And.right (And.right (And.right (And.right (by assumption))))))))
      | exact Nat.ne_of_gt (And.left (And.right (And.right (And.right (And.right (And.right (And.right (And.right (And.right (by assumption))))))))))
      | exact Nat.ne_of_gt (And.right (And.right (And.right (And.right (And.right (And.right (And.right (And.right (by assumption)))))))))
      | exact Nat.ne_of_gt (And.left (And.right (And.right (And.right (And.right (And.right (And.right (And.right (And.right (And.right (by assumption)))))))))))
      | exact Nat.ne_of_gt (And.right (And.right (And.right (And.right (And.right (And.right (And.right (And.right (And.right (by assumption)))))))))))
  trivial
theorem times_spec {prog : Program} {w : World} {p loose mean mg mb} {s : Shared} {a b : Addr} {M N : Nat → Nat → Int} {Q E : Value → Shared → Prop}
    (X : (hd.heap_1 w.params).In s.heap) (T : Top p loose mean mg mb s.heap) (hM : MatAt s.heap (.ref a) M) (hN : MatAt s.heap (.ref b) N) (hb : ∀ i k j, i < 4 → k < 4 → j < 4 → IntMulOk (M i k) (N k j))
    (ret : ∀ r h' tk', Kp s.heap h' → MatAt h' (.ref r) (fun i j => dot4 fun k => M i k * N k j) → Q (.ref r) { s with heap := h', toks := tk' }) :
    wpAny (model prog w) (AX 700 5000) (call (.ref 158) [.ref a, .ref b]) Q E s := by
  have bR : Bi s.heap "range" (.type "range") := Bi.of X T (by k_is) boot_range (by decide)
  have bS : Bi s.heap "sum" (.builtin "sum") := Bi.of X T (by k_is) (by decide +kernel) (by decide)
  walk_at "mine enterC"
  rename_i L₁ h₁ tk₁ hL₁ F₁ o1 o2 d1 d2 N₁
  k_steps
  have k₁ : Kp s.heap _ := F₁.keep
  have c1 := (N₁ _ (.head _)).1
  have c2 := (N₁ _ (.tail _ (.head _))).1
  refine comp_cell (n := 4) (h₀ := s.heap) (G := fun i v g => RowAt g v (fun j => dot4 fun k => M i k * N k j)) rfl (by decide) (by decide) (by decide) k₁ rfl rfl (by decide) rfl (fun _ => rfl) (fun _ => rfl) ?_ ?_ ?_
  · exact Ev_rangeC (bR.keeps k₁) rfl rfl rfl rfl
  · intro i C c m h₂ t tk hi hC hc F₂ N₂
    have k₂ : Kp s.heap h₂ := fun b o e => F₂.keep b o (k₁ b o e)
    have cr := (N₂ _ (.head _)).1
    have q1 := F₂.keep _ _ c1
    have q2 := F₂.keep _ _ c2
    refine comp_cell (s := { s with heap := h₂, toks := tk }) (n := 4) (h₀ := s.heap) (G := fun j v g => ∃ t, v = .int (dot4 fun k => M i k * N k j) t) rfl (by decide) (by decide) (by decide) k₂ rfl rfl (by decide) rfl (fun _ => rfl) (fun _ => rfl) ?_ ?_ ?_
    · exact Ev_rangeC (bR.keeps k₂) rfl rfl rfl rfl
    · intro j C' c' m' h₃ t₃ tk₃ hj hC' hc' F₃ N₃
      have k₃ : Kp s.heap h₃ := fun b o e => F₃.keep b o (k₂ b o e)
      have cc := (N₃ _ (.head _)).1
      have r1 := F₃.keep _ _ q1
      have r2 := F₃.keep _ _ q2
      have r3 := F₃.keep _ _ cr
      refine Ev_sumcomp (f := fun k => M i k * N k j) rfl (bS.keeps k₃) rfl rfl rfl rfl (fun tk' Q' hQ' => ?_) fun h' tk t k => ⟨_, _, rfl, k, fun _ _ => ⟨_, rfl⟩⟩
      refine comp_local (s := { s with heap := h₃, toks := tk' }) (n := 4) (h₀ := s.heap) (G := fun k v g => ∃ t, v = .int (M i k * N k j) t) rfl (by decide) (by decide) (by decide) k₃ rfl rfl (by decide) rfl (fun _ => rfl) (fun _ => rfl) ?_ ?_ ?_
      · exact Ev_rangeC (bR.keeps k₃) rfl rfl rfl rfl
      · intro k C₄ m₄ h₄ t₄ tk₄ hk hC₄ F₄ hm₄
        have k₄ : Kp s.heap h₄ := fun b o e => F₄.keep b o (k₃ b o e)
        refine Ev.mul (h := h₄) (a := M i k) (b := N k j) ?_ ?_ (hb i k j hi hk hj) _ _ _ rfl fun v tk ⟨t, e⟩ => ⟨_, _, rfl, fun _ _ e => e, fun _ _ => ⟨t, e⟩⟩
        · exact Ev.mat (hM.keeps k₄) (Ev.cell (F₄.keep _ _ r2) d2 rfl rfl rfl) ((Ev.cell (F₄.keep _ _ r3) rfl rfl rfl rfl).mono fun v e => ⟨_, e⟩) ((Ev.local F₄.ns hm₄ rfl rfl).mono fun v e => ⟨_, e⟩) hi hk
        · exact Ev.mat (hN.keeps k₄) (Ev.cell (F₄.keep _ _ r1) d1 rfl rfl rfl) ((Ev.local F₄.ns hm₄ rfl rfl).mono fun v e => ⟨_, e⟩) ((Ev.cell (F₄.keep _ _ cc) rfl rfl rfl rfl).mono fun v e => ⟨_, e⟩) hk hj
      · intro D h' tk ys k hD e hl hg
        exact hQ' D h' tk ys k (isList_of e) (intsAre4 hl (hg _ Sup.refl))
    · intro D h' tk ys k hD e hl hg
      exact ⟨_, _, rfl, k, row_made hD e hl hg⟩
  · intro D h' tk ys k hD e hl hg
    exact ret _ _ _ (fun b o e => k b o (k₁ b o e)) (mat_made hD e hl hg _ Sup.refl)
example : True := by k_with_none; trivial
example : True := by
  k_with "mine enter0" => (
      refine' enter ?kX ?kT ?k6 ?k7 ?k8 ?k9 ?kB ?_ ?c2 ?c3 ?c4 ?c5
      (case kX => assumption)
      (case kT => exact Top.nolimit (by assumption))
      (case k6 => k_is)
      (case k7 => k_is)
      (case k8 => decide)
      (case k9 => first | exact BindsTo.of_eq rfl | exact kp_binds (by assumption) (fun _ => rfl))
      (case c5 => decide)
      (case kB => exact locs rfl)
      (case c2 => exact rfl)
      (case c3 => exact rfl)
      (case c4 => exact rfl))
  k_with "mine enterC0" => (
      refine' enterC ?kX ?kT ?k6 ?k7 ?k8 ?k9 ?kB ?kD ?_ ?c2 ?c3 ?c4
      (case kX => assumption)
      (case kT => exact Top.nolimit (by assumption))
      (case k6 => k_is)
      (case k7 => k_is)
      (case k8 => decide)
      (case k9 => first | exact BindsTo.of_eq rfl | exact kp_binds (by assumption) (fun _ => rfl))
      (case kB => exact rfl)
      (case kD => decide +kernel)
      (case c2 => exact rfl)
      (case c3 => exact rfl)
      (case c4 => exact rfl))
  k_with "mine enterH" => (
      (case k6 => k_is)
      (case k7 => k_is)
      (case k8 => decide)
      (case k9 => first | exact fun _ => BindsTo.of_eq rfl | exact fun X' => kp_binds X' (fun _ => rfl))
      (case kB => exact rfl)
      (case kD => decide +kernel)
      (case c2 => exact rfl)
      (case c3 => exact rfl)
      (case c4 => exact rfl))
  k_with "mine ne" => (with_reducible first
      | exact Nat.ne_of_lt (by assumption)
      | exact Nat.ne_of_lt (And.left (by assumption))
      | exact Nat.ne_of_lt (And.left (And.right (by assumption)))
      | exact Nat.ne_of_lt (And.right (by assumption))
      | exact Nat.ne_of_lt (And.left (And.right (And.right (by assumption))))
      | exact Nat.ne_of_lt (And.right (And.right (by assumption)))
      | exact Nat.ne_of_lt (And.left (And.right (And.right (And.right (by assumption)))))
      | exact Nat.ne_of_lt (And.right (And.right (And.right (by assumption))))
      | exact Nat.ne_of_lt (And.left (And.right (And.right (And.right (And.right (by assumption))))))
      | exact Nat.ne_of_lt (And.right (And.right (And.right (And.right (by assumption)))))
      | exact Nat.ne_of_lt (And.left (And.right (And.right (And.right (And.right (And.right (by assumption)))))))
      | exact Nat.ne_of_lt (And.right (And.right (And.right (And.right (And.right (by assumption))))))
      | exact Nat.ne_of_lt (And.left (And.right (And.right (And.right (And.right (And.right (And.right (by assumption))))))))
      | exact Nat.ne_of_lt (And.right (And.right (And.right (And.right (And.right (And.right (by assumption)))))))
      | exact Nat.ne_of_lt (And.left (And.right (And.right (And.right (And.right (And.right (And.right (And.right (by assumption)))))))))
      | exact Nat.ne_of_lt (And.right (And.right (And.right (And.right (And.right (And.right (And.right (by assumption))))))))
      | exact Nat.ne_of_lt (And.left (And.right (And.right (And.right (And.right (And.right (And.right (And.right (And.right (by assumption))))))))))
      | exact Nat.ne_of_lt (And.right (And.right (And.right (And.right (And.right (And.right (And.right (And.right (by assumption)))))))))
      | exact Nat.ne_of_lt (And.left (And.right (And.right (And.right (And.right (And.right (And.right (And.right (And.right (And.right (by assumption)))))))))))
      | exact Nat.ne_of_lt (And.right (And.right (And.right (And.right (And.right (And.right (And.right (And.right (And.right (by assumption))))))))))
      | exact Nat.ne_of_gt (by assumption)
      | exact Nat.ne_of_gt (And.left (by assumption))
      | exact Nat.ne_of_gt (And.left (And.right (by assumption)))
      | exact Nat.ne_of_gt (And.right (by assumption))
      | exact Nat.ne_of_gt (And.left (And.right (And.right (by assumption))))
      | exact Nat.ne_of_gt (And.right (And.right (by assumption)))
      | exact Nat.ne_of_gt (And.left (And.right (And.right (And.right (by assumption)))))
      | exact Nat.ne_of_gt (And.right (And.right (And.right (by assumption))))
      | exact Nat.ne_of_gt (And.left (And.right (And.right (And.right (And.right (by assumption))))))
      | exact Nat.ne_of_gt (And.right (And.right (And.right (And.right (by assumption)))))
      | exact Nat.ne_of_gt (And.left (And.right (And.right (And.right (And.right (And.right (by assumption)))))))
      | exact Nat.ne_of_gt (And.right (And.right (And.right (And.right (And.right (by assumption))))))
      | exact Nat.ne_of_gt (And.left (And.right (And.right (And.right (And.right (And.right (And.right (by assumption))))))))
      | exact Nat.ne_of_gt (And.right (And.right (And.right (And.right (And.right (And.right (by assumption)))))))
      | exact Nat.ne_of_gt (And.left (And.right (And.right (And.right (And.right (And.right (And.right (And.right (by assumption)))))))))
      | exact Nat.ne_of_gt (And.right (And.right (And.right (And.right (And.right (And.right (And.right (by assumption))))))))
      | exact Nat.ne_of_gt (And.left (And.right (And.right (And.right (And.right (And.right (And.right (And.right (And.right (by assumption))))))))))
      | exact Nat.ne_of_gt (And.right (And.right (And.right (And.right (And.right (And.right (And.right (And.right (by assumption)))))))))
      | exact Nat.ne_of_gt (And.left (And.right (And.right (And.right (And.right (And.right (And.right (And.right (And.right (And.right (by assumption)))))))))))
      | exact Nat.ne_of_gt (And.right (And.right (And.right (And.right (And.right (And.right (And.right (And.right (And.right (by assumption)))))))))))
  trivial
/-- a list of ints, its object as it was made -/
noncomputable def IntL (h : Heap) (b : Addr) (vs : List Value) (ns : List Int) : Prop := IntsAre vs ns ∧ ∃ n, h.get? b = some { cls := .type "list", data := .seq vs.toArray n }
theorem IntL.isList {h : Heap} {b : Addr} {vs : List Value} {ns : List Int} (x : IntL h b vs ns) : h.IsList b vs.toArray := by obtain ⟨_, n, e⟩ := x; exact ⟨_, e, rfl, n, rfl⟩
theorem IntL.keeps {h h' : Heap} {b : Addr} {vs : List Value} {ns : List Int} (x : IntL h b vs ns) (k : Kp h h') : IntL h' b vs ns := by obtain ⟨i, n, e⟩ := x; exact ⟨i, n, k _ _ e⟩
theorem IntL.noDict {h : Heap} {b : Addr} {vs : List Value} {ns : List Int} (x : IntL h b vs ns) : h.NoDictAt (.ref b) := by obtain ⟨_, n, e⟩ := x; exact ⟨_, e, rfl⟩
theorem index_ints {prog : Program} {w : World} {A : Around} {E : Value → Shared → Prop} {s : Shared} {l : Addr} {vs : List Value} {ns : List Int} {k : Int} {t : Tok} {Q : Value → Shared → Prop} (hl : IntL s.heap l vs ns)
    (hb : ns.length ≤ 100) (hk : k ∈ ns) (h : Q (.int (ns.idxOf k : Nat) s.toks) { s with toks := s.toks + 1 }) :
    wpAny (model prog w) A (call (.builtin "list.index") [.ref l, .int k t]) Q E s := by
  obtain ⟨hi, n, ho⟩ := hl
  have hlen := hi.length
  have hj : ns.idxOf k < ns.length := List.idxOf_lt_length_iff.mpr hk
  refine call_meets PySem.F.slot_list_index ⟨_, ho, rfl⟩ PySem.F.entry_list_index (PySem.F.args_list_index_2 _ _)
    (PySem.SeqAt.list_indexAt l vs.toArray n none #[] (.int k t) (isInt k) (ns.idxOf k) (by simpa [hlen] using hj) (by omega) ?_ ?_) ⟨ho, fun y hy => (eq_isInt k t hi y (by simpa using hy)).at _ _, h⟩
  · show isInt k vs[ns.idxOf k] = true
    rw [isInt_at k hi _ (by omega) hj]
    simpa using List.getElem_idxOf hj
  · intro j hjs hlt
    show isInt k vs[j] = false
    rw [isInt_at k hi j (by simpa using hjs) (by omega)]
    exact ne_of_lt_idxOf hlt _

theorem int_digits : ∀ d : Nat, d < 7 → PySem.intText? ⟨#[48 + d]⟩ = some (d : Int) := by decide +kernel
theorem int_digit {d : Nat} (h : d < 7) : PySem.intText? ⟨#[48 + d]⟩ = some (d : Int) := int_digits d h
theorem digit_bits : ∀ d : Nat, d < 7 → Builtin.Int.intBits ((d : Int) - 3) ≤ 64 := by decide +kernel
noncomputable def stepE (M : Nat → Nat → Int) (to st : Nat) (c : Int) : Nat → Nat → Int := fun i j => M i j + (if i = to then c * M st j else 0)
theorem step_spec {prog : Program} {w : World} {p loose mean mg mb} {s : Shared} {a b : Addr} {vs : List Value} {ns : List Int} {tx : Tok} {x y d : Nat} {M : Nat → Nat → Int} {Q E : Value → Shared → Prop}
    (X : (hd.heap_1 w.params).In s.heap) (T : Top p loose mean mg mb s.heap) (hl : IntL s.heap b vs ns) (hn : ns.length = 4) (hx : x < 200) (hy : y < 200) (hd : d < 7) (mx : (x : Int) ∈ ns) (my : (y : Int) ∈ ns)
    (hM : MatAt s.heap (.ref a) M)
    (ret : ∀ r h' tk', Kp s.heap h' → MatAt h' (.ref r) (stepE M (ns.idxOf (x : Int)) (ns.idxOf (y : Int)) ((d : Int) - 3)) → Q (.ref r) { s with heap := h', toks := tk' }) :
    wpAny (model prog w) (AX 700 5000) (call (.ref 163) [.ref a, .str ⟨#[x, 48 + d, y]⟩ tx, .ref b]) Q E s := by
  have bR : Bi s.heap "range" (.type "range") := Bi.of X T (by k_is) boot_range (by decide)
  k_with "mine getm" => (refine getMethod_list_of PySem.F.slot_list_index PySem.F.type_list_index (hl.keeps (Fr.keep (by assumption))).isList (hl.keeps (Fr.keep (by assumption))).noDict ?_)
  k_with "mine index" => (first | refine index_ints (k := (x : Int)) (hl.keeps (Fr.keep (by assumption))) (by omega) mx ?_ | refine index_ints (k := (y : Int)) (hl.keeps (Fr.keep (by assumption))) (by omega) my ?_)
  k_with "mine int" => (refine KIN.call_text (x := ⟨#[48 + d]⟩) (int_digit hd) (show 1 ≤ 640 by decide) ?_)
  walk_at "mine enterC"
  k_steps
  rename_i L₁ h₅ tk₅ hL₁ o1 o2 o3 o4 d1 d2 d3 d4 q1 q2 q3 D₁ g4 l1 g3 g2 oTo dTo g1 oTi dTi g0 oSt F₁ N₁ dSt
  have k₁ : Kp s.heap _ := F₁.keep
  have c1 := (N₁ _ (.tail _ (.head _))).1
  have c2 := (N₁ _ (.tail _ (.tail _ (.head _)))).1
  have c3 := (N₁ _ (.tail _ (.tail _ (.tail _ (.head _))))).1
  have c4 := (N₁ _ (.tail _ (.tail _ (.tail _ (.tail _ (.head _)))))).1
  have ix : ns.idxOf (x : Int) < 4 := hn ▸ List.idxOf_lt_length_iff.mpr mx
  have iy : ns.idxOf (y : Int) < 4 := hn ▸ List.idxOf_lt_length_iff.mpr my
  refine comp_cell (n := 4) (h₀ := s.heap) (G := fun i v g => RowAt g v (stepE M (ns.idxOf (x : Int)) (ns.idxOf (y : Int)) ((d : Int) - 3) i)) rfl (by decide) (by decide) (by decide) k₁ rfl rfl (by decide) rfl (fun _ => rfl) (fun _ => rfl) ?_ ?_ ?_
  · exact Ev_rangeC (bR.keeps k₁) rfl rfl rfl rfl
  · intro i C c m h₂ t tk hi hC hc F₂ N₂
    have k₂ : Kp s.heap h₂ := fun b o e => F₂.keep b o (k₁ b o e)
    have cr := (N₂ _ (.head _)).1
    have q1 := F₂.keep _ _ c1
    have q2 := F₂.keep _ _ c2
    have q3 := F₂.keep _ _ c3
    have q4 := F₂.keep _ _ c4
    refine comp_local (s := { s with heap := h₂, toks := tk }) (n := 4) (h₀ := s.heap) (G := fun j v g => ∃ t, v = .int (stepE M (ns.idxOf (x : Int)) (ns.idxOf (y : Int)) ((d : Int) - 3) i j) t) rfl (by decide) (by decide) (by decide) k₂ rfl rfl (by decide) rfl (fun _ => rfl) (fun _ => rfl) ?_ ?_ ?_
    · exact Ev_rangeC (bR.keeps k₂) rfl rfl rfl rfl
    · intro k C₄ m₄ h₄ t₄ tk₄ hk hC₄ F₄ hm₄
      have k₄ : Kp s.heap h₄ := fun b o e => F₄.keep b o (k₂ b o e)
      refine Ev.add (h := h₄) (a := M i k) (b := if i = ns.idxOf (x : Int) then ((d : Int) - 3) * M (ns.idxOf (y : Int)) k else 0) ?_ ?_ _ _ _ rfl fun v tk ⟨t, e⟩ => ⟨_, _, rfl, fun _ _ e => e, fun _ _ => ⟨t, e⟩⟩
      · exact Ev.mat (hM.keeps k₄) (Ev.cell (F₄.keep _ _ q4) d4 rfl rfl rfl) ((Ev.cell (F₄.keep _ _ cr) rfl rfl rfl rfl).mono fun v e => ⟨_, e⟩) ((Ev.local F₄.ns hm₄ rfl rfl).mono fun v e => ⟨_, e⟩) hi hk
      · refine Ev.ifeq (a := (i : Int)) (b := (ns.idxOf (x : Int) : Nat)) ?_ ?_ (fun q => ?_) (fun q => ?_)
        · exact (Ev.cell (F₄.keep _ _ cr) rfl rfl rfl rfl).mono fun v e => ⟨_, e⟩
        · exact (Ev.cell (F₄.keep _ _ q3) dTo rfl rfl rfl).mono fun v e => ⟨_, e⟩
        · rw [if_pos (by omega)]
          refine Ev.mul (a := (d : Int) - 3) (b := M (ns.idxOf (y : Int)) k) ?_ ?_ (IntMulOk.of_left (digit_bits d hd))
          · exact (Ev.cell (F₄.keep _ _ q2) dTi rfl rfl rfl).mono fun v e => ⟨_, e⟩
          · exact Ev.mat (hM.keeps k₄) (Ev.cell (F₄.keep _ _ q4) d4 rfl rfl rfl) ((Ev.cell (F₄.keep _ _ q1) dSt rfl rfl rfl).mono fun v e => ⟨_, e⟩) ((Ev.local F₄.ns hm₄ rfl rfl).mono fun v e => ⟨_, e⟩) iy hk
        · rw [if_neg (by omega)]
          exact Ev.int
    · intro D h' tk ys k hD e hl hg
      exact ⟨_, _, rfl, k, row_made hD e hl hg⟩
  · intro D h' tk ys k hD e hl hg
    exact ret _ _ _ (fun b o e => k b o (k₁ b o e)) (mat_made hD e hl hg _ Sup.refl)
theorem store_function : StoreFacts "function" [.type "function", .type "object"] "object.__setattr__" "object" where
  mro := by kernel_rfl
  slot := .of (owner := "object") (n := "__setattr__") (by rw [typeLookup_type, builtinLookup_eq_fast]; kernel_rfl) (by decide +kernel) (by decide +kernel) (by decide +kernel)
    (by first | exact .inl (by decide +kernel) | exact .inr (by decide +kernel)) (by rw [isSubtype_type]; kernel_rfl)
  entry := PySem.F.entry_object_sa
  kind := by decide +kernel
  split := by decide +kernel
  hasOwner := by decide +kernel
  args := fun a b c => by unfold argsOk; kernel_rfl
  passes := fun self => by kernel_rfl

noncomputable def DObj (o : Obj) (m : Str → Option Value) : Prop := ∃ es ep, o.data = .dict es ep ∧ StrKeys es ∧ UniqKeys es ∧ ∀ name, nsFind es name = m name
theorem DObj.ns1 {o : Obj} {m : Str → Option Value} {h : Heap} {d : Addr} (x : DObj o m) (e : h.get? d = some o) : h.Ns1 d m := by obtain ⟨es, ep, r⟩ := x; exact ⟨o, es, ep, e, r⟩
theorem ns1_obj {h : Heap} {d : Addr} {m : Str → Option Value} (x : h.Ns1 d m) : ∃ o, h.get? d = some o ∧ DObj o m := by obtain ⟨o, es, ep, e, r⟩ := x; exact ⟨o, e, es, ep, r⟩

section
variable {prog : Program} {w : World} {A : Around} {E : Value → Shared → Prop} {s : Shared}
theorem osa_fn {f d : Addr} {o : Obj} {mm : Str → Option Value} {name : Str} {tk : Tok} {v : Value} {ns : List Str} {Q : Fin → Shared → Prop} (ho : s.heap.get? f = some o) (hc : o.cls = .type "function") (hdc : ∀ c, o.data ≠ .cls c)
    (hB : typeLookup (.type "function") name = pure none) (hd : (o.dict = none ∧ d = s.heap.objs.size ∧ mm = fun _ => none) ∨ (o.dict = some d ∧ d ≠ f ∧ s.heap.Ns1 d mm))
    (hq : ∀ h' tk' od, h'.get? f = some { o with dict := some d } → h'.get? d = some od → DObj od (fun y => if y = name then some v else mm y) → (∀ b ob, b ≠ f → b ≠ d → s.heap.get? b = some ob → h'.get? b = some ob) → Q (.done (.ret .none)) { s with heap := h', toks := tk' })
    (hw : Within mm ns) (hsz : ns.length ≤ 100) :
    wpAny (model prog w) A.in1 (Builtin.«object.__setattr__» ⟨[.ref f, .str name tk, v], []⟩) Q E s := by
  have hpass := store_function.passes (.ref f)
  have hT : s.TypeIs (.ref f) "function" := ⟨o, ho, hc⟩
  rw [osa_eq, refuse_eq]
  refine wpAny_bind (wpAny_bind (wpAny_typeOf hT ?_))
  rw [store_function.mro]
  refine wpAny_bind (wpAny_pure ?_)
  rw [hpass]
  refine wpAny_pure (wpAny_bind (wpAny_typeOf hT (wpAny_bind ?_)))
  rw [hB]
  refine wpAny_pure (wpAny_bind (wpAny_pure ?_))
  dsimp only
  unfold Builtin.ObjectAttr.storeInOwnDict
  refine wpAny_bind (wpAny_of_eq (a := ()) (by with_unfolding_all rfl) ?_)
  simp only [show (Value.type "function" == Value.type "module") = false from by decide, Bool.false_eq_true, if_false]
  have fin : ∀ (s' : Shared) (h₁ : Heap) (tk₁ : Nat), s' = { s with heap := h₁, toks := tk₁ } → h₁.get? f = some { o with dict := some d } → h₁.Ns1 d mm → d ≠ f → (∀ b ob, b ≠ f → b ≠ d → s.heap.get? b = some ob → h₁.get? b = some ob) →
      wpAny (model prog w) A.in1 (Builtin.ObjectAttr.storeInDict d (Value.str name tk) name v) Q E s' := by
    rintro _ h₁ tk₁ rfl hf₁ hn₁ hne hk₁
    unfold Builtin.ObjectAttr.storeInDict Builtin.ObjectAttr.newKeyGuard
    refine wpAny_bind (wpAny_pure (wpAny_bind (wpAny_nsSet1 hn₁ fun h' hn' hs => ?_)))
    obtain ⟨oD, esD, epD, hoD, hdD, hcD⟩ := hn'.count (Within.cons name v hw)
    refine wpAny_bind (wpAny_lookBehind hoD (by rw [hdD]; exact pastItsLine_dict (Nat.le_trans hcD (by rw [List.length_cons, sizeLine_eq]; omega))) ?_)
    obtain ⟨od, eo, hD⟩ := ns1_obj hn'
    exact wpAny_pure (hq h' _ od ((hs.2 f hne.symm).trans hf₁) eo hD fun b ob b1 b2 e => (hs.2 b b2).trans (hk₁ b ob b1 b2 e))
  have hT' : typeHasDict (.type "function") = true := by decide +kernel
  refine wpAny_bind ?_
  show wpAny _ _ (instanceDict f true) _ _ _
  unfold instanceDict
  refine wpAny_bind (wpAny_loadPart ho ?_)
  rcases hd with ⟨hdn, rfl, rfl⟩ | ⟨hdx, hne, hns⟩
  · rw [hc, hdn]
    simp only [hT', Bool.not_true, Bool.or_false, Bool.false_eq_true, if_false]
    have hxs : f ≠ s.heap.objs.size := Nat.ne_of_lt (Heap.lt_size ho)
    have hx₁ : (s.heap.push { cls := .type "dict", data := .dict #[] }).get? f = some o := Heap.get?_push_of_some _ ho
    refine wpAny_bind (wpAny_alloc (wpAny_bind (wpAny_update hx₁ ?_)))
    have hd' : dictMade (Value.type "function") f s.heap.objs.size = pure (some s.heap.objs.size) := by
      have q : finalisedInACycleAlone "function" = false := by decide +kernel
      unfold dictMade
      dsimp only
      rw [q]
      rfl
    refine wpAny_of_eq hd' ?_
    have hfr := (Heap.get?_some_iff.mp ho).2
    have hgf : ((s.heap.push { cls := .type "dict", data := .dict #[] }).update f fun o => { cls := o.cls, dict := some s.heap.objs.size, data := o.data, slots := o.slots }).get? f = some { o with dict := some s.heap.objs.size } := by
      refine Heap.get?_update_self _ hx₁ ?_
      obtain ⟨oc, od, odt, osl⟩ := o
      cases odt <;> first | rfl | exact hfr
    have hgd : ((s.heap.push { cls := .type "dict", data := .dict #[] }).update f fun o => { cls := o.cls, dict := some s.heap.objs.size, data := o.data, slots := o.slots }).get? s.heap.objs.size
          = some { cls := .type "dict", data := .dict #[] } :=
        (Heap.get?_update_ne _ _ _ _ hxs.symm).trans (Heap.get?_push_at rfl rfl)
    exact fin _ _ s.toks rfl hgf (Heap.Ns1.of_empty ⟨_, #[], _, hgd, rfl, fun e he => absurd he (by simp), fun _ => rfl⟩) hxs.symm
      fun b ob b1 b2 e => (Heap.get?_update_ne _ _ _ _ b1).trans (Heap.get?_push_of_some _ e)
  · rw [hc, hdx]
    refine wpAny_bind (wpAny_pure (wpAny_pure ?_))
    exact fin s s.heap s.toks rfl (by rw [ho, ← hdx]) hns hne fun _ _ _ _ e => e
theorem slot_sa_fn : Slot "function" "__setattr__" "object.__setattr__" := store_function.slot
theorem setAttr_fn {f d : Addr} {o : Obj} {mm : Str → Option Value} {name : Str} {v : Value} {ns : List Str} {Q : Unit → Shared → Prop} (ho : s.heap.get? f = some o) (hc : o.cls = .type "function") (hdc : ∀ c, o.data ≠ .cls c)
    (hB : typeLookup (.type "function") name = pure none) (hd : (o.dict = none ∧ d = s.heap.objs.size ∧ mm = fun _ => none) ∨ (o.dict = some d ∧ d ≠ f ∧ s.heap.Ns1 d mm))
    (hq : ∀ h' tk' od, h'.get? f = some { o with dict := some d } → h'.get? d = some od → DObj od (fun y => if y = name then some v else mm y) → (∀ b ob, b ≠ f → b ≠ d → s.heap.get? b = some ob → h'.get? b = some ob) → Q () { s with heap := h', toks := tk' })
    (hw : Within mm ns) (hsz : ns.length ≤ 100) :
    wpAny (model prog w) A (setAttr (.ref f) name v) Q E s := by
  refine wpAny_bind (wpAny_mkText (wpAny_bind (wpAny_callSpecial?_slot (T := "function") (name := "__setattr__") ⟨o, ho, hc⟩ slot_sa_fn (wpAny_call_entry slot_sa_fn ⟨o, ho, hc⟩ store_function.entry ?_ (store_function.args _ _ _)))))
  exact osa_fn (s := { s with toks := s.toks + 1 }) ho hc hdc hB hd (fun h' tk' od a1 a2 a3 a4 => ⟨_, rfl, wpAny_pure (hq h' tk' od a1 a2 a3 a4)⟩) hw hsz

/-- in the walk: a function without a dict gets one -/
theorem fnset0 {h₀ : Heap} {L f : Addr} {m : Str → Option Value} {news : List (Addr × Obj)} {g : Obj → List (Addr × Obj)} {cls : Value} {dt : Data} {sl : Array (Option Value)} {name : Str} {v : Value} {Q : Unit → Shared → Prop} (F : Fr h₀ L s.heap m) (N : News h₀ L s.heap news)
    (U : UpdF f ⟨cls, none, dt, sl⟩ news g) (hc : cls = .type "function") (hdc : ∀ c, dt ≠ .cls c) (hB : typeLookup (.type "function") name = pure none)
    (h : ∀ d od h' tk, Fr h₀ L h' m → News h₀ L h' ((d, od) :: g ⟨cls, some d, dt, sl⟩) → DObj od (fun y => if y = name then some v else none) → (∀ q ∈ news, q.1 < d) → Q () { s with heap := h', toks := tk }) :
    wpAny (model prog w) A (setAttr (.ref f) name v) Q E s := by
  obtain ⟨own, rest, rfl, hgr, h1, h2⟩ := U.split
  have hm := N (f, ⟨cls, none, dt, sl⟩) (List.mem_append_right _ (.head _))
  have lt : ∀ q ∈ own ++ (f, ⟨cls, none, dt, sl⟩) :: rest, q.1 < s.heap.objs.size := fun q hq => Heap.lt_size (N q hq).1
  refine setAttr_fn (d := s.heap.objs.size) hm.1 hc hdc hB (.inl ⟨rfl, rfl, rfl⟩) (fun h' tk' od a1 a2 a3 a4 => ?_) Within.nil (by decide)
  have hL : L < s.heap.objs.size := F.ns.lt
  refine h s.heap.objs.size od h' tk' ⟨F.ns.at' fun o e => a4 _ o hm.2.1.symm (Nat.ne_of_lt hL) e, fun b o e => a4 b o (ne_of_none (hm.2.2) e) (Nat.ne_of_lt (Heap.lt_size (F.keep b o e))) (F.keep b o e), F.above⟩ (fun p hp => ?_) a3 lt
  rcases List.mem_cons.mp hp with rfl | hp
  · exact ⟨a2, Nat.ne_of_gt hL, Heap.get?_none_of_le (Nat.le_trans F.above (Nat.le_of_lt hL))⟩
  · rw [hgr] at hp
    rcases List.mem_append.mp hp with hp | hp
    · have n := N p (List.mem_append_left _ hp)
      exact ⟨a4 _ _ (h1 p hp) (Nat.ne_of_lt (Heap.lt_size n.1)) n.1, n.2⟩
    · rcases List.mem_cons.mp hp with rfl | hp
      · exact ⟨a1, hm.2⟩
      · have n := N p (List.mem_append_right _ (.tail _ hp))
        exact ⟨a4 _ _ (h2 p hp) (Nat.ne_of_lt (Heap.lt_size n.1)) n.1, n.2⟩
/-- in the walk: a function with a dict -/
theorem fnset1 {h₀ : Heap} {L f d : Addr} {m : Str → Option Value} {news : List (Addr × Obj)} {g : Obj → List (Addr × Obj)} {cls : Value} {dt : Data} {sl : Array (Option Value)} {od : Obj} {mm : Str → Option Value} {ns : List Str} {name : Str} {v : Value} {Q : Unit → Shared → Prop} (F : Fr h₀ L s.heap m) (N : News h₀ L s.heap news)
    (hf : (f, (⟨cls, some d, dt, sl⟩ : Obj)) ∈ news) (U : UpdF d od news g) (hD : DObj od mm) (hc : cls = .type "function") (hdf : @Ne Nat d f) (hdc : ∀ c, dt ≠ .cls c) (hB : typeLookup (.type "function") name = pure none) (hw : Within mm ns) (hsz : ns.length ≤ 100)
    (h : ∀ od' h' tk, Fr h₀ L h' m → News h₀ L h' (g od') → DObj od' (fun y => if y = name then some v else mm y) → Q () { s with heap := h', toks := tk }) :
    wpAny (model prog w) A (setAttr (.ref f) name v) Q E s := by
  obtain ⟨own, rest, rfl, hgr, h1, h2⟩ := U.split
  have hm := N (d, od) (List.mem_append_right _ (.head _))
  have hm' := N _ hf
  refine setAttr_fn (d := d) hm'.1 hc hdc hB (.inr ⟨rfl, hdf, hD.ns1 hm.1⟩) (fun h' tk' od' a1 a2 a3 a4 => ?_) hw hsz
  have keep : ∀ b o, b ≠ d → s.heap.get? b = some o → h'.get? b = some o := fun b o hb e => by
    by_cases q : b = f
    · subst q; rw [a1, ← e, hm'.1]
    · exact a4 b o q hb e
  refine h od' h' tk' ⟨F.ns.at' fun o e => keep _ o hm.2.1.symm e, fun b o e => keep b o (ne_of_none (hm.2.2) e) (F.keep b o e), F.above⟩ (fun p hp => ?_) a3
  rw [hgr] at hp
  rcases List.mem_append.mp hp with hp | hp
  · have n := N p (List.mem_append_left _ hp)
    exact ⟨keep _ _ (h1 p hp) n.1, n.2⟩
  · rcases List.mem_cons.mp hp with rfl | hp
    · exact ⟨a2, hm.2⟩
    · have n := N p (List.mem_append_right _ (.tail _ hp))
      exact ⟨keep _ _ (h2 p hp) n.1, n.2⟩
end
theorem tl_tag : typeLookup (.type "function") "tag" = pure none := by rw [typeLookup_type, builtinLookup_eq_fast]; kernel_rfl
theorem tl_tail : typeLookup (.type "function") "tail" = pure none := by rw [typeLookup_type, builtinLookup_eq_fast]; kernel_rfl
theorem tl_attrib : typeLookup (.type "function") "attrib" = pure none := by rw [typeLookup_type, builtinLookup_eq_fast]; kernel_rfl
theorem tl_kids : typeLookup (.type "function") "kids" = pure none := by rw [typeLookup_type, builtinLookup_eq_fast]; kernel_rfl
theorem tl_append : typeLookup (.type "function") "append" = pure none := by rw [typeLookup_type, builtinLookup_eq_fast]; kernel_rfl
theorem tl_makeelement : typeLookup (.type "function") "makeelement" = pure none := by rw [typeLookup_type, builtinLookup_eq_fast]; kernel_rfl
theorem tl_itertext : typeLookup (.type "function") "itertext" = pure none := by rw [typeLookup_type, builtinLookup_eq_fast]; kernel_rfl
theorem ga_fn : typeLookup (.type "function") "__getattribute__" = pure (some (.builtin "object.__getattribute__")) := by rw [typeLookup_type, builtinLookup_eq_fast]; kernel_rfl
theorem slot_ga_fn : Slot "function" "__getattribute__" "object.__getattribute__" := .of (owner := "object") (n := "__getattribute__") ga_fn (by decide +kernel) (by decide +kernel) (by decide +kernel)
    (by first | exact .inl (by decide +kernel) | exact .inr (by decide +kernel)) (by rw [isSubtype_type]; kernel_rfl)
theorem fn_getattr_none : typeLookup (.type "function") "__getattr__" = pure none := by rw [typeLookup_type, builtinLookup_eq_fast]; kernel_rfl
theorem entry_object_ga : entryFor table "object.__getattribute__" = some Builtin.«object.__getattribute__» := entryFor_of_tree (by kernel_rfl)
theorem args_object_ga (a b : Value) : argsOk "object.__getattribute__" ⟨[a, b], []⟩ := by unfold argsOk; kernel_rfl

/-- a value that is handed out as it is -/
noncomputable def PlainV : Value → Prop
  | .builtin _ => False
  | _ => True

section
variable {prog : Program} {w : World} {A : Around} {E : Value → Shared → Prop} {s : Shared}
theorem nsLook_some {o : Obj} {es : Array DictEntry} {ep : Nat} {name : Str} {v : Value} (hd : o.data = .dict es ep) (hf : nsFind es name = some v) : nsLook name o = pure (some v) := by
  rw [nsLook_eq]
  unfold nsLookByArray
  rw [hd]
  unfold nsFind findBy at hf
  dsimp only
  cases q : es.find? (·.key.isStr name) with
  | none => rw [q] at hf; cases hf
  | some e => rw [q] at hf; cases hf; rfl
/-- the attributes of a function's own dict -/
structure FnAt (h : Heap) (f : Addr) (m : Str → Option Value) : Prop where
  out : ∃ o d fd, h.get? f = some o ∧ o.cls = .type "function" ∧ o.dict = some d ∧ o.data = .func fd ∧ h.Ns d m
theorem FnAt.keeps {h h' : Heap} {f : Addr} {m : Str → Option Value} (x : FnAt h f m) (k : Kp h h') : FnAt h' f m := by obtain ⟨o, d, fd, a, b, c, e, n⟩ := x.out; exact ⟨o, d, fd, k _ _ a, b, c, e, n.keeps k⟩

theorem oga_fn {f : Addr} {m : Str → Option Value} {name : Str} {tk : Tok} {v : Value} {Q : Fin → Shared → Prop} (hf : FnAt s.heap f m) (hv : m name = some v) (hB : typeLookup (.type "function") name = pure none) (h : Q (.done (.ret v)) s) :
    wpAny (model prog w) A (Builtin.«object.__getattribute__» ⟨[.ref f, .str name tk], []⟩) Q E s := by
  obtain ⟨o, d, fd, ho, hc, hd, hdat, hn⟩ := hf.out
  obtain ⟨hp, g, dr, tks, os⟩ := s
  have hT : (⟨hp, g, dr, tks, os⟩ : Shared).TypeIs (.ref f) "function" := ⟨_, ho, hc⟩
  obtain ⟨oc, od, odt, osl⟩ := o
  dsimp only at hc hd hdat
  subst hc hd hdat
  unfold Builtin.«object.__getattribute__»
  repeat (any_goals (first | assumption | wp_step))
  obtain ⟨oD, es, ep, hoD, hdD, _, hm⟩ := hn
  refine wpAny_loadPart hoD (wpAny_of_eq (nsLook_some hdD ((hm name).trans hv)) ?_)
  exact wpAny_bind (wpAny_rule (wpAny_pure (wpAny_pure h)))
theorem call_ga_fn {f : Addr} {m : Str → Option Value} {name : Str} {tk : Tok} {v : Value} {Q : Value → Shared → Prop} (hf : FnAt s.heap f m) (hv : m name = some v) (hB : typeLookup (.type "function") name = pure none) (h : Q v s) :
    wpAny (model prog w) A (call (.builtin "object.__getattribute__") [.ref f, .str name tk]) Q E s := by
  obtain ⟨o, d, fd, ho, hc, hd, hdat, hn⟩ := id hf.out
  exact wpAny_call_entry slot_ga_fn ⟨o, ho, hc⟩ entry_object_ga (oga_fn hf hv hB ⟨_, rfl, h⟩) (args_object_ga _ _)
theorem getAttr_fn {f : Addr} {m : Str → Option Value} {name : Str} {b : Bool} {v : Value} {Q : Value → Shared → Prop} (hf : FnAt s.heap f m) (hv : m name = some v) (hpv : PlainV v) (hB : typeLookup (.type "function") name = pure none) (h : ∀ tk, Q v { s with toks := tk }) :
    wpAny (model prog w) A (getAttr (.ref f) name b) Q E s := by
  obtain ⟨o, d, fd, ho, hc, hd, hdat, hn⟩ := id hf.out
  obtain ⟨hp, g, dr, tks, os⟩ := s
  obtain ⟨oc, od, odt, osl⟩ := o
  dsimp only at hc hd hdat
  subst hc hd hdat
  have hT : ∀ tk', (⟨hp, g, dr, tk', os⟩ : Shared).TypeIs (.ref f) "function" := fun _ => ⟨_, ho, rfl⟩
  have f3 := slot_ga_fn.lookup
  have f4 := slot_ga_fn.bind (.ref f)
  unfold getAttr getAttrBy
  repeat (any_goals (first | assumption | exact hT _ | ((with_reducible show wpAny _ _ (call (Value.builtin "object.__getattribute__") _ _) _ _ _); refine call_ga_fn hf hv hB ?_) | wp_step))
  rw [if_neg (by cases b <;> decide)]
  unfold boundAndCalled
  repeat (any_goals (first | assumption | exact hT _ | ((with_reducible show wpAny _ _ (call (Value.builtin "object.__getattribute__") _ _) _ _ _); refine call_ga_fn (s := ⟨hp, g, dr, _, os⟩) hf hv hB ?_) | wp_step))
  cases v with
  | builtin id => exact hpv.elim
  | _ => exact wpAny_pure (h _)
theorem getMethod_fn {f : Addr} {m : Str → Option Value} {name : Str} {pl : Sem Bool} {v : Value} {Q : Value × List Value → Shared → Prop} (hf : FnAt s.heap f m) (hv : m name = some v) (hpv : PlainV v) (hB : typeLookup (.type "function") name = pure none) (h : ∀ tk, Q (v, []) { s with toks := tk }) :
    wpAny (model prog w) A (getMethod (.ref f) name pl) Q E s := by
  obtain ⟨o, d, fd, ho, hc, hd, hdat, hn⟩ := id hf.out
  have hT : s.TypeIs (.ref f) "function" := ⟨_, ho, hc⟩
  unfold getMethod
  refine wpAny_bind (wpAny_specialOf hT ga_fn ?_)
  show wpAny _ A (if (Manifest.canonical "object.__getattribute__" != "object.__getattribute__") = true then _ else _) Q E s
  rw [show (Manifest.canonical "object.__getattribute__" != "object.__getattribute__") = false from by decide +kernel, if_neg Bool.false_ne_true]
  refine wpAny_bind (wpAny_specialOf hT fn_getattr_none ?_)
  refine wpAny_bind (wpAny_specialOf hT hB ?_)
  exact wpAny_bind (getAttr_fn hf hv hpv hB fun tk => wpAny_pure (h tk))
end
noncomputable def lamEnv (fd : FuncData) (L f : Addr) : Env := newEnv fd.scope L fd.globals fd.closure (fd.qualname ++ ".<locals>.") (some f) fd.code none fd.builtins
theorem lam_enter {prog : Program} {w : World} {A : Around} {E Q : Value → Shared → Prop} {s : Shared} {f : Addr} {o : Obj} {fd : FuncData} {body : Expr} {vs : List Value} {binds : List (Str × Value)}
    (ho : s.heap.get? f = some o) (hd : o.data = .func fd) (hb : fd.body = .expr body) (hcd : s.heap.CodeRec fd.code fd.qualname) (hlim : s.heap.NoLimit) (hroom : A.depth < recursionLimit)
    (hco : fd.scope.isCoroutine = false) (hgen : fd.scope.isGenerator = false) (hk : fd.scope.kind = .function) (hbind : bindArgs fd ⟨vs, []⟩ = pure binds) (hcell : ∀ x ∈ fd.scope.names, x.2 ≠ .cell) (hloc : ∀ y ∈ binds, fd.scope.names.lookup y.1 = some .local)
    (h : ∀ L h₁ tk, Fr s.heap L h₁ (fun y => binds.reverse.lookup y) → wpAny (model prog w) (A.deeper (lamEnv fd L f)) (eval body (lamEnv fd L f)) Q (fun _ _ => False) { s with heap := h₁, toks := tk }) :
    wpAny (model prog w) A (call (.ref f) vs) Q E s := by
  refine wpAny_call (kla_callFunE hroom ho hd hco hgen hb hcd ?_)
  rw [hbind]
  refine wpAny_pure (wpAny_newFunctionEnv hcell hloc (fun h₁ hns hsb => ⟨hlim.fresh _ hsb, ?_⟩) hk)
  refine kla_codeExpr (wpAny_mono (h s.heap.objs.size h₁ _ ⟨hns, fun b o e => hsb.extBut b o (Nat.ne_of_lt (Heap.lt_size e)) (Heap.get?_push_of_some _ e), Nat.le_refl _⟩) (fun v s' q => q) fun _ _ q => q.elim)

/-- a heap with nothing but the objects at l -/
noncomputable def only (h : Heap) (l : List Addr) : Heap := hideAll h ((List.range h.objs.size).filter fun a => !l.contains a)
theorem only_get {h : Heap} {l : List Addr} {a : Addr} {o : Obj} (e : h.get? a = some o) (ha : a ∈ l) : (only h l).get? a = some o := hideAll_get _ e fun hm => by
  have := (List.mem_filter.mp hm).2
  simp [ha] at this
theorem only_in {h : Heap} {l : List Addr} {a : Addr} {o : Obj} (e : (only h l).get? a = some o) : a ∈ l := by
  refine Classical.byContradiction fun hn => ?_
  have he := of_hideAll _ e
  have : (only h l).get? a = none := hideAll_none _ (List.mem_filter.mpr ⟨List.mem_range.mpr (Heap.lt_size he), by simpa using hn⟩)
  rw [this] at e; cases e
theorem only_of {h : Heap} {l : List Addr} {a : Addr} {o : Obj} (e : (only h l).get? a = some o) : h.get? a = some o := of_hideAll _ e
structure NoLists (g : Heap) : Prop where
  seq : ∀ a o xs n, g.get? a = some o → o.data ≠ .seq xs n
  rcd : ∀ a o vs, g.get? a = some o → o.data = .fields vs → ∃ x t, (vs[1]? : Option Value) = some (.str x t)
  dct : ∀ a m, g.Ns a m → m "tag" ≠ none
  cel : ∀ a o v, g.get? a = some o → o.data = .cell v → ∃ r, v = some (.ref r)
/-- an object that may be written anew: a list, or a table of codes -/
noncomputable def Mut (h : Heap) (a : Addr) : Prop := ∃ o, h.get? a = some o ∧ ((∃ xs n, o.data = .seq xs n) ∨ ∃ vs : Array Value, o.data = .fields vs ∧ ∀ x t, vs[1]? ≠ some (.str x t))
/-- what is in g is new since h, or a record -/
noncomputable def NewOr (g h : Heap) : Prop := ∀ a o, g.get? a = some o → h.get? a = none ∨ ∃ vs, o.data = .fields vs
noncomputable def ListAt (h : Heap) (a : Addr) (xs : List Value) : Prop := ∃ n, h.get? a = some { cls := .type "list", data := .seq xs.toArray n }
theorem ListAt.mut {h : Heap} {a : Addr} {xs : List Value} (x : ListAt h a xs) : Mut h a := by obtain ⟨n, e⟩ := x; exact ⟨_, e, .inl ⟨_, n, rfl⟩⟩
theorem ListAt.isList {h : Heap} {a : Addr} {xs : List Value} (x : ListAt h a xs) : h.IsList a xs.toArray := by obtain ⟨n, e⟩ := x; exact ⟨_, e, rfl, n, rfl⟩
theorem ListAt.keeps {h h' : Heap} {a : Addr} {xs : List Value} (x : ListAt h a xs) (k : Kp h h') : ListAt h' a xs := by obtain ⟨n, e⟩ := x; exact ⟨n, k _ _ e⟩
theorem ListAt.noDict {h : Heap} {a : Addr} {xs : List Value} (x : ListAt h a xs) : h.NoDictAt (.ref a) := by obtain ⟨_, e⟩ := x; exact ⟨_, e, rfl⟩

/-- calling fa lays a value at the end of the list at ka -/
noncomputable def AppendF (prog : Program) (w : World) (g : Heap) (fa ka : Addr) : Prop :=
  ∀ (A : Around) (s : Shared) (xs : List Value) (v : Value) (Q E : Value → Shared → Prop), A.depth < 990 → s.heap.NoLimit → Kp g s.heap → ListAt s.heap ka xs → xs.length ≤ 1000 →
    (∀ h' tk', (∀ b o, b ≠ ka → s.heap.get? b = some o → h'.get? b = some o) → ListAt h' ka (xs ++ [v]) → Q .none { s with heap := h', toks := tk' }) → wpAny (model prog w) A (call (.ref fa) [v]) Q E s
/-- calling fi is calling _law_texts with da and ka -/
noncomputable def ItertextF (prog : Program) (w : World) (g : Heap) (fi da ka : Addr) : Prop :=
  ∀ (A : Around) (s : Shared) (Q E : Value → Shared → Prop), A.depth < 990 → (hd.heap_1 w.params).In s.heap → s.heap.NoLimit → (∃ mg, s.heap.Ns mainGlobals mg ∧ mg "_law_texts" = some (.ref 120)) → Kp g s.heap →
    (∀ env h₁ tk₁, Kp s.heap h₁ → wpAny (model prog w) (A.deeper env) (call (.ref 120) [.ref da, .ref ka]) Q (fun _ _ => False) { s with heap := h₁, toks := tk₁ }) → wpAny (model prog w) A (call (.ref fi) []) Q E s
noncomputable def FnO (g : Heap) (f : Addr) : Prop := ∃ o fd, g.get? f = some o ∧ o.data = .func fd
theorem FnO.keeps {g g' : Heap} {f : Addr} (x : FnO g f) (k : Kp g g') : FnO g' f := by obtain ⟨o, fd, a, b⟩ := x; exact ⟨o, fd, k _ _ a, b⟩
/-- what stays of a thing -/
structure Static (prog : Program) (w : World) (g : Heap) (t : Addr) (tag : Str) (vl : Value) (da ka : Addr) : Prop where
  m : ∃ m fa fi, FnAt g t m ∧ (∃ tt, m "tag" = some (.str tag tt)) ∧ m "tail" = some vl ∧ m "attrib" = some (.ref da) ∧ m "kids" = some (.ref ka) ∧ m "append" = some (.ref fa) ∧ m "makeelement" = some (.ref 113) ∧ m "itertext" = some (.ref fi) ∧
    AppendF prog w g fa ka ∧ ItertextF prog w g fi da ka ∧ FnO g fa ∧ FnO g fi
abbrev lamQ : Str := "_law_thing" ++ ".<locals>." ++ "<lambda>"
theorem noCell {l : List (Str × NameKind)} (h : (l.all fun x => !(x.2 == .cell)) = true) : ∀ x ∈ l, x.2 ≠ .cell := fun x hx q => by
  have := List.all_eq_true.mp h x hx
  rw [q] at this; cases this
theorem appendF_of {prog : Program} {w : World} {g : Heap} {n1 n2 : Str} {fa ka ck : Addr} {o oc : Obj} {fd : FuncData} {p1 p2 p3 p4 : Pos}
    (ho : g.get? fa = some o) (hdt : o.data = .func fd) (hb : fd.body = .expr (.Call (.Attribute (.Name n1 p1) "append" p2) [.Name n2 p3] [] p4)) (hcd : g.CodeRec fd.code fd.qualname)
    (hco : fd.scope.isCoroutine = false) (hgen : fd.scope.isGenerator = false) (hk : fd.scope.kind = .function) (hbind : ∀ v, bindArgs fd ⟨[v], []⟩ = pure [(n2, v)]) (hcell : (fd.scope.names.all fun x => !(x.2 == .cell)) = true)
    (hn1 : fd.scope.names.lookup n2 = some .local) (hn2 : fd.scope.names.lookup n1 = some .free) (hcl : fd.closure.lookup n1 = some ck) (hck : g.get? ck = some oc) (hoc : oc.data = .cell (some (.ref ka)))
    (hline : (p2.endLine == p4.line) = true) (d1 : (n1 == ("__debug__" : Str)) = false := by decide) (d2 : (n1 == ("__classdict__" : Str)) = false := by decide) (d3 : (n2 == ("__debug__" : Str)) = false := by decide) : AppendF prog w g fa ka := by
  intro A s xs v Q E hroom hlim kg hl hx ret
  refine lam_enter (kg _ _ ho) hdt hb (hcd.keeps kg) hlim (Nat.lt_trans hroom (by decide)) hco hgen hk (hbind v) (noCell hcell) (fun y hy => by rw [List.mem_singleton.mp hy]; exact hn1) fun L h₁ tk₁ F => ?_
  refine Call_method1 rfl rfl hline ?_
  have e1 : (lamEnv fd L fa).kindOf n1 = some .free := hn2
  have e2 : (lamEnv fd L fa).cells.lookup n1 = some ck := hcl
  have e3 : (lamEnv fd L fa).kindOf n2 = some .local := hn1
  refine Ev.free (h := h₁) (F.keep _ _ (kg _ _ hck)) hoc hk e1 e2 d1 d2 _ _ _ rfl fun u tk₂ e => ?_
  subst e
  have hl₁ := hl.keeps F.keep
  refine ⟨"list", "list.append", PySem.F.plainAttrs_list, slot_list_append, type_list_append, hl₁.isList.typeIs, fun a e => by cases e; exact hl₁.noDict, ?_⟩
  refine Calls.callWith_builtin rfl (Calls.evalArgs_plain (Calls.spliced_cons ((Ev.local (h := h₁) F.ns (v := v) (by simp) hk e3 d3) _ _ _ rfl fun u tk₃ e => Calls.spliced_nil ?_)))
  subst e
  obtain ⟨n, eo⟩ := hl₁
  refine append_at (hsz := by rw [List.size_toArray]; exact Nat.le_trans hx (by rw [sizeLine_eq]; decide)) eo fun h' hs' hD => ?_
  refine ret h' _ (fun b o hb e => hs'.extBut b o hb (F.keep _ _ e)) ⟨n + 1, ?_⟩
  rw [hD, List.push_toArray]

theorem itertextF_of {prog : Program} {w : World} {g : Heap} {fi da ka ck ca : Addr} {o oc oa : Obj} {fd : FuncData} {p1 p2 p3 p4 : Pos}
    (ho : g.get? fi = some o) (hdt : o.data = .func fd) (hb : fd.body = .expr (.Call (.Name "_law_texts" p1) [.Name "attrib" p2, .Name "kids" p3] [] p4)) (hcd : g.CodeRec fd.code fd.qualname)
    (hco : fd.scope.isCoroutine = false) (hgen : fd.scope.isGenerator = false) (hk : fd.scope.kind = .function) (hbind : bindArgs fd ⟨[], []⟩ = pure []) (hcell : (fd.scope.names.all fun x => !(x.2 == .cell)) = true)
    (hgl : fd.globals = mainGlobals) (hn0 : fd.scope.names.lookup ("_law_texts" : Str) = some .globalImplicit) (hn1 : fd.scope.names.lookup ("attrib" : Str) = some .free) (hn2 : fd.scope.names.lookup ("kids" : Str) = some .free) (hcl : fd.closure.lookup ("kids" : Str) = some ck) (hck : g.get? ck = some oc) (hoc : oc.data = .cell (some (.ref ka)))
    (hcl' : fd.closure.lookup ("attrib" : Str) = some ca) (hca : g.get? ca = some oa) (hoa : oa.data = .cell (some (.ref da)))
    (hfn : ∀ P, ∃ o fd, (hd.heap_1 P).lookup 120 = some o ∧ o.data = .func fd) : ItertextF prog w g fi da ka := by
  intro A s Q E hroom X hlim hG kg ret
  obtain ⟨mg, hng, hmg⟩ := hG
  obtain ⟨o', fd', hlk, hdat⟩ := hfn w.params
  refine lam_enter (kg _ _ ho) hdt hb (hcd.keeps kg) hlim (Nat.lt_trans hroom (by decide)) hco hgen hk hbind (noCell hcell) (fun y hy => by cases hy) fun L h₁ tk₁ F => ?_
  have e0 : (lamEnv fd L fi).kindOf "_law_texts" = some .globalImplicit := hn0
  have e1 : (lamEnv fd L fi).kindOf "kids" = some .free := hn2
  have e2 : (lamEnv fd L fi).cells.lookup ("kids" : Str) = some ck := hcl
  have e3 : (lamEnv fd L fi).kindOf "attrib" = some .free := hn1
  have e4 : (lamEnv fd L fi).cells.lookup ("attrib" : Str) = some ca := hcl'
  refine Call_Name2 ?_
  refine Name_function_global (s := { s with heap := h₁, toks := tk₁ }) (env := lamEnv fd L fi) hk e0 (loadGlobal_global (env := lamEnv fd L fi) (s := { s with heap := h₁, toks := tk₁ }) (by show h₁.Ns fd.globals mg; rw [hgl]; exact hng.keeps F.keep) hmg ?_)
  refine Calls.callWith_function (o := o') (fd := fd') (Calls.evalArgs_plain (Calls.spliced_cons ((Ev.free (h := h₁) (F.keep _ _ (kg _ _ hca)) hoa hk e3 e4 (by decide) (by decide)) _ _ _ rfl fun u tk₂ e => Calls.spliced_cons ((Ev.free (h := h₁) (F.keep _ _ (kg _ _ hck)) hoc hk e1 e2 (by decide) (by decide)) _ _ _ rfl fun u' tk₃ e' => Calls.spliced_nil ?_))))
  subst e e'
  exact ⟨⟨F.keep _ _ (X _ _ hlk), hdat⟩, ret _ h₁ tk₃ F.keep⟩
example : True := by k_with_none; trivial
example : True := by
  k_with "mine enter0" => (
      refine' enter ?kX ?kT ?k6 ?k7 ?k8 ?k9 ?kB ?_ ?c2 ?c3 ?c4 ?c5
      (case kX => assumption)
      (case kT => exact Top.nolimit (by assumption))
      (case k6 => k_is)
      (case k7 => k_is)
      (case k8 => decide)
      (case k9 => first | exact BindsTo.of_eq rfl | exact kp_binds (by assumption) (fun _ => rfl))
      (case c5 => decide)
      (case kB => exact locs rfl)
      (case c2 => exact rfl)
      (case c3 => exact rfl)
      (case c4 => exact rfl))
  k_with "mine enterC0" => (
      refine' enterC ?kX ?kT ?k6 ?k7 ?k8 ?k9 ?kB ?kD ?_ ?c2 ?c3 ?c4
      (case kX => assumption)
      (case kT => exact Top.nolimit (by assumption))
      (case k6 => k_is)
      (case k7 => k_is)
      (case k8 => decide)
      (case k9 => first | exact BindsTo.of_eq rfl | exact kp_binds (by assumption) (fun _ => rfl))
      (case kB => exact rfl)
      (case kD => decide +kernel)
      (case c2 => exact rfl)
      (case c3 => exact rfl)
      (case c4 => exact rfl))
  k_with "mine enterH" => (
      (case k6 => k_is)
      (case k7 => k_is)
      (case k8 => decide)
      (case k9 => first | exact fun _ => BindsTo.of_eq rfl | exact fun X' => kp_binds X' (fun _ => rfl))
      (case kB => exact rfl)
      (case kD => decide +kernel)
      (case c2 => exact rfl)
      (case c3 => exact rfl)
      (case c4 => exact rfl))
  k_with "mine tl" => (with_reducible first | exact tl_tag | exact tl_tail | exact tl_attrib | exact tl_kids | exact tl_append | exact tl_makeelement | exact tl_itertext)
  k_with "mine fnset0" => (
      refine' fnset0 ?F ?N ?U ?hc ?hdc ?hB ?_
      (case F => k_asm)
      (case N => k_asm)
      (case U => k_updF)
      (case hc => rfl)
      (case hdc => intro c q; cases q)
      (case hB => walk_at "mine tl"))
  k_with "mine fnset1" => (
      refine' fnset1 ?F ?N ?hf ?U ?hD ?hc ?hdf ?hdc ?hB ?hw ?hsz ?_
      (case F => k_asm)
      (case N => k_asm)
      (case hf => k_mem)
      (case U => k_updF)
      (case hD => with_reducible assumption)
      (case hc => rfl)
      (case hdf => first | k_ne | omega)
      (case hdc => intro c q; cases q)
      (case hB => walk_at "mine tl")
      (case hw => within_ways)
      (case hsz => decide))
  k_with "mine ne" => (with_reducible first
      | exact Nat.ne_of_lt (by assumption)
      | exact Nat.ne_of_lt (And.left (by assumption))
      | exact Nat.ne_of_lt (And.left (And.right (by assumption)))
      | exact Nat.ne_of_lt (And.right (by assumption))
      | exact Nat.ne_of_lt (And.left (And.right (And.right (by assumption))))
      | exact Nat.ne_of_lt (And.right (And.right (by assumption)))
      | exact Nat.ne_of_lt (And.left (And.right (And.right (And.right (by assumption)))))
      | exact Nat.ne_of_lt (And.right (And.right (And.right (by assumption))))
      | exact Nat.ne_of_lt (And.left (And.right (And.right (And.right (And.right (by assumption))))))
      | exact Nat.ne_of_lt (And.right (And.right (And.right (And.right (by assumption)))))
      | exact Nat.ne_of_lt (And.left (And.right (And.right (And.right (And.right (And.right (by assumption)))))))
      | exact Nat.ne_of_lt (And.right (And.right (And.right (And.right (And.right (by assumption))))))
      | exact Nat.ne_of_lt (And.left (And.right (And.right (And.right (And.right (And.right (And.right (by assumption))))))))
      | exact Nat.ne_of_lt (And.right (And.right (And.right (And.right (And.right (And.right (by assumption)))))))
      | exact Nat.ne_of_lt (And.left (And.right (And.right (And.right (And.right (And.right (And.right (And.right (by assumption)))))))))
      | exact Nat.ne_of_lt (And.right (And.right (And.right (And.right (And.right (And.right (And.right (by assumption))))))))
      | exact Nat.ne_of_lt (And.left (And.right (And.right (And.right (And.right (And.right (And.right (And.right (And.right (by assumption))))))))))
      | exact Nat.ne_of_lt (And.right (And.right (And.right (And.right (And.right (And.right (And.right (And.right (by assumption)))))))))
      | exact Nat.ne_of_lt (And.left (And.right (And.right (And.right (And.right (And.right (And.right (And.right (And.right (And.right (by assumption)))))))))))
      | exact Nat.ne_of_lt (And.right (And.right (And.right (And.right (And.right (And.right (And.right (And.right (And.right (by assumption))))))))))
      | exact Nat.ne_of_gt (by assumption)
      | exact Nat.ne_of_gt (And.left (by assumption))
      | exact Nat.ne_of_gt (And.left (And.right (by assumption)))
      | exact Nat.ne_of_gt (And.right (by assumption))
      | exact Nat.ne_of_gt (And.left (And.right (And.right (by assumption))))
      | exact Nat.ne_of_gt (And.right (And.right (by assumption)))
      | exact Nat.ne_of_gt (And.left (And.right (And.right (And.right (by assumption)))))
      | exact Nat.ne_of_gt (And.right (And.right (And.right (by assumption))))
      | exact Nat.ne_of_gt (And.left (And.right (And.right (And.right (And.right (by assumption))))))
      | exact Nat.ne_of_gt (And.right (And.right (And.right (And.right (by assumption)))))
      | exact Nat.ne_of_gt (And.left (And.right (And.right (And.right (And.right (And.right (by assumption)))))))
      | exact Nat.ne_of_gt (And.right (And.right (And.right (And.right (And.right (by assumption))))))
      | exact Nat.ne_of_gt (And.left (And.right (And.right (And.right (And.right (And.right (And.right (by assumption))))))))
      | exact Nat.ne_of_gt (And.right (And.right (And.right (And.right (And.right (And.right (by assumption)))))))
      | exact Nat.ne_of_gt (And.left (And.right (And.right (And.right (And.right (And.right (And.right (And.right (by assumption)))))))))
      | exact Nat.ne_of_gt (And.right (And.right (And.right (And.right (And.right (And.right (And.right (by assumption))))))))
      | exact Nat.ne_of_gt (And.left (And.right (And.right (And.right (And.right (And.right (And.right (And.right (And.right (by assumption))))))))))
      | exact Nat.ne_of_gt (And.right (And.right (And.right (And.right (And.right (And.right (And.right (And.right (by assumption)))))))))
      | exact Nat.ne_of_gt (And.left (And.right (And.right (And.right (And.right (And.right (And.right (And.right (And.right (And.right (by assumption)))))))))))
      | exact Nat.ne_of_gt (And.right (And.right (And.right (And.right (And.right (And.right (And.right (And.right (And.right (by assumption)))))))))))
  trivial
theorem cd112 (P : Params) : codeHdIn (hd.heap_1 P) 112 108 = true := by kernel_rfl
theorem fn120 (P : Params) : ∃ o fd, (hd.heap_1 P).lookup 120 = some o ∧ o.data = .func fd := ⟨_, _, rfl, rfl⟩
abbrev attKvs (vt vn vl : Value) : List (Str × Value) := [("text", vt), ("times", vn), ("tail", vl)]
theorem attTail {prog : Program} {w : World} {A : Around} {E : Value → Shared → Prop} {s : Shared} {value slice : Expr} {da : Addr} {kvs : List (Str × Value)} {x : Str} {t : Tok} {v : Value} {Q : Value → Shared → Prop} (hd : s.heap.DictOf (strKind prog w) da kvs) (hv : valueAt kvs x = some v)
    (h : Q v { s with toks := s.toks + 1 }) (hs : subscripted slice false (.ref da) (.str x t) = operate [.ref da, .str x t] (getItem (.ref da) (.str x t)) := by with_unfolding_all rfl) :
    wpAny (model prog w) A (subscriptTail value slice (.ref da) (.str x t)) Q E s :=
  tail_any hd.typeIs slot_dict_getitem.lookup (wpAny_getItem_of (strKind_is _ _ _ _) hd.mapOf hv h) hs
/-- the filled table of _law_thing's codes -/
abbrev tab3 (c1 c2 c3 : Addr) : Array Value := #[rawInt 84, rawInt 23, .ref c1, rawInt 89, rawInt 19, .ref c2, rawInt 91, rawInt 21, .ref c3]
noncomputable def Tab3 (h : Heap) (c1 c2 c3 : Addr) : Prop := h.get? 108 = some (tabObj (tab3 c1 c2 c3)) ∧ h.CodeRec (.ref c1) lamQ ∧ h.CodeRec (.ref c2) lamQ ∧ h.CodeRec (.ref c3) lamQ
theorem Tab3.keeps {h h' : Heap} {c1 c2 c3 : Addr} (x : Tab3 h c1 c2 c3) (k : Kp h h') : Tab3 h' c1 c2 c3 := ⟨k _ _ x.1, x.2.1.keeps k, x.2.2.1.keeps k, x.2.2.2.keeps k⟩
/-- a function, a record with a name, or a cell that holds an object -/
noncomputable def Calm (o : Obj) : Prop := (∃ fd, o.data = .func fd) ∨ (∃ vs : Array Value, ∃ x t, o.data = .fields vs ∧ vs[1]? = some (.str x t)) ∨ ∃ r, o.data = .cell (some (.ref r))
theorem noLists_only {h : Heap} {l : List Addr} {dt : Addr} {m : Str → Option Value} (H : ∀ a ∈ l, a = dt ∨ ∃ o, h.get? a = some o ∧ Calm o) (D : h.Ns dt m) (tg : m "tag" ≠ none) : NoLists (only h l) := by
  have K : ∀ a o, (only h l).get? a = some o → (a = dt ∧ ∃ es n, o.data = .dict es n) ∨ Calm o := fun a o e => by
    rcases H a (only_in e) with q | ⟨o', e', c⟩
    · obtain ⟨o2, es, ep, e2, d2, _⟩ := D
      rw [← q, only_of e] at e2; cases e2; exact .inl ⟨q, _, _, d2⟩
    · rw [only_of e] at e'; cases e'; exact .inr c
  refine ⟨fun a o xs n e q => ?_, fun a o vs e q => ?_, fun a m' n q => ?_, fun a o v e q => ?_⟩
  · rcases K a o e with ⟨_, _, _, d⟩ | ⟨_, d⟩ | ⟨_, _, _, d, _⟩ | ⟨_, d⟩ <;> rw [d] at q <;> cases q
  · rcases K a o e with ⟨_, _, _, d⟩ | ⟨_, d⟩ | ⟨_, _, _, d, z⟩ | ⟨_, d⟩ <;> rw [d] at q <;> cases q
    exact ⟨_, _, z⟩
  · obtain ⟨o, es, ep, e, d', _, hm'⟩ := n
    rcases K a o e with ⟨e1, _⟩ | ⟨_, d⟩ | ⟨_, _, _, d, _⟩ | ⟨_, d⟩
    · obtain ⟨o2, es2, ep2, e2, d2, _, hm2⟩ := D
      rw [← e1, only_of e] at e2; cases e2
      rw [d'] at d2; cases d2
      exact tg ((hm2 _).symm.trans ((hm' _).trans q))
    all_goals (rw [d] at d'; cases d')
  · rcases K a o e with ⟨_, _, _, d⟩ | ⟨_, d⟩ | ⟨_, _, _, d, _⟩ | ⟨_, d⟩ <;> rw [d] at q <;> cases q
    exact ⟨_, rfl⟩
theorem noLists_calm {h : Heap} {l : List Addr} (H : ∀ a ∈ l, ∃ o, h.get? a = some o ∧ Calm o) : NoLists (only h l) := by
  have K : ∀ a o, (only h l).get? a = some o → Calm o := fun a o e => by
    obtain ⟨o', e', c⟩ := H a (only_in e)
    rw [only_of e] at e'; cases e'; exact c
  refine ⟨fun a o xs n e q => ?_, fun a o vs e q => ?_, fun a m' n q => ?_, fun a o v e q => ?_⟩
  · rcases K a o e with ⟨_, d⟩ | ⟨_, _, _, d, _⟩ | ⟨_, d⟩ <;> rw [d] at q <;> cases q
  · rcases K a o e with ⟨_, d⟩ | ⟨_, _, _, d, z⟩ | ⟨_, d⟩ <;> rw [d] at q <;> cases q
    exact ⟨_, _, z⟩
  · obtain ⟨o, es, ep, e, d', _⟩ := n
    rcases K a o e with ⟨_, d⟩ | ⟨_, _, _, d, _⟩ | ⟨_, d⟩ <;> rw [d] at d' <;> cases d'
  · rcases K a o e with ⟨_, d⟩ | ⟨_, _, _, d, _⟩ | ⟨_, d⟩ <;> rw [d] at q <;> cases q
    exact ⟨_, rfl⟩
theorem mem3 {P : Addr → Prop} {a b c : Addr} (x1 : P a) (x2 : P b) (x3 : P c) : ∀ x ∈ [a, b, c], P x := by
  intro x hx
  simp only [List.mem_cons, List.not_mem_nil, or_false] at hx
  rcases hx with q | q | q <;> rw [q] <;> assumption
theorem codeRec_ne {h : Heap} {c P : Addr} {q : Str} {v : Array Value} (r : h.CodeRec (.ref c) q) (e : h.get? P = some (tabObj v)) (hv : ∀ x t, v[1]? ≠ some (.str x t)) : c ≠ P := by
  obtain ⟨c', oc, vs, t, e1, e2, e3, e4⟩ := r
  cases e1
  rintro rfl
  rw [e] at e2; cases e2; cases e3
  exact hv _ _ e4
theorem codeRec_to {h h' : Heap} {c : Addr} {q : Str} (r : h.CodeRec (.ref c) q) (k : ∀ o, h.get? c = some o → h'.get? c = some o) : ∃ oc vs t, h'.get? c = some oc ∧ oc.data = .fields vs ∧ (vs[1]? : Option Value) = some (.str q t) := by
  obtain ⟨c', oc, vs, t, e1, e2, e3, e4⟩ := r
  cases e1
  exact ⟨oc, vs, t, k _ e2, e3, e4⟩
theorem newOr_only {h s : Heap} {l : List Addr} (H : ∀ a ∈ l, s.get? a = none ∨ ∃ o vs, h.get? a = some o ∧ o.data = .fields vs) : NewOr (only h l) s := fun a o e => by
  rcases H a (only_in e) with q | ⟨o', vs, e', d⟩
  · exact .inl q
  · rw [only_of e] at e'; cases e'; exact .inr ⟨_, d⟩
theorem mem8 {P : Addr → Prop} {a b c d e f g h : Addr} (x1 : P a) (x2 : P b) (x3 : P c) (x4 : P d) (x5 : P e) (x6 : P f) (x7 : P g) (x8 : P h) : ∀ x ∈ [a, b, c, d, e, f, g, h], P x := by
  intro x hx
  simp only [List.mem_cons, List.not_mem_nil, or_false] at hx
  rcases hx with q | q | q | q | q | q | q | q <;> rw [q] <;> assumption
theorem fresh_of {s g h : Heap} {a : Addr} {o : Obj} {v : Array Value} (up : ∀ b o, b ≠ 108 → s.get? b = some o → h.get? b = some o) (up' : ∀ b o, s.get? b = some o → b ∉ ([108] : List Nat) → g.get? b = some o) (n : g.get? a = none) (e : h.get? a = some o) (tb : h.get? 108 = some (tabObj v)) (d : ∀ vs, o.data ≠ .fields vs) : s.get? a = none := by
  cases q : s.get? a with
  | none => rfl
  | some o' =>
    have := up' a o' q fun hm => by
      rw [List.mem_singleton.mp hm, tb] at e; cases e; exact d _ rfl
    rw [n] at this; cases this
theorem thing_spec1 {prog : Program} {w : World} {p loose mean mg mb} {s : Shared} {b₀ : Heap} {tag : Str} {tt : Tok} {da : Addr} {Q E : Value → Shared → Prop} {vt vn vl : Value}
    (X : (hd.heap_1 w.params).In b₀) (T : Top p loose mean mg mb b₀) (k₀ : Kp b₀ s.heap) (h108 : s.heap.get? 108 = some (tabObj #[])) (n108 : b₀.get? 108 = none)
    (hA : s.heap.DictOf (strKind prog w) da (attKvs vt vn vl))
    (ret : ∀ t ka g h' tk' c1 c2 c3, (∀ b o, b ≠ 108 → s.heap.get? b = some o → h'.get? b = some o) → Tab3 h' c1 c2 c3 → Kp g h' → NoLists g → NewOr g s.heap → Static prog w g t tag vl da ka → ListAt h' ka [] → s.heap.objs.size ≤ ka → s.heap.objs.size ≤ t → Q (.ref t) { s with heap := h', toks := tk' }) :
    wpAny (model prog w) (AX 700 5000) (call (.ref 113) [.str tag tt, .ref da]) Q E s := by
  k_with "mine setattr" => (walk_at "mine fnset")
  k_with "mine dsub" => (refine attTail (Heap.DictOf.keep (by assumption) (Fr.keep (by assumption))) (v := vl) rfl ?_)
  refine' enterH (hid := [(108, tabObj #[])]) X T k₀ (fun q hq => by rw [List.mem_singleton.mp hq]; exact ⟨h108, n108⟩) ?k6 ?k7 ?k8 ?k9 ?kB ?kD ?_ ?c2 ?c3 ?c4
  walk_at "mine enterH"
  intro g L₁ h₁ tk₁ cells₁ X₁ T₁ up dn hL F₁ N₁ Y₁
  k_cells Y₁
  simp only [List.cons_append, List.nil_append] at N₁
  (try dsimp only)
  have C₁ : CodeHd g 112 108 := codeHd_of_K X₁ (cd112 _)
  have l108 : (108 : Nat) < L₁ := by rw [hL]; exact Heap.lt_size h108
  have hA₁ : g.DictOf (strKind prog w) da (attKvs vt vn vl) := hA.at fun o e => up _ o e (by
    intro hm
    obtain ⟨o', es, ep, e', x, _⟩ := hA
    rw [List.mem_singleton.mp hm, h108] at e'
    cases e'
    exact absurd x.1 (by intro q; cases q))
  rename_i oK oA dK dA
  k_steps
  rename_i lk _ lA ft ct oct vct tct _ _ _ ect1 ect2 lB lC Dt _ _ _ _ oKc eKc _ _ _ dt _ _ _ _ _ _ _ _ _ _ _ _ _ _ _ _ _ _ _ _ _ _ _ _ _ fa ca oca vca tca _ _ _ _ _ eca1 eca2 _ _ _ _ _ _ _ _ _ _ _ _ _ _ fi ci oci vci tci _ _ _ _ _ eci1 eci2 _ _ odF hF tkF FF NF DF
  dsimp only
  have h_fi := (NF _ (.head _)).1
  have n_fi := (NF _ (.head _)).2.2
  have h_ci := (NF _ (.tail _ (.head _))).1
  have h_fa := (NF _ (.tail _ (.tail _ (.head _)))).1
  have n_fa := (NF _ (.tail _ (.tail _ (.head _)))).2.2
  have h_ca := (NF _ (.tail _ (.tail _ (.tail _ (.head _))))).1
  have h_dt := (NF _ (.tail _ (.tail _ (.tail _ (.tail _ (.head _)))))).1
  have n_dt := (NF _ (.tail _ (.tail _ (.tail _ (.tail _ (.head _)))))).2.2
  have h_ft := (NF _ (.tail _ (.tail _ (.tail _ (.tail _ (.tail _ (.tail _ (.head _)))))))).1
  have n_ft := (NF _ (.tail _ (.tail _ (.tail _ (.tail _ (.tail _ (.tail _ (.head _)))))))).2.2
  have h_ct := (NF _ (.tail _ (.tail _ (.tail _ (.tail _ (.tail _ (.tail _ (.tail _ (.head _))))))))).1
  have h_lk := (NF _ (.tail _ (.tail _ (.tail _ (.tail _ (.tail _ (.tail _ (.tail _ (.tail _ (.head _)))))))))).1
  have h_cK := (NF _ (.tail _ (.tail _ (.tail _ (.tail _ (.tail _ (.tail _ (.tail _ (.tail _ (.tail _ (.head _))))))))))).1
  have n_cK := (NF _ (.tail _ (.tail _ (.tail _ (.tail _ (.tail _ (.tail _ (.tail _ (.tail _ (.tail _ (.head _))))))))))).2.2
  have h_cA := (NF _ (.tail _ (.tail _ (.tail _ (.tail _ (.tail _ (.tail _ (.tail _ (.tail _ (.tail _ (.tail _ (.head _)))))))))))).1
  have n_cA := (NF _ (.tail _ (.tail _ (.tail _ (.tail _ (.tail _ (.tail _ (.tail _ (.tail _ (.tail _ (.tail _ (.head _)))))))))))).2.2
  have h_tb := (NF _ (.tail _ (.tail _ (.tail _ (.tail _ (.tail _ (.tail _ (.tail _ (.tail _ (.tail _ (.tail _ (.tail _ (.head _))))))))))))).1
  have up' : ∀ b o, b ≠ 108 → s.heap.get? b = some o → hF.get? b = some o := fun b o hb e => FF.keep _ _ (up b o e (fun hm => hb (List.mem_singleton.mp hm)))
  have sG : Static prog w (only hF [ft, dt, fa, ca, fi, ci, L₁ + 1 + 1, L₁ + 1]) ft tag vl da lk := by
    refine ⟨_, fa, fi, ⟨_, dt, _, only_get h_ft (by simp), rfl, rfl, rfl, (DF.ns1 (only_get h_dt (by simp))).ns⟩, ⟨tt, rfl⟩, rfl, rfl, rfl, rfl, rfl, rfl, ?_, ?_, ⟨_, _, only_get h_fa (by simp), rfl⟩, ⟨_, _, only_get h_fi (by simp), rfl⟩⟩
    · exact appendF_of (only_get h_fa (by simp)) rfl rfl ⟨ca, oca, vca, tca, rfl, only_get h_ca (by simp), eca1, eca2⟩ rfl rfl rfl (fun _ => rfl) rfl rfl rfl rfl (only_get h_cK (by simp)) eKc rfl
    · exact itertextF_of (only_get h_fi (by simp)) rfl rfl ⟨ci, oci, vci, tci, rfl, only_get h_ci (by simp), eci1, eci2⟩ rfl rfl rfl rfl rfl rfl rfl rfl rfl rfl (only_get h_cK (by simp)) eKc rfl (only_get h_cA (by simp)) dA fn120
  have nG : NoLists (only hF [ft, dt, fa, ca, fi, ci, L₁ + 1 + 1, L₁ + 1]) := noLists_only (mem8 (.inr ⟨_, h_ft, .inl ⟨_, rfl⟩⟩) (.inl rfl) (.inr ⟨_, h_fa, .inl ⟨_, rfl⟩⟩) (.inr ⟨_, h_ca, .inr (.inl ⟨_, _, _, eca1, eca2⟩)⟩) (.inr ⟨_, h_fi, .inl ⟨_, rfl⟩⟩) (.inr ⟨_, h_ci, .inr (.inl ⟨_, _, _, eci1, eci2⟩)⟩) (.inr ⟨_, h_cK, .inr (.inr ⟨_, eKc⟩)⟩) (.inr ⟨_, h_cA, .inr (.inr ⟨_, dA⟩)⟩)) (DF.ns1 h_dt).ns (Option.some_ne_none (Value.str tag tt))
  have wG : NewOr (only hF [ft, dt, fa, ca, fi, ci, L₁ + 1 + 1, L₁ + 1]) s.heap := newOr_only (mem8 (.inl (fresh_of up' up n_ft h_ft h_tb (fun _ => nofun))) (.inl (fresh_of up' up n_dt h_dt h_tb (fun _ q => by obtain ⟨es, ep, z, _⟩ := DF; rw [z] at q; cases q))) (.inl (fresh_of up' up n_fa h_fa h_tb (fun _ => nofun))) (.inr ⟨_, _, h_ca, eca1⟩) (.inl (fresh_of up' up n_fi h_fi h_tb (fun _ => nofun))) (.inr ⟨_, _, h_ci, eci1⟩) (.inl (fresh_of up' up n_cK h_cK h_tb (fun _ q => by rw [eKc] at q; cases q))) (.inl (fresh_of up' up n_cA h_cA h_tb (fun _ q => by rw [dA] at q; cases q))))
  have zlk : s.heap.objs.size ≤ lk := Nat.le_trans (Nat.le_of_eq hL.symm) (Nat.le_of_lt (Nat.lt_of_succ_lt (Nat.lt_of_succ_lt lA.1)))
  have zft : s.heap.objs.size ≤ ft := Nat.le_trans zlk (Nat.le_of_lt (Nat.lt_trans lB.1 lC))
  exact ret ft lk _ hF tkF ct ca ci up' ⟨h_tb, ⟨ct, oct, vct, tct, rfl, h_ct, ect1, ect2⟩, ⟨ca, oca, vca, tca, rfl, h_ca, eca1, eca2⟩, ⟨ci, oci, vci, tci, rfl, h_ci, eci1, eci2⟩⟩
    (fun b o e => only_of e) nG wG sG ⟨_, h_lk⟩ zlk zft
theorem thing_spec2 {prog : Program} {w : World} {p loose mean mg mb} {s : Shared} {b₀ : Heap} {tag : Str} {tt : Tok} {da : Addr} {c1 c2 c3 : Addr} {Q E : Value → Shared → Prop} {vt vn vl : Value}
    (X : (hd.heap_1 w.params).In b₀) (T : Top p loose mean mg mb b₀) (k₀ : Kp b₀ s.heap) (h108 : Tab3 s.heap c1 c2 c3) (n108 : b₀.get? 108 = none)
    (hA : s.heap.DictOf (strKind prog w) da (attKvs vt vn vl))
    (ret : ∀ t ka g h' tk', Kp s.heap h' → Kp g h' → NoLists g → NewOr g s.heap → Static prog w g t tag vl da ka → ListAt h' ka [] → s.heap.objs.size ≤ ka → s.heap.objs.size ≤ t → Q (.ref t) { s with heap := h', toks := tk' }) :
    wpAny (model prog w) (AX 700 5000) (call (.ref 113) [.str tag tt, .ref da]) Q E s := by
  k_with "mine setattr" => (walk_at "mine fnset")
  k_with "mine dsub" => (refine attTail (Heap.DictOf.keep (by assumption) (Fr.keep (by assumption))) (v := vl) rfl ?_)
  refine' enterH (hid := [(108, tabObj (tab3 c1 c2 c3))]) X T k₀ (fun q hq => by rw [List.mem_singleton.mp hq]; exact ⟨h108.1, n108⟩) ?k6 ?k7 ?k8 ?k9 ?kB ?kD ?_ ?c2 ?c3 ?c4
  walk_at "mine enterH"
  intro g L₁ h₁ tk₁ cells₁ X₁ T₁ up dn hL F₁ N₁ Y₁
  k_cells Y₁
  simp only [List.cons_append, List.nil_append] at N₁
  (try dsimp only)
  have C₁ : CodeHd g 112 108 := codeHd_of_K X₁ (cd112 _)
  have l108 : (108 : Nat) < L₁ := by rw [hL]; exact Heap.lt_size h108.1
  have hA₁ : g.DictOf (strKind prog w) da (attKvs vt vn vl) := hA.at fun o e => up _ o e (by
    intro hm
    obtain ⟨o', es, ep, e', x, _⟩ := hA
    rw [List.mem_singleton.mp hm, h108.1] at e'
    cases e'
    exact absurd x.1 (by intro q; cases q))
  rename_i oK oA dK dA
  k_steps
  rename_i lk _ lA ft _ _ _ lB Dt _ _ _ _ oKc eKc _ _ _ dt _ _ _ _ _ _ _ _ _ _ _ _ _ _ _ _ _ _ _ _ _ _ _ _ _ fa _ _ _ _ _ _ _ _ _ _ _ _ _ _ _ _ _ _ fi _ _ _ _ _ _ odF hF tkF FF NF DF
  dsimp only
  have h_fi := (NF _ (.head _)).1
  have n_fi := (NF _ (.head _)).2.2
  have h_fa := (NF _ (.tail _ (.head _))).1
  have n_fa := (NF _ (.tail _ (.head _))).2.2
  have h_dt := (NF _ (.tail _ (.tail _ (.head _)))).1
  have n_dt := (NF _ (.tail _ (.tail _ (.head _)))).2.2
  have h_ft := (NF _ (.tail _ (.tail _ (.tail _ (.tail _ (.head _)))))).1
  have n_ft := (NF _ (.tail _ (.tail _ (.tail _ (.tail _ (.head _)))))).2.2
  have h_lk := (NF _ (.tail _ (.tail _ (.tail _ (.tail _ (.tail _ (.head _))))))).1
  have h_cK := (NF _ (.tail _ (.tail _ (.tail _ (.tail _ (.tail _ (.tail _ (.head _)))))))).1
  have n_cK := (NF _ (.tail _ (.tail _ (.tail _ (.tail _ (.tail _ (.tail _ (.head _)))))))).2.2
  have h_cA := (NF _ (.tail _ (.tail _ (.tail _ (.tail _ (.tail _ (.tail _ (.tail _ (.head _))))))))).1
  have n_cA := (NF _ (.tail _ (.tail _ (.tail _ (.tail _ (.tail _ (.tail _ (.tail _ (.head _))))))))).2.2
  have h_tb := (NF _ (.tail _ (.tail _ (.tail _ (.tail _ (.tail _ (.tail _ (.tail _ (.tail _ (.head _)))))))))).1
  have up' : ∀ b o, b ≠ 108 → s.heap.get? b = some o → hF.get? b = some o := fun b o hb e => FF.keep _ _ (up b o e (fun hm => hb (List.mem_singleton.mp hm)))
  obtain ⟨oca, vca, tca, hca, eca1, eca2⟩ := codeRec_to h108.2.2.1 fun o e => up' _ _ (codeRec_ne h108.2.2.1 h108.1 fun x t q => by cases q) e
  obtain ⟨oci, vci, tci, hci, eci1, eci2⟩ := codeRec_to h108.2.2.2 fun o e => up' _ _ (codeRec_ne h108.2.2.2 h108.1 fun x t q => by cases q) e
  have sG : Static prog w (only hF [ft, dt, fa, c2, fi, c3, L₁ + 1 + 1, L₁ + 1]) ft tag vl da lk := by
    refine ⟨_, fa, fi, ⟨_, dt, _, only_get h_ft (by simp), rfl, rfl, rfl, (DF.ns1 (only_get h_dt (by simp))).ns⟩, ⟨tt, rfl⟩, rfl, rfl, rfl, rfl, rfl, rfl, ?_, ?_, ⟨_, _, only_get h_fa (by simp), rfl⟩, ⟨_, _, only_get h_fi (by simp), rfl⟩⟩
    · exact appendF_of (only_get h_fa (by simp)) rfl rfl ⟨c2, oca, vca, tca, rfl, only_get hca (by simp), eca1, eca2⟩ rfl rfl rfl (fun _ => rfl) rfl rfl rfl rfl (only_get h_cK (by simp)) eKc rfl
    · exact itertextF_of (only_get h_fi (by simp)) rfl rfl ⟨c3, oci, vci, tci, rfl, only_get hci (by simp), eci1, eci2⟩ rfl rfl rfl rfl rfl rfl rfl rfl rfl rfl (only_get h_cK (by simp)) eKc rfl (only_get h_cA (by simp)) dA fn120
  have nG : NoLists (only hF [ft, dt, fa, c2, fi, c3, L₁ + 1 + 1, L₁ + 1]) := noLists_only (mem8 (.inr ⟨_, h_ft, .inl ⟨_, rfl⟩⟩) (.inl rfl) (.inr ⟨_, h_fa, .inl ⟨_, rfl⟩⟩) (.inr ⟨_, hca, .inr (.inl ⟨_, _, _, eca1, eca2⟩)⟩) (.inr ⟨_, h_fi, .inl ⟨_, rfl⟩⟩) (.inr ⟨_, hci, .inr (.inl ⟨_, _, _, eci1, eci2⟩)⟩) (.inr ⟨_, h_cK, .inr (.inr ⟨_, eKc⟩)⟩) (.inr ⟨_, h_cA, .inr (.inr ⟨_, dA⟩)⟩)) (DF.ns1 h_dt).ns (Option.some_ne_none (Value.str tag tt))
  have wG : NewOr (only hF [ft, dt, fa, c2, fi, c3, L₁ + 1 + 1, L₁ + 1]) s.heap := newOr_only (mem8 (.inl (fresh_of up' up n_ft h_ft h_tb (fun _ => nofun))) (.inl (fresh_of up' up n_dt h_dt h_tb (fun _ q => by obtain ⟨es, ep, z, _⟩ := DF; rw [z] at q; cases q))) (.inl (fresh_of up' up n_fa h_fa h_tb (fun _ => nofun))) (.inr ⟨_, _, hca, eca1⟩) (.inl (fresh_of up' up n_fi h_fi h_tb (fun _ => nofun))) (.inr ⟨_, _, hci, eci1⟩) (.inl (fresh_of up' up n_cK h_cK h_tb (fun _ q => by rw [eKc] at q; cases q))) (.inl (fresh_of up' up n_cA h_cA h_tb (fun _ q => by rw [dA] at q; cases q))))
  have zlk : s.heap.objs.size ≤ lk := Nat.le_trans (Nat.le_of_eq hL.symm) (Nat.le_of_lt (Nat.lt_of_succ_lt (Nat.lt_of_succ_lt lA.1)))
  have zft : s.heap.objs.size ≤ ft := Nat.le_trans zlk (Nat.le_of_lt lB.1)
  exact ret ft lk _ hF tkF (fun b o e => by
      by_cases hb : b = 108
      · subst hb; rw [h108.1] at e; cases e; exact h_tb
      · exact up' b o hb e)
    (fun b o e => only_of e) nG wG sG ⟨_, h_lk⟩ zlk zft
section
variable {prog : Program} {w : World} {A : Around} {E : Value → Shared → Prop} {s : Shared}
theorem dictPut_pairs {K : Type} [DecidableEq K] {knd : KeyKind prog w K} {d : Addr} {kvs : List (K × Value)} {k : K} {key v : Value} {Q : Unit → Shared → Prop} (hkey : knd.is k key = true) (hm : s.heap.DictOf knd d kvs)
    (hQ : ∀ h', h'.DictOf knd d (stored kvs k v) → Heap.SameBut d s.heap h' → Q () { s with heap := h' })
    (hsz : kvs.length ≤ 1000) :
    wpAny (model prog w) A (dictPut d (knd.hash k) key v) Q E s := by
  obtain ⟨o, es, ep, ho, hc, hd, hk, hp, hn⟩ := hm
  have hes : es.size ≤ sizeLine := by have e1 := hp.length; have e2 : es.toList.length = es.size := by simp
                                      rw [sizeLine_eq]; omega
  unfold dictPut
  refine wpAny_bind (wpAny_dictFind_of hkey ho hd hk ?_)
  have hidx : (es.findIdx? fun e => knd.is k e.key) = kvs.findIdx? fun kv => decide (kv.1 = k) := by
    rw [← hp.findIdx k]; obtain ⟨l⟩ := es; simp
  cases hi : es.findIdx? fun e => knd.is k e.key with
  | some i =>
    refine wpAny_updateDict ho hd (hQ _ ⟨_, _, ep, Heap.get?_update_self _ ho (Obj.isFreed_of_dict (Obj.data_mapDict hd _)),
      hc.mapDict _, Obj.data_mapDict hd _, hk.modify _ _, ?_, ?_⟩ (Heap.SameBut.update ..))
    · rw [stored, if_pos (any_of_findIdx_some (hidx ▸ hi))]
      have hl : (es.toList.findIdx? fun e => knd.is k e.key) = some i := by rw [← hi]; obtain ⟨l⟩ := es; simp
      have := hp.modify hn hl v
      obtain ⟨l⟩ := es
      simpa using this
    · rw [stored, if_pos (any_of_findIdx_some (hidx ▸ hi)), keys_map_store]; exact hn
  | none =>
    have hnot : k ∉ kvs.map (·.1) := not_mem_of_findIdx_none (hidx ▸ hi)
    have hany : ¬ (kvs.any fun kv => decide (kv.1 = k)) = true := by
      rw [List.any_eq_true]; rintro ⟨kv, hkv, he⟩
      exact hnot (List.mem_map.mpr ⟨kv, hkv, of_decide_eq_true he⟩)
    refine wpAny_updateDictKeys (hz := hes) ho hd (hQ _ ⟨_, _, ep + 1, Heap.get?_update_self _ ho (Obj.isFreed_of_dict (Obj.data_mapDictKeys hd _)),
      hc.mapDictKeys _, Obj.data_mapDictKeys hd _, hk.push hkey _, ?_, ?_⟩ (Heap.SameBut.update ..))
    · rw [stored, if_neg hany]
      have := hp.append hkey (knd.hash k) v
      obtain ⟨l⟩ := es
      simpa using this
    · rw [stored, if_neg hany, List.map_append, List.nodup_append]
      refine ⟨hn, by simp, ?_⟩
      intro a ha b hb
      simp only [List.map_cons, List.map_nil, List.mem_singleton] at hb
      subst hb
      exact fun e => hnot (e ▸ ha)

theorem merge_str {d a : Addr} {kvs more : List (Str × Value)} {Q : Unit → Shared → Prop} (hda : @Ne Nat d a) (haS : (a == sysModules) = false)
    (hd : s.heap.DictOf (strKind prog w) d kvs) (ha : s.heap.DictOf (strKind prog w) a more)
    (hQ : ∀ h', h'.DictOf (strKind prog w) d (merged kvs more) → Heap.SameBut d s.heap h' → Q () { s with heap := h' }) (hsz : kvs.length + more.length ≤ 1000) :
    wpAny (model prog w) A (mergeMapping d (.ref a) false) Q E s := by
  refine gg fun P hP => ?_
  obtain ⟨od, esd, epd, hod, hcd, hdd, hkd, hpd, hnd⟩ := id hd
  obtain ⟨oo, eso, epo, hoo, hco, hdo', hko, hpo, hno⟩ := id ha
  refine hP ?_
  clear hP
  have hT : s.TypeIs (.ref a) "dict" := ha.typeIs
  have hlen : more.length = eso.size := by rw [← hpo.length]; simp
  have keys : ∀ e ∈ eso, ∃ x t, e.key = .str x t := fun e he => by
    refine gg fun P hP => ?_
    obtain ⟨k, hk, _⟩ := hko e he
    obtain ⟨t, ht⟩ := Value.isStrOf_shape hk
    refine hP ?_
    clear hP
    exact ⟨k, t, ht⟩
  have loop : wpAny (model prog w) A (do
      let epoch ← dictEpoch a
      forIn (List.range eso.size) PUnit.unit fun i (_ : PUnit) => (do
          let l' ← dictEntries a
          match l'[i]? with
            | some e => do
              holding [e.key, e.val] (dictPut d e.hash e.key e.val)
              let ep' ← dictEpoch a
              if (ep' != epoch) = true then do
                  (unsupported "dict.changed-during-merge" : Sem PUnit)
                  pure (ForInStep.yield PUnit.unit)
                else pure (ForInStep.yield PUnit.unit)
            | _ => do
              (unsupported "dict.changed-during-merge" : Sem PUnit)
              pure (ForInStep.yield PUnit.unit) : Sem (ForInStep PUnit))
      pure ()) Q E s := by
    refine wpAny_bind (wpAny_dictEpoch hoo hdo' ?_)
    refine wpAny_bind ?_
    refine wpAny_forIn_list _
      (fun rest _ s' => ∃ h' i, s' = { s with heap := h' } ∧ rest = List.range' i (eso.size - i) ∧ i ≤ eso.size ∧ h'.DictOf (strKind prog w) d (merged kvs (more.take i)) ∧ h'.get? a = some oo ∧ Heap.SameBut d s.heap h')
      _ ?_ ?_ _ _ ⟨s.heap, 0, rfl, by rw [List.range_eq_range']; simp, Nat.zero_le _, by simpa [merged] using hd, hoo, Heap.SameBut.refl _ _⟩
    · intro x rest b s' qq0
      refine gg fun P hP => ?_
      obtain ⟨h', i, rfl, hr, hi, hd', hoo', hs'⟩ := qq0
      refine hP ?_
      clear hP
      have hlt : i < eso.size := by
        rcases Nat.lt_or_ge i eso.size with h | h
        · exact h
        · rw [Nat.sub_eq_zero_of_le h] at hr; simp at hr
      obtain ⟨rfl, hrest⟩ : x = i ∧ rest = List.range' (i + 1) (eso.size - (i + 1)) := by
        have e : eso.size - i = (eso.size - (i + 1)) + 1 := by omega
        rw [e, List.range'_succ] at hr
        injection hr with h1 h2
        exact ⟨h1, h2⟩
      refine wpAny_bind (wpAny_dictEntries hoo' hdo' ?_)
      rw [Array.getElem?_eq_getElem hlt]
      refine gg fun P hP => ?_
      obtain ⟨kv, hkv⟩ : ∃ kv, more[x]? = some kv := ⟨more[x]'(by rw [hlen]; exact hlt), List.getElem?_eq_getElem _⟩
      obtain ⟨k, v⟩ := kv
      obtain ⟨hkey, hval⟩ := hpo.get? (e := eso[x]) (by simp [hlt]) hkv
      obtain ⟨k', hkey', hhash⟩ := hko eso[x] (Array.getElem_mem hlt)
      obtain rfl : k' = k := (strKind prog w).inj _ _ _ hkey' hkey
      refine hP ?_
      clear hP
      show wpAny _ _ (holding [eso[x].key, eso[x].val] (dictPut d eso[x].hash eso[x].key eso[x].val) >>= _) _ _ _
      rw [hhash, hval]
      have hmx : (merged kvs (more.take x)).length ≤ 1000 := by
        have e1 := merged_length_le kvs (more.take x)
        have e2 : (more.take x).length ≤ more.length := by rw [List.length_take]; omega
        omega
      refine wpAny_bind (wpAny_holding (dictPut_pairs (hsz := hmx) hkey hd' fun h'' hd'' hs'' => ?_))
      have hoo'' : h''.get? a = some oo := (hs''.2 a (Ne.symm hda)).trans hoo'
      refine wpAny_bind (wpAny_dictEpoch hoo'' hdo' ?_)
      rw [if_neg (by simp)]
      exact wpAny_pure ⟨h'', x + 1, rfl, hrest, hlt, by rw [merged_take_succ kvs more x (k', v) hkv]; exact hd'', hoo'', hs'.trans hs''⟩
    · intro b s' qq0
      refine gg fun P hP => ?_
      obtain ⟨h', i, rfl, hr, hi, hd', hoo', hs'⟩ := qq0
      refine hP ?_
      clear hP
      have hin : i = eso.size := by
        rcases Nat.lt_or_ge i eso.size with h | h
        · have e : eso.size - i = (eso.size - (i + 1)) + 1 := by omega
          rw [e, List.range'_succ] at hr; exact nomatch hr
        · exact Nat.le_antisymm hi h
      refine wpAny_pure (hQ h' ?_ hs')
      rw [hin, ← hlen, List.take_length] at hd'; exact hd'
  unfold mergeMapping
  refine wpAny_bind (wpAny_isInstance hT isSubtype_dict_dict ?_)
  simp only [if_true]
  refine wpAny_bind (wpAny_specialOf hT PySem.F.slot_dict_iter.lookup (wpAny_bind (wpAny_pure ?_)))
  simp only [beq_self_eq_true]
  rw [if_neg (by rw [haS]; exact Bool.false_ne_true)]
  refine wpAny_bind (wpAny_dictEntries hod hdd ?_)
  split
  · refine wpAny_bind (wpAny_dictEntries hoo hdo' (wpAny_bind ?_))
    rw [← Array.forIn_toList]
    refine wpAny_forIn_list _ (fun rest _ s' => s' = s ∧ ∀ e ∈ rest, e ∈ eso) _ ?_ ?_ _ _ ⟨rfl, fun e he => Array.mem_toList_iff.mp he⟩
    · rintro e rest _ s' ⟨q, hm⟩
      subst q
      refine gg fun P hP => ?_
      obtain ⟨x, t, hk⟩ := keys e (hm e List.mem_cons_self)
      refine hP ?_
      clear hP
      rw [hk]
      exact wpAny_pure ⟨rfl, fun e' he' => hm e' (List.mem_cons_of_mem _ he')⟩
    · rintro _ s' ⟨q, _⟩
      subst q
      refine wpAny_bind (wpAny_dictEntries hoo hdo' ?_)
      exact loop
  · refine wpAny_bind (wpAny_dictEntries hoo hdo' ?_)
    exact loop
end
section
variable {prog : Program} {w : World} {A : Around} {E : Value → Shared → Prop} {s : Shared}
theorem nsSet_empty {D : Addr} {x : Str} {v : Value} {Q : Unit → Shared → Prop} (hD : s.heap.get? D = some { cls := .type "dict", data := .dict #[] })
    (h : ∀ h', h'.DictOf (strKind prog w) D [(x, v)] → Heap.SameBut D s.heap h' → Q () { s with heap := h', toks := s.toks + 1 }) : wpAny (model prog w) A (nsSet D x v) Q E s := by
  unfold nsSet
  refine wpAny_bind (wpAny_bind (wpAny_askSetting (wpAny_pure (wpAny_bind (wpAny_mkText (wpAny_bind (wpAny_loadPart hD ?_)))))))
  refine wpAny_updatePart hD (h _ ⟨_, _, _, Heap.get?_update_self _ hD rfl, ⟨rfl, rfl, rfl⟩, rfl, ?_, ?_, by simp⟩ (Heap.SameBut.update ..))
  · intro e he
    simp only [List.mem_toArray, List.mem_singleton] at he
    subst he
    exact ⟨x, strKind_is _ _ _ _, rfl⟩
  · exact .cons (strKind_is _ _ _ _) rfl .nil

theorem wp_peekA {α : Type} {K : Frag} {M : Model} {Q : α → Shared → Prop} {o : Obj} (X : K.In s.heap) : ∀ (t : Sem α) (g : Addr → Sem α), peekA K ⟨M.prog, M.w.params⟩ t = some (o, g) →
    wpAny M A (g s.heap.objs.size) Q E { s with heap := s.heap.push o } → wpAny M A t Q E s := by
  intro t
  induction t with
  | rule _ k ih => intro g e q Γ p hΓ; exact ih () g e q Γ p hΓ
  | point _ k ih => intro g e q Γ p hΓ; exact ih () g e q Γ p hΓ
  | ask k ih => intro g e q Γ p hΓ; exact ih _ g e q Γ p hΓ
  | load a _ k ih =>
    intro g e q Γ p hΓ
    simp only [peekA] at e
    split at e
    · rename_i ob ho; exact ⟨ob, X _ _ ho, ih ob g e q Γ p hΓ⟩
    · cases e
  | alloc o' k ih =>
    intro g e q
    simp only [peekA, Option.some.injEq, Prod.mk.injEq] at e
    obtain ⟨rfl, rfl⟩ := e
    exact fun Γ p hΓ => q Γ p hΓ
  | _ => intros; rename_i e _; simp [peekA] at e

/-- entering a def with one keyword argument gathered in a dict -/
theorem enterM {K : Frag} {Q : Value → Shared → Prop}
    {name qual : Str} {params : Arguments} {body : List Stmt} {scope : Scope} {dV kV doc pm cdv ct oc : Value} {an od : Option Addr} {osl : Array (Option Value)} {f : Addr} {vs : List Value} {kn nm : Str} {kv : Value} {front : List (Str × Value)}
    (X : K.In s.heap) (hlim : s.heap.NoLimit)
    (ho : K.lookup f = some ⟨oc, od, .func (fnOf name qual params body scope dV kV doc pm an cdv ct), osl⟩) (hcd : codeIn K cdv qual = true) (hroom : A.depth < recursionLimit)
    (hp : peekA K ⟨prog, w.params⟩ (bindArgs (fnOf name qual params body scope dV kV doc pm an cdv ct) ⟨vs, [(kn, kv)]⟩) = some ({ cls := .type "dict", data := .dict #[] }, fun D => (forIn [(kn, kv)] PUnit.unit (fun x _ => (nsSet D x.1 x.2 >>= fun _ => pure (ForInStep.yield PUnit.unit))) >>= fun _ => pure (front ++ [(nm, Value.ref D)]))))
    (hloc : ∀ D, ∀ y ∈ front ++ [(nm, Value.ref D)], scope.names.lookup y.1 = some .local)
    (h : ∀ D L h₁ tk, D = s.heap.objs.size → L ≠ D → Kp s.heap h₁ → h₁.DictOf (strKind prog w) D [(kn, kv)] → h₁.Ns L (fun y => (front ++ [(nm, Value.ref D)]).reverse.lookup y) → s.heap.objs.size ≤ L →
      wpAny (model prog w) (A.deeper (envOf qual scope L f cdv)) (execs body (envOf qual scope L f cdv))
        (fun fl s' => Q (match fl with | .ret v => v | _ => .none) s') (fun _ _ => False) { s with heap := h₁, toks := tk })
    (hco : scope.isCoroutine = false) (hgen : scope.isGenerator = false) (hk : scope.kind = .function)
    (hcell : ∀ x ∈ scope.names, x.2 ≠ .cell) : wpAny (model prog w) A (call (.ref f) vs [(kn, kv)]) Q E s := by
  refine wpAny_call ?_
  refine codeAny_call_function (fd := fnOf name qual params body scope dV kV doc pm an cdv ct) (body := body) hroom (X _ _ ho) rfl hco hgen rfl (codeRec_of X hcd) ?_
  refine wp_peekA X _ _ hp ?_
  simp only [List.forIn_cons, List.forIn_nil]
  have hD : (s.heap.push { cls := .type "dict", data := .dict #[] }).get? s.heap.objs.size = some { cls := .type "dict", data := .dict #[] } := Heap.get?_push_size _ rfl
  refine wpAny_bind (wpAny_bind (wpAny_bind (nsSet_empty (prog := prog) (w := w) (s := { s with heap := s.heap.push { cls := .type "dict", data := .dict #[] } }) hD fun h₂ hd₂ hs₂ => wpAny_pure (wpAny_pure (wpAny_pure ?_)))))
  have k2 : Kp s.heap h₂ := fun b o e => hs₂.extBut b o (Nat.ne_of_lt (Heap.lt_size e)) (Heap.get?_push_of_some _ e)
  have lt2 : s.heap.objs.size < h₂.objs.size := by obtain ⟨o, _, _, e, _⟩ := hd₂; exact Heap.lt_size e
  refine wpAny_newFunctionEnv hcell (hloc _) (fun h₁ hns hsb => ⟨(hlim.keeps k2).fresh _ hsb, codeAny_func ?_⟩) hk
  have k3 : Kp h₂ h₁ := fun b o e => hsb.extBut b o (Nat.ne_of_lt (Heap.lt_size e)) (Heap.get?_push_of_some _ e)
  exact wpAny_mono (h s.heap.objs.size h₂.objs.size h₁ _ rfl (Nat.ne_of_gt lt2) (fun b o e => k3 b o (k2 b o e)) (hd₂.keep k3) hns (Nat.le_of_lt lt2)) (fun fl s' hl => hl) fun _ _ y => y.elim
end
section
variable {prog : Program} {w : World} {A : Around} {E : Value → Shared → Prop} {s : Shared}
theorem dict_merge2 {env : Env} {v1 v2 : Expr} {pos : Pos} {a b : Addr} {kvs more : List (Str × Value)} {Q : Value → Shared → Prop} (haS : (a == sysModules) = false) (hbS : (b == sysModules) = false)
    (ha : s.heap.DictOf (strKind prog w) a kvs) (hb : s.heap.DictOf (strKind prog w) b more) (hn : (kvs.map (·.1)).Nodup) (hz : kvs.length + more.length ≤ 100)
    (h1 : ∀ h, Kp s.heap h → Ev prog w A env v1 h (fun u => u = .ref a)) (h2 : ∀ h, Kp s.heap h → Ev prog w A env v2 h (fun u => u = .ref b))
    (hQ : ∀ D h' tk, Kp s.heap h' → h'.DictOf (strKind prog w) D (merged kvs more) → s.heap.objs.size ≤ D → Q (.ref D) { s with heap := h', toks := tk }) :
    wpAny (model prog w) A (eval (.Dict [none, none] [v1, v2] pos) env) Q E s := by
  rw [arm_eval_Dict]
  refine wpAny_bind (wpAny_standAt ?_)
  show wpAny _ _ (dictDisplay [(none, do let x ← eval v1 env; standAt pos; pure x), (none, do let x ← eval v2 env; standAt pos; pure x)]) _ _ _
  unfold dictDisplay
  simp only [List.forIn_cons, List.forIn_nil, List.isEmpty_nil, if_true]
  have u0 : Kp s.heap (s.heap.push { cls := .type "dict", data := .dict #[] }) := fun b o e => Heap.get?_push_of_some _ e
  have D0 : (s.heap.push { cls := .type "dict", data := .dict #[] }).DictOf (strKind prog w) s.heap.objs.size [] := Heap.DictOf.new _
  have na : @Ne Nat s.heap.objs.size a := Nat.ne_of_gt (by obtain ⟨o, _, _, e, _⟩ := ha; exact Heap.lt_size e)
  have nb : @Ne Nat s.heap.objs.size b := Nat.ne_of_gt (by obtain ⟨o, _, _, e, _⟩ := hb; exact Heap.lt_size e)
  refine wpAny_bind (wpAny_bind (wpAny_bind (wpAny_pure ?_)))
  dsimp only
  refine wpAny_bind (wpAny_alloc (wpAny_bind (wpAny_holding (wpAny_bind (h1 _ u0 _ _ _ rfl fun u tk e => ?_)))))
  subst e
  refine wpAny_bind (wpAny_standAt (wpAny_pure ?_))
  refine wpAny_bind (wpAny_onRaise (wpAny_tryCatch (wpAny_onRaise (wpAny_holding (merge_str na haS D0 (ha.keep u0) (fun h₂ d₂ s₂ => wpAny_pure ?_) (by simp; omega))))))
  have u2 : Kp s.heap h₂ := fun c o e => s₂.extBut c o (Nat.ne_of_lt (Heap.lt_size e)) (u0 c o e)
  rw [merged_nil_of_nodup kvs hn] at d₂
  dsimp only
  refine wpAny_bind (wpAny_bind (wpAny_pure ?_))
  dsimp only
  refine wpAny_bind (wpAny_pure ?_)
  refine wpAny_bind (wpAny_holding (wpAny_bind (h2 h₂ u2 _ _ _ rfl fun u tk₂ e => ?_)))
  subst e
  refine wpAny_bind (wpAny_standAt (wpAny_pure ?_))
  refine wpAny_bind (wpAny_onRaise (wpAny_tryCatch (wpAny_onRaise (wpAny_holding (merge_str nb hbS d₂ (hb.keep u2) (fun h₃ d₃ s₃ => wpAny_pure ?_) (by omega))))))
  dsimp only
  refine wpAny_pure (wpAny_bind (wpAny_pure ?_))
  exact wpAny_pure (hQ _ h₃ _ (fun c o e => s₃.extBut c o (Nat.ne_of_lt (Heap.lt_size e)) (u2 c o e)) d₃ (Nat.le_refl _))
end
theorem wpAny_weaken {α : Type} {M : Model} {A : Around} {t : Sem α} {Q : α → Shared → Prop} {E : Value → Shared → Prop} {s : Shared} {n u : Nat} (h : wpAny M (AX n u) t Q E s) (h1 : A.handled = none) (h2 : A.depth ≤ n) (h3 : A.guards = some []) (h4 : A.units ≤ u) :
    wpAny M A t Q E s := fun Γ p hΓ =>
  h Γ p ⟨hΓ.1.trans h1, Nat.le_trans hΓ.2.1 h2, fun l hl => by (cases hl), fun g hg => hΓ.2.2.2.1 g (h3.trans hg), Nat.le_trans hΓ.2.2.2.2 h4⟩

/-- all but the object at ka stands as it stood -/
noncomputable def Upd (ka : Addr) (h h' : Heap) : Prop := ∀ b o, b ≠ ka → h.get? b = some o → h'.get? b = some o
theorem Upd.of {ka : Addr} {h h' : Heap} (k : Kp h h') : Upd ka h h' := fun b o _ e => k b o e
theorem Upd.trans {ka : Addr} {h h' h'' : Heap} (x : Upd ka h h') (y : Upd ka h' h'') : Upd ka h h'' := fun b o hb e => y b o hb (x b o hb e)
theorem Upd.static {ka : Addr} {g h h' : Heap} (u : Upd ka h h') (k : Kp g h) (n : NoLists g) (l : Mut h ka) : Kp g h' := fun b o e => u b o (by
  rintro rfl
  obtain ⟨o', e', d⟩ := l
  rw [k _ _ e] at e'
  cases e'
  rcases d with ⟨xs, m, d⟩ | ⟨vs, d, q⟩
  · exact n.seq _ _ _ _ e d
  · obtain ⟨x, t, z⟩ := n.rcd _ _ _ e d
    exact q x t z) (k b o e)
theorem Upd.dict {prog : Program} {w : World} {ka da : Addr} {h h' : Heap} {kvs : List (Str × Value)} (u : Upd ka h h') (l : Mut h ka) (d : h.DictOf (strKind prog w) da kvs) : h'.DictOf (strKind prog w) da kvs := d.at fun o e => u _ o (by
  rintro rfl
  obtain ⟨o₂, e', dd'⟩ := l
  obtain ⟨o', es, ep, e'', x, dd, _⟩ := d
  rw [e'] at e''; cases e''
  rw [dd] at dd'
  rcases dd' with ⟨xs, m, d⟩ | ⟨vs, d, q⟩ <;> cases d) e
theorem Upd.list {ka kb : Addr} {h h' : Heap} {xs : List Value} (u : Upd ka h h') (hne : @Ne Nat kb ka) (l : ListAt h kb xs) : ListAt h' kb xs := by obtain ⟨n, e⟩ := l; exact ⟨n, u _ _ hne e⟩

theorem fn113 (P : Params) : ∃ o fd, (hd.heap_1 P).lookup 113 = some o ∧ o.data = .func fd := ⟨_, _, rfl, rfl⟩
section
variable {prog : Program} {w : World} {A : Around} {E : Value → Shared → Prop} {s : Shared}
/-- a method of a thing that is called with two names -/
theorem meth2 {env : Env} {o e1 e2 : Expr} {name : Str} {p1 pos : Pos} {t f : Addr} {m : Str → Option Value} {u1 u2 : Value} {Q : Value → Shared → Prop} (ho : Ev prog w A env o s.heap (fun u => u = .ref t)) (h1 : Ev prog w A env e1 s.heap (fun u => u = u1)) (h2 : Ev prog w A env e2 s.heap (fun u => u = u2))
    (hf : FnAt s.heap t m) (hm : m name = some (.ref f)) (hB : typeLookup (.type "function") name = pure none) (hfn : FnO s.heap f)
    (h : ∀ tk, wpAny (model prog w) A (call (.ref f) [u1, u2]) Q E { s with toks := tk })
    (he : ∃ pl, eval (.Call (.Attribute o name p1) [e1, e2] [] pos) env = (do
      let ov ← eval o env
      standAt p1.atName
      let (f, first) ← holding [ov] (getMethod ov name pl)
      callWith pos f first (backTo pos (starEach [e1, e2] env)) []) := by exact ⟨_, rfl⟩)
    (hs : backTo pos (starEach [e1, e2] env) = [(false, eval e1 env), (false, eval e2 env)] := by rfl) :
    wpAny (model prog w) A (eval (.Call (.Attribute o name p1) [e1, e2] [] pos) env) Q E s := by
  obtain ⟨pl, he⟩ := he
  obtain ⟨ob, fd, hob, hdat⟩ := hfn
  refine MethodCall_ (pl := pl) (ho s _ _ rfl fun u tk e => ?_) he
  subst e
  refine getMethod_fn (s := { s with toks := tk }) hf hm True.intro hB fun tk₂ => ?_
  rw [hs]
  refine Calls.callWith_function (o := ob) (fd := fd) (Calls.evalArgs_plain (Calls.spliced_cons (h1 { s with toks := tk₂ } _ _ rfl fun u tk₃ e => Calls.spliced_cons (h2 { s with toks := tk₃ } _ _ rfl fun u' tk₄ e' => Calls.spliced_nil ?_))))
  subst e e'
  exact ⟨⟨hob, hdat⟩, h tk₄⟩
theorem meth1 {env : Env} {o e1 : Expr} {name : Str} {p1 pos : Pos} {t f : Addr} {m : Str → Option Value} {u1 : Value} {Q : Value → Shared → Prop} (ho : Ev prog w A env o s.heap (fun u => u = .ref t)) (h1 : Ev prog w A env e1 s.heap (fun u => u = u1))
    (hf : FnAt s.heap t m) (hm : m name = some (.ref f)) (hB : typeLookup (.type "function") name = pure none) (hfn : FnO s.heap f)
    (h : ∀ tk, wpAny (model prog w) A (call (.ref f) [u1]) Q E { s with toks := tk })
    (he : ∃ pl, eval (.Call (.Attribute o name p1) [e1] [] pos) env = (do
      let ov ← eval o env
      standAt p1.atName
      let (f, first) ← holding [ov] (getMethod ov name pl)
      callWith pos f first (backTo pos (starEach [e1] env)) []) := by exact ⟨_, rfl⟩)
    (hs : backTo pos (starEach [e1] env) = [(false, eval e1 env)] := by rfl) :
    wpAny (model prog w) A (eval (.Call (.Attribute o name p1) [e1] [] pos) env) Q E s := by
  obtain ⟨pl, he⟩ := he
  obtain ⟨ob, fd, hob, hdat⟩ := hfn
  refine MethodCall_ (pl := pl) (ho s _ _ rfl fun u tk e => ?_) he
  subst e
  refine getMethod_fn (s := { s with toks := tk }) hf hm True.intro hB fun tk₂ => ?_
  rw [hs]
  refine Calls.callWith_function (o := ob) (fd := fd) (Calls.evalArgs_plain (Calls.spliced_cons (h1 { s with toks := tk₂ } _ _ rfl fun u tk₃ e => Calls.spliced_nil ?_)))
  subst e
  exact ⟨⟨hob, hdat⟩, h tk₃⟩
theorem meth0 {env : Env} {o : Expr} {name : Str} {p1 pos : Pos} {t f : Addr} {m : Str → Option Value} {Q : Value → Shared → Prop} (ho : Ev prog w A env o s.heap (fun u => u = .ref t))
    (hf : FnAt s.heap t m) (hm : m name = some (.ref f)) (hB : typeLookup (.type "function") name = pure none) (hfn : FnO s.heap f)
    (h : ∀ tk, wpAny (model prog w) A (call (.ref f) []) Q E { s with toks := tk })
    (he : ∃ pl, eval (.Call (.Attribute o name p1) [] [] pos) env = (do
      let ov ← eval o env
      standAt p1.atName
      let (f, first) ← holding [ov] (getMethod ov name pl)
      callWith pos f first (backTo pos (starEach [] env)) []) := by exact ⟨_, rfl⟩)
    (hs : backTo pos (starEach [] env) = [] := by rfl) :
    wpAny (model prog w) A (eval (.Call (.Attribute o name p1) [] [] pos) env) Q E s := by
  obtain ⟨pl, he⟩ := he
  obtain ⟨ob, fd, hob, hdat⟩ := hfn
  refine MethodCall_ (pl := pl) (ho s _ _ rfl fun u tk e => ?_) he
  subst e
  refine getMethod_fn (s := { s with toks := tk }) hf hm True.intro hB fun tk₂ => ?_
  rw [hs]
  exact Calls.callWith_function (o := ob) (fd := fd) (PyProof.Rows.evalArgs_none ⟨⟨hob, hdat⟩, h tk₂⟩)
end
theorem subel_spec {prog : Program} {w : World} {p loose mean mg mb} {s : Shared} {b₀ g : Heap} {tag ptag : Str} {tt : Tok} {t da pda pka c1 c2 c3 : Addr} {kn : Str} {kv : Value} {xs : List Value} {Q E : Value → Shared → Prop} {vt vn vl vt' vn' pvl : Value}
    (X : (hd.heap_1 w.params).In b₀) (T : Top p loose mean mg mb b₀) (k₀ : Kp b₀ s.heap) (h108 : Tab3 s.heap c1 c2 c3) (n108 : b₀.get? 108 = none) (npk : b₀.get? pka = none)
    (hS : Static prog w g t ptag pvl pda pka) (kg : Kp g s.heap) (nl : NoLists g) (hl : ListAt s.heap pka xs) (hx : xs.length ≤ 1000)
    (hA : s.heap.DictOf (strKind prog w) da (attKvs vt vn vl)) (hda : (da == sysModules) = false) (hkn : kn = "text" ∨ kn = "times") (hm : merged (attKvs vt vn vl) [(kn, kv)] = attKvs vt' vn' vl)
    (ret : ∀ t' ka' g' D h' tk', Upd pka s.heap h' → ListAt h' pka (xs ++ [.ref t']) → Kp g' h' → NoLists g' → NewOr g' s.heap → Static prog w g' t' tag vl D ka' → h'.DictOf (strKind prog w) D (attKvs vt' vn' vl) → ListAt h' ka' [] →
      s.heap.objs.size ≤ ka' → s.heap.objs.size ≤ t' → s.heap.objs.size ≤ D → Q (.ref t') { s with heap := h', toks := tk' }) :
    wpAny (model prog w) (AX 690 4990) (call (.ref 99) [.ref t, .str tag tt, .ref da] [(kn, kv)]) Q E s := by
  have Xs : (hd.heap_1 w.params).In s.heap := X.keeps k₀
  obtain ⟨m, fa, fi, hF, ⟨tt', m1⟩, m2, m3, m4, m5, m6, m7, hAp, hIt, hfa, hfi⟩ := hS.m
  rcases hkn with rfl | rfl
  all_goals (
    refine' enterM (front := [("parent", .ref t), ("tag", .str tag tt), ("attrib", .ref da)]) (nm := "extra") Xs (Top.nolimit T |>.keeps k₀) ?k6 ?k7 ?k8 ?hp ?hloc ?_ ?c2 ?c3 ?c4 ?c5
    (case k6 => k_is)
    (case k7 => k_is)
    (case k8 => decide)
    (case hp => kernel_rfl)
    (case hloc => exact fun _ => locs rfl)
    (case c2 => exact rfl)
    (case c3 => exact rfl)
    (case c4 => exact rfl)
    (case c5 => decide)
    intro D L h₁ tk₁ hD hLD k₁ dD hns hL
    have nD : (D == sysModules) = false := beq_eq_false_iff_ne.mpr (Nat.ne_of_gt (hD ▸ modules_low (T.nolimit.keeps k₀)))
    refine wpAny_execs_cons (wpAny_Assign_Name (dict_merge2 (s := { s with heap := h₁, toks := tk₁ }) hda nD (hA.keep k₁) dD (by show (["text", "times", "tail"] : List Str).Nodup; decide) (by show 4 ≤ 100; decide) (fun h k => Ev.local (hns.keeps k) rfl rfl rfl) (fun h k => Ev.local (hns.keeps k) rfl rfl rfl) fun D₂ h₂ tk₂ k₂ d₂ l₂ => ?_))
    rw [hm] at d₂
    have lD₂ : s.heap.objs.size ≤ D₂ := Nat.le_trans (Nat.le_of_lt (Nat.lt_of_le_of_lt hL hns.lt)) l₂
    refine wpAny_storeName_local rfl (hns.keeps k₂) (fun h₃ hn₃ hs₃ => ?_) rfl
    have k3 : Kp s.heap h₃ := fun b o e => hs₃.extBut b o (Nat.ne_of_lt (Nat.lt_of_lt_of_le (Heap.lt_size e) hL)) (k₂ b o (k₁ b o e))
    have d₃ := d₂.sameBut hs₃ (show @Ne Nat D₂ L from Nat.ne_of_gt (Nat.lt_of_lt_of_le hns.lt l₂))
    have Lk : @Ne Nat L pka := fun q => by
      obtain ⟨n, e⟩ := hl
      exact absurd (Heap.lt_size e) (Nat.not_lt.mpr (q ▸ hL))
    have k3b : Kp b₀ h₃ := fun b o e => k3 b o (k₀ b o e)
    dsimp only
    refine wpAny_execs_cons (wpAny_Assign_Name (meth2 (s := { s with heap := h₃, toks := _ }) (t := t) (f := 113) (m := m) (u1 := .str tag tt) (u2 := .ref D₂) (Ev.local hn₃ rfl rfl rfl) (Ev.local hn₃ rfl rfl rfl) (Ev.local hn₃ rfl rfl rfl) (hF.keeps (fun b o e => k3 b o (kg b o e))) m6 tl_makeelement
      (let ⟨o, fd, a, b⟩ := fn113 w.params; ⟨o, fd, X.keeps k3b _ _ a, b⟩) fun tk₄ => ?_))
    refine wpAny_weaken (n := 700) (u := 5000) ?_ rfl (Nat.le_of_ble_eq_true rfl) rfl (Nat.le_of_ble_eq_true rfl)
    refine thing_spec2 (s := { s with heap := h₃, toks := tk₄ }) X T k3b (h108.keeps k3) n108 d₃ fun t' ka' g' h₄ tk₅ k₄ kg' nl' wn' sS' hl' lka lt' => ?_
    have k34 : Kp s.heap h₄ := fun b o e => k₄ b o (k3 b o e)
    have sz3 : s.heap.objs.size ≤ h₃.objs.size := Nat.le_of_lt (Nat.lt_of_le_of_lt hL hn₃.lt)
    refine wpAny_storeName_local rfl (hn₃.keeps k₄) (fun h₅ hn₅ hs₅ => ?_) rfl
    have k5 : Kp s.heap h₅ := fun b o e => hs₅.extBut b o (Nat.ne_of_lt (Nat.lt_of_lt_of_le (Heap.lt_size e) hL)) (k34 b o e)
    have Lka : @Ne Nat ka' L := Nat.ne_of_gt (Nat.lt_of_lt_of_le hn₃.lt lka)
    dsimp only
    refine wpAny_execs_cons (wpAny_Expr (meth1 (s := { s with heap := h₅, toks := _ }) (t := t) (f := fa) (m := m) (u1 := .ref t') (Ev.local hn₅ rfl rfl rfl) (Ev.local hn₅ rfl rfl rfl) (hF.keeps (fun b o e => k5 b o (kg b o e))) m5 tl_append (hfa.keeps fun b o e => k5 b o (kg b o e)) fun tk₆ => ?_))
    refine hAp _ _ xs _ _ _ (Nat.le_of_ble_eq_true rfl) ((T.nolimit.keeps k₀).keeps k5) (fun b o e => k5 b o (kg b o e)) (hl.keeps k5) hx fun h₆ tk₇ u6 l6 => ?_
    dsimp only
    refine wpAny_execs_cons (wpAny_Return_some ((Ev.local (hn₅.at' fun o e => u6 _ o Lk e) rfl rfl rfl) { s with heap := h₆, toks := tk₇ } _ _ rfl fun u tk₈ e => ?_))
    subst e
    have kgL : Kp g' h₅ := fun b o e => hs₅.extBut b o (fun (q : b = L) => by
      subst q
      obtain ⟨oL, es, ep, eL, hd, _⟩ := hn₃
      replace eL : h₃.get? b = some oL := eL
      rcases wn' _ _ e with z | ⟨vs, z⟩
      · replace z : h₃.get? b = none := z
        rw [eL] at z; cases z
      · have z1 := k₄ _ _ eL
        have z2 := kg' _ _ e
        rw [z1] at z2; cases z2
        rw [hd] at z; cases z) (kg' b o e)
    have l5 := hl.keeps k5
    refine ret t' ka' g' D₂ h₆ tk₈ (fun b o hb e => u6 b o hb (k5 b o e)) l6 (Upd.static u6 kgL nl' l5.mut) nl' (fun a o e => ?_) sS' (Upd.dict u6 l5.mut ?_) (Upd.list u6 ?_ ?_) (Nat.le_trans sz3 lka) (Nat.le_trans sz3 lt') lD₂
    · rcases wn' _ _ e with z | z
      · left
        cases q : s.heap.get? a with
        | none => rfl
        | some o' => rw [k3 _ _ q] at z; cases z
      · exact .inr z
    · exact (d₃.keep k₄).sameBut hs₅ (show @Ne Nat D₂ L from Nat.ne_of_gt (Nat.lt_of_lt_of_le hns.lt l₂))
    · intro q
      obtain ⟨n, e⟩ := hl
      exact absurd (Heap.lt_size (k3 _ _ e)) (Nat.not_lt.mpr (q ▸ lka))
    · obtain ⟨n, e⟩ := hl'
      exact ⟨n, hs₅.extBut _ _ Lka e⟩)
/-- the turns of a for over something that walks: W the walk (its own object at I), J what stands between the turns -/
theorem for_walk {prog : Program} {w : World} {A : Around} {s : Shared} {env : Env} {x : Str} {px : Pos} {body : List Stmt} {I : Addr} {n : Nat} {P : Nat → Value → Prop} {St : Nat → Heap → Prop} {R : Result → Shared → Prop} {m₀ : Str → Option Value}
    (J : Nat → (Str → Option Value) → Heap → Prop)
    (hx : env.kindOf x = some .local) (hp : (env.scope.kind == .class || (env.scope.kind == .module && env.locals != env.globals)) = false) (hIL : @Ne Nat I env.locals)
    (item : ∀ i (s : Shared) (Q : Option Value → Shared → Prop) (E : Value → Shared → Prop), i < n → St i s.heap → (∀ m, J i m s.heap → (∀ v h' tk, P i v → St (i + 1) h' → (∀ b o, b ≠ I → s.heap.get? b = some o → h'.get? b = some o) → Q (some v) { s with heap := h', toks := tk }) → wpAny (model prog w) A (pyNext (.ref I)) Q E s))
    (last : ∀ (s : Shared) (Q : Option Value → Shared → Prop) (E : Value → Shared → Prop), St n s.heap → (∀ m, J n m s.heap → (∀ h' tk, (∀ b o, b ≠ I → s.heap.get? b = some o → h'.get? b = some o) → Q none { s with heap := h', toks := tk }) → wpAny (model prog w) A (pyNext (.ref I)) Q E s))
    (frame : ∀ i h h', St i h → (∀ o, h.get? I = some o → h'.get? I = some o) → St i h')
    (stable : ∀ i m h h', J i m h → (∀ b o, b ≠ I → b ≠ env.locals → h.get? b = some o → h'.get? b = some o) → J i m h')
    (hst : St 0 s.heap) (hns : s.heap.Ns env.locals m₀) (h0 : J 0 m₀ s.heap)
    (step : ∀ i v m h tk, i < n → P i v → J i m h → h.Ns env.locals (fun y => if y = x then some v else m y) → St (i + 1) h →
      wpAny (model prog w) A (execs body env) (fun fl s' => fl = .next ∧ ∃ h' tk' m', s' = { s with heap := h', toks := tk' } ∧ (∀ o, h.get? I = some o → h'.get? I = some o) ∧ h'.Ns env.locals m' ∧ J (i + 1) m' h') (fun _ _ => False) { s with heap := h, toks := tk })
    (done : ∀ m h tk, J n m h → h.Ns env.locals m → R (.ok .next) { s with heap := h, toks := tk }) :
    codeAny (model prog w) A (.forLoop (.Name x px) (.ref I) body [] env) R s := by
  refine codeAny_forLoop (fun k s' => ∃ h tk i m, s' = { s with heap := h, toks := tk } ∧ i ≤ n ∧ k = n + 1 - i ∧ St i h ∧ h.Ns env.locals m ∧ J i m h) ?_ (n + 1) ⟨s.heap, s.toks, 0, m₀, rfl, Nat.zero_le _, rfl, hst, hns, h0⟩
  rintro k s' ⟨h, tk, i, m, rfl, hi, rfl, hst', hn, hj⟩
  by_cases hlt : i < n
  · refine item i _ _ _ hlt hst' m hj fun v h₂ tk₂ hv st₂ k₂ => ?_
    have hn₂ : h₂.Ns env.locals m := hn.at' fun o e => k₂ _ o hIL.symm e
    refine wpAny_assign_Name (wpAny_storeName_local hx hn₂ (fun h₃ hn₃ hs₃ => ?_) hp)
    have hj₃ : J i m h₃ := stable _ _ _ _ hj fun b o b1 b2 e => hs₃.extBut b o b2 (k₂ b o b1 e)
    have st₃ : St (i + 1) h₃ := frame _ _ _ st₂ fun o e => hs₃.extBut _ o hIL e
    refine wpAny_mono (step i v m h₃ _ hlt hv hj₃ hn₃ st₃) (fun fl s₄ q => ?_) fun _ _ q => q.elim
    obtain ⟨rfl, h₄, tk₄, m₄, rfl, k4, hn₄, hj₄⟩ := q
    exact ⟨n + 1 - (i + 1), by omega, h₄, tk₄, i + 1, m₄, rfl, hlt, rfl, frame _ _ _ st₃ k4, hn₄, hj₄⟩
  · obtain rfl : i = n := Nat.le_antisymm hi (Nat.not_lt.mp hlt)
    refine last _ _ _ hst' m hj fun h₂ tk₂ k₂ => ?_
    exact wpAny_execs_nil (done m h₂ tk₂ (stable _ _ _ _ hj fun b o b1 _ e => k₂ b o b1 e) (hn.at' fun o e => k₂ _ o hIL.symm e))

theorem for_list {prog : Program} {w : World} {A : Around} {s : Shared} {env : Env} {x : Str} {px pos : Pos} {iter : Expr} {body : List Stmt} {Q : Flow → Shared → Prop} {E : Value → Shared → Prop} {m₀ : Str → Option Value} {l : Addr} {xs : List Value}
    (J : Nat → (Str → Option Value) → Heap → Prop)
    (hh : A.handled = none) (hx : env.kindOf x = some .local) (hp : (env.scope.kind == .class || (env.scope.kind == .module && env.locals != env.globals)) = false)
    (hiter : Ev prog w A env iter s.heap (fun u => u = .ref l)) (hz : xs.length ≤ 100000) (hns : s.heap.Ns env.locals m₀)
    (hl : ∀ i m h, J i m h → ListAt h l xs)
    (stable : ∀ i m h h', J i m h → (∀ b o, s.heap.objs.size ≠ b → b ≠ env.locals → h.get? b = some o → h'.get? b = some o) → J i m h')
    (h0 : J 0 m₀ s.heap)
    (step : ∀ i v m h tk it, xs[i]? = some v → J i m h → h.Ns env.locals (fun y => if y = x then some v else m y) → h.get? s.heap.objs.size = some it → (∃ vs, it.data = .fields vs) →
      wpAny (model prog w) A (execs body env) (fun fl s' => fl = .next ∧ ∃ h' tk' m', s' = { s with heap := h', toks := tk' } ∧ h'.get? s.heap.objs.size = some it ∧ h'.Ns env.locals m' ∧ J (i + 1) m' h') (fun _ _ => False) { s with heap := h, toks := tk })
    (done : ∀ m h tk, J xs.length m h → h.Ns env.locals m → Q .next { s with heap := h, toks := tk })
    (hs : ∀ x, foldedSetIterable iter env x = pure x := by intro _; rfl) :
    wpAny (model prog w) A (exec (.For (.Name x px) iter body [] pos) env) Q E s := by
  refine wpAny_For (hiter s _ _ rfl fun u tk e => ?_) hs
  subst e
  have hl₀ := hl _ _ _ h0
  refine wpAny_pyIter_list (s := { s with toks := tk }) hl₀.isList ?_
  generalize hH : s.heap.push { cls := .type "list_iterator", data := .fields #[.ref l, .int 0 0] } = H
  have up : ∀ b o, s.heap.get? b = some o → H.get? b = some o := fun b o e => hH ▸ Heap.get?_push_of_some _ e
  have hIL : @Ne Nat s.heap.objs.size env.locals := Nat.ne_of_gt hns.lt
  have hlI : @Ne Nat l s.heap.objs.size := Nat.ne_of_lt (by obtain ⟨n, e⟩ := hl₀; exact Heap.lt_size e)
  have hI : H.IsListIter s.heap.objs.size l 0 := ⟨_, hH ▸ Heap.get?_push_size _ rfl, rfl, rfl⟩
  refine for_walk (s := { s with heap := H, toks := tk }) (n := xs.length) (I := s.heap.objs.size) (P := fun i v => xs[i]? = some v) (St := fun i h => h.IsListIter s.heap.objs.size l i) (m₀ := m₀) J hx hp hIL ?_ ?_ ?_ ?_ hI (hns.keeps up) (stable _ _ _ _ h0 fun b o _ _ e => up b o e) ?_ ?_
  · intro i s' Q' E' hi st m hj k
    have lj := (hl _ _ _ hj).isList
    have hv : xs.toArray[i]? = some xs[i] := by simp [hi]
    exact wpAny_pyNext_list_item st lj hv fun h₂ hit₂ hs₂ => k _ h₂ _ (by simp [hi]) hit₂ fun b o hb e => hs₂.extBut b o hb e
  · intro s' Q' E' st m hj k
    have lj := (hl _ _ _ hj).isList
    exact wpAny_pyNext_list_end hh st lj (by simp) fun h₂ he₂ => k h₂ _ fun b o hb e => he₂ b o hb e
  · intro i h h' st k
    obtain ⟨o, e, r⟩ := st
    exact ⟨o, k _ e, r⟩
  · intro i m h h' hj k
    exact stable i m h h' hj fun b o hb => k b o (Ne.symm hb)
  · intro i v m h tk' hi hv hj hn st
    obtain ⟨o, e, r⟩ := st
    exact wpAny_mono (step i v m h tk' o hv hj hn e ⟨_, r.2⟩) (fun fl s' ⟨q, h', tk₂, m', q1, q2, q3, q4⟩ => ⟨q, h', tk₂, m', q1, fun o' e' => by rw [e] at e'; cases e'; exact q2, q3, q4⟩) fun _ _ q => q
  · intro m h tk' hj hn
    exact done m h tk' hj hn
example : True := by k_with_none; trivial
example : True := by
  k_with "mine enter0" => (
      refine' enter ?kX ?kT ?k6 ?k7 ?k8 ?k9 ?kB ?_ ?c2 ?c3 ?c4 ?c5
      (case kX => assumption)
      (case kT => exact Top.nolimit (by assumption))
      (case k6 => k_is)
      (case k7 => k_is)
      (case k8 => decide)
      (case k9 => first | exact BindsTo.of_eq rfl | exact kp_binds (by assumption) (fun _ => rfl))
      (case c5 => decide)
      (case kB => exact locs rfl)
      (case c2 => exact rfl)
      (case c3 => exact rfl)
      (case c4 => exact rfl))
  k_with "mine enterC0" => (
      refine' enterC ?kX ?kT ?k6 ?k7 ?k8 ?k9 ?kB ?kD ?_ ?c2 ?c3 ?c4
      (case kX => assumption)
      (case kT => exact Top.nolimit (by assumption))
      (case k6 => k_is)
      (case k7 => k_is)
      (case k8 => decide)
      (case k9 => first | exact BindsTo.of_eq rfl | exact kp_binds (by assumption) (fun _ => rfl))
      (case kB => exact rfl)
      (case kD => decide +kernel)
      (case c2 => exact rfl)
      (case c3 => exact rfl)
      (case c4 => exact rfl))
  k_with "mine enterH" => (
      (case k6 => k_is)
      (case k7 => k_is)
      (case k8 => decide)
      (case k9 => first | exact fun _ => BindsTo.of_eq rfl | exact fun X' => kp_binds X' (fun _ => rfl))
      (case kB => exact rfl)
      (case kD => decide +kernel)
      (case c2 => exact rfl)
      (case c3 => exact rfl)
      (case c4 => exact rfl))
  k_with "mine tl" => (with_reducible first | exact tl_tag | exact tl_tail | exact tl_attrib | exact tl_kids | exact tl_append | exact tl_makeelement | exact tl_itertext)
  k_with "mine fnset0" => (
      refine' fnset0 ?F ?N ?U ?hc ?hdc ?hB ?_
      (case F => k_asm)
      (case N => k_asm)
      (case U => k_updF)
      (case hc => rfl)
      (case hdc => intro c q; cases q)
      (case hB => walk_at "mine tl"))
  k_with "mine fnset1" => (
      refine' fnset1 ?F ?N ?hf ?U ?hD ?hc ?hdf ?hdc ?hB ?hw ?hsz ?_
      (case F => k_asm)
      (case N => k_asm)
      (case hf => k_mem)
      (case U => k_updF)
      (case hD => with_reducible assumption)
      (case hc => rfl)
      (case hdf => first | k_ne | omega)
      (case hdc => intro c q; cases q)
      (case hB => walk_at "mine tl")
      (case hw => within_ways)
      (case hsz => decide))
  k_with "mine ne" => (with_reducible first
      | exact Nat.ne_of_lt (by assumption)
      | exact Nat.ne_of_lt (And.left (by assumption))
      | exact Nat.ne_of_lt (And.left (And.right (by assumption)))
      | exact Nat.ne_of_lt (And.right (by assumption))
      | exact Nat.ne_of_lt (And.left (And.right (And.right (by assumption))))
      | exact Nat.ne_of_lt (And.right (And.right (by assumption)))
      | exact Nat.ne_of_lt (And.left (And.right (And.right (And.right (by assumption)))))
      | exact Nat.ne_of_lt (And.right (And.right (And.right (by assumption))))
      | exact Nat.ne_of_lt (And.left (And.right (And.right (And.right (And.right (by assumption))))))
      | exact Nat.ne_of_lt (And.right (And.right (And.right (And.right (by assumption)))))
      | exact Nat.ne_of_lt (And.left (And.right (And.right (And.right (And.right (And.right (by assumption)))))))
      | exact Nat.ne_of_lt (And.right (And.right (And.right (And.right (And.right (by assumption))))))
      | exact Nat.ne_of_lt (And.left (And.right (And.right (And.right (And.right (And.right (And.right (by assumption))))))))
      | exact Nat.ne_of_lt (And.right (And.right (And.right (And.right (And.right (And.right (by assumption)))))))
      | exact Nat.ne_of_lt (And.left (And.right (And.right (And.right (And.right (And.right (And.right (And.right (by assumption)))))))))
      | exact Nat.ne_of_lt (And.right (And.right (And.right (And.right (And.right (And.right (And.right (by assumption))))))))
      | exact Nat.ne_of_lt (And.left (And.right (And.right (And.right (And.right (And.right (And.right (And.right (And.right (by assumption))))))))))
      | exact Nat.ne_of_lt (And.right (And.right (And.right (And.right (And.right (And.right (And.right (And.right (by assumption)))))))))
      | exact Nat.ne_of_lt (And.left (And.right (And.right (And.right (And.right (And.right (And.right (And.right (And.right (And.right (by assumption)))))))))))
      | exact Nat.ne_of_lt (And.right (And.right (And.right (And.right (And.right (And.right (And.right (And.right (And.right (by assumption))))))))))
      | exact Nat.ne_of_gt (by assumption)
      | exact Nat.ne_of_gt (And.left (by assumption))
      | exact Nat.ne_of_gt (And.left (And.right (by assumption)))
      | exact Nat.ne_of_gt (And.right (by assumption))
      | exact Nat.ne_of_gt (And.left (And.right (And.right (by assumption))))
      | exact Nat.ne_of_gt (And.right (And.right (by assumption)))
      | exact Nat.ne_of_gt (And.left (And.right (And.right (And.right (by assumption)))))
      | exact Nat.ne_of_gt (And.right (And.right (And.right (by assumption))))
      | exact Nat.ne_of_gt (And.left (And.right (And.right (And.right (And.right (by assumption))))))
      | exact Nat.ne_of_gt (And.right (And.right (And.right (And.right (by assumption)))))
      | exact Nat.ne_of_gt (And.left (And.right (And.right (And.right (And.right (And.right (by assumption)))))))
      | exact Nat.ne_of_gt (And.right (And.right (And.right (And.right (And.right (by assumption))))))
      | exact Nat.ne_of_gt (And.left (And.right (And.right (And.right (And.right (And.right (And.right (by assumption))))))))
      | exact Nat.ne_of_gt (And.right (And.right (And.right (And.right (And.right (And.right (by assumption)))))))
      | exact Nat.ne_of_gt (And.left (And.right (And.right (And.right (And.right (And.right (And.right (And.right (by assumption)))))))))
      | exact Nat.ne_of_gt (And.right (And.right (And.right (And.right (And.right (And.right (And.right (by assumption))))))))
      | exact Nat.ne_of_gt (And.left (And.right (And.right (And.right (And.right (And.right (And.right (And.right (And.right (by assumption))))))))))
      | exact Nat.ne_of_gt (And.right (And.right (And.right (And.right (And.right (And.right (And.right (And.right (by assumption)))))))))
      | exact Nat.ne_of_gt (And.left (And.right (And.right (And.right (And.right (And.right (And.right (And.right (And.right (And.right (by assumption)))))))))))
      | exact Nat.ne_of_gt (And.right (And.right (And.right (And.right (And.right (And.right (And.right (And.right (And.right (by assumption)))))))))))
  trivial
theorem bare_state {s : Shared} (hg : s.gens = #[]) (h : Heap) (tk : Nat) : ({ heap := h, drawn := s.drawn, toks := tk, os := s.os } : Shared) = { s with heap := h, toks := tk } := by
  obtain ⟨hp, g, dr, t, os⟩ := s
  cases hg
  rfl
section
variable {prog : Program} {w : World} {A : Around} {E : Value → Shared → Prop} {s : Shared}
theorem kind_hasattr : builtinKind "hasattr" = none := by decide +kernel
theorem plain_hasattr : plainId "hasattr" = true := by decide +kernel
theorem entry_hasattr : entryFor table "hasattr" = some Builtin.«hasattr» := by first | exact entryFor_of_fast (by kernel_rfl) | exact entryFor_of_tree (by kernel_rfl)
theorem args_hasattr (a b : Value) : argsOk "hasattr" ⟨[a, b], []⟩ := by unfold argsOk; kernel_rfl
end
section
variable {prog : Program} {w : World} {A : Around} {E : Value → Shared → Prop} {s : Shared}
theorem getAttrBy_missd {a n : Nat} {es : Array DictEntry} {t : Tok} {Q : Value → Shared → Prop} (hx : s.heap.get? a = some { cls := .type "dict", data := .dict es n }) (hA : A.handled = none)
    (h : ∀ h' tk e, Heap.NewExcOf s.heap h' e "AttributeError" → E (.ref e) { s with heap := h', toks := tk }) : wpAny (model prog w) A (getAttrBy (.ref a) (.str "tag" t) false) Q E s := by
  obtain ⟨hp, g, d, tk, os⟩ := s
  have hT : ∀ tk', (⟨hp, g, d, tk', os⟩ : Shared).TypeIs (.ref a) "dict" := fun _ => ⟨_, hx, rfl⟩
  have f1 := sub_AttributeError
  have f3 := F.slot_dict_getattribute.lookup
  have f4 := F.slot_dict_getattribute.bind (.ref a)
  have f5 := am_dict_getattr_none
  have hmiss : typeLookup (.type "dict") "tag" = pure none := am_miss_of_fast (by kernel_rfl)
  unfold getAttrBy
  repeat (any_goals (first | assumption | exact hT _ | ((with_reducible show wpAny _ _ (call (Value.builtin "dict.__getattribute__") _ _) _ _ _); refine call_meets F.slot_dict_getattribute (hT _) am_entry_dict_getattribute (F.args_dict_getattribute_2 _ _) (meets_getattribute_miss_dict a es n _ "tag" _ hmiss (by decide +kernel)) ⟨hx, hA, fun h' tk' e hx' => ?_⟩) | wp_step))
  obtain ⟨t', u', he⟩ := hx'.there
  show wpAny _ _ (getattributeRaised _ _ _ _ _ _ _) _ _ _
  unfold getattributeRaised
  repeat (any_goals (first | assumption | wp_step))
  exact h _ _ _ hx'.of
end
section
variable {prog : Program} {w : World} {A : Around} {E : Value → Shared → Prop} {s : Shared}
theorem hasattr_dictA {a n : Nat} {es : Array DictEntry} {t : Tok} {Q : Value → Shared → Prop} (hx : s.heap.get? a = some { cls := .type "dict", data := .dict es n }) (hA : A.handled = none)
    (h : ∀ h' tk, Kp s.heap h' → Q (.bool false) { s with heap := h', toks := tk }) : wpAny (model prog w) A (call (.builtin "hasattr") [.ref a, .str "tag" t]) Q E s := by
  refine Calls.call_function_entry kind_hasattr plain_hasattr entry_hasattr (args_hasattr _ _) ?_
  have hT : s.TypeIs (.ref a) "dict" := ⟨_, hx, rfl⟩
  have hmiss : typeLookup (.type "dict") "tag" = pure none := am_miss_of_fast (by kernel_rfl)
  unfold Builtin.«hasattr»
  refine wpAny_bind (m := someArgs "hasattr" 2 2 _) (wpAny_pure ?_)
  refine wpAny_bind (wpAny_pure (a := ()) ?_)
  rw [if_neg (by intro q; cases eq_of_beq q)]
  refine wpAny_bind (wpAny_typeOf hT ?_)
  dsimp only
  refine wpAny_bind (m := asStr? _) (wpAny_pure (a := some ("tag" : Str)) ?_)
  dsimp only
  refine wpAny_bind (wpAny_of_eq hmiss ?_)
  dsimp only
  refine wpAny_bind (wpAny_bind (m := asStr? (.str "tag" t)) (wpAny_pure (a := some ("tag" : Str)) ?_))
  dsimp only
  refine wpAny_bind (wpAny_isInstance (T := "dict") (b := false) hT (by rw [isSubtype_type]; kernel_rfl) ?_)
  refine wpAny_pure (a := (0 : Nat)) ?_
  rw [if_neg (by decide)]
  refine wpAny_bind ?_
  unfold getAttrBy?
  refine wpAny_bind (wpAny_attempt (getAttrBy_missd hx hA fun h' tk e x => ?_))
  obtain ⟨o, _, eo, c, _⟩ := x.there
  refine wpAny_bind (wpAny_isInstance (T := "AttributeError") (b := true) ⟨o, eo, c⟩ sub_AttributeError ?_)
  rw [if_pos rfl]
  refine wpAny_pure ?_
  exact wpAny_pure ⟨_, rfl, h h' tk x.keeps⟩
end
section
variable {prog : Program} {w : World} {A : Around} {E : Value → Shared → Prop} {s : Shared}
theorem hasattr_list0 {a n : Nat} {xs : List Value} {t : Tok} {Q : Value → Shared → Prop} (ho : s.heap.get? a = some { cls := .type "list", data := .seq xs.toArray n }) (hg : s.gens = #[]) (X : (hd.heap_1 w.params).In s.heap)
    (ret : ∀ (h' : Heap) (tk : Nat) (nw : List (Addr × Obj)), Mem s.heap h' [] nw → Q (.bool true) { heap := h', drawn := s.drawn, toks := tk, os := s.os }) : wpAny (model prog w) (AX 700 5000) (call (.builtin "hasattr") [.ref a, .str "__getitem__" t]) Q E s := by
  x_run
theorem hasattr_list {a : Addr} {xs : List Value} {t : Tok} {Q : Value → Shared → Prop} (hl : ListAt s.heap a xs) (hg : s.gens = #[]) (X : (hd.heap_1 w.params).In s.heap)
    (ret : ∀ h' tk, Kp s.heap h' → Q (.bool true) { s with heap := h', toks := tk }) : wpAny (model prog w) (AX 700 5000) (call (.builtin "hasattr") [.ref a, .str "__getitem__" t]) Q E s := by
  obtain ⟨n, ho⟩ := hl
  exact hasattr_list0 ho hg X fun h' tk nw D => bare_state hg h' tk ▸ ret h' tk fun b o e => D.keep b o e (by simp [away])
theorem mul_listR {l : Addr} {xs : List Value} {x : Int} {u : Tok} {Q : Value → Shared → Prop} (hl : ListAt s.heap l xs) (hx : x = 1 ∨ x = 2) (hsz : xs.length ≤ 1000)
    (h : ∀ D h' tk, Kp s.heap h' → s.heap.objs.size ≤ D → ListAt h' D (if x = 1 then xs else xs ++ xs) → Q (.ref D) { s with heap := h', toks := tk }) :
    wpAny (model prog w) A (binaryOp .Mult (.ref l) (.int x u)) Q E s := by
  obtain ⟨k, ho⟩ := hl
  have hz : xs.toArray.size * x.toNat ≤ 2000 := by
    rw [List.size_toArray]
    rcases hx with rfl | rfl <;> simp <;> omega
  refine wpAny_binaryOp_repeat_ref (T := "list") (U := "int") (by decide) ⟨_, ho, rfl⟩ (fun s' => typeIs_int s' x u) noFill_list_mul F.fills_int_mul F.slot_int_rmul repeat_list F.slot_int_index.lookup
    (call_meets F.slot_int_rmul (typeIs_int s x u) F.entry_int_rmul (F.args_int_rmul_2 _ _) (int___rmul___int_list x u l xs.toArray k)
      ⟨ho, rfl, ⟨_, ho, rfl⟩, call_meets F.slot_list_mul ⟨_, ho, rfl⟩ F.entry_list_mul (F.args_list_mul_2 _ _)
        (AutoListH.list___mul___list_int_3 l xs.toArray k x u (by rcases hx with rfl | rfl <;> decide) (by omega) (by simp only [Builtin.List.listTooLong, sizeLine_eq]; simp only [decide_eq_true_eq]; omega))
        ⟨ho, ?_⟩⟩)
  refine h _ _ _ (fun _ _ e => Heap.get?_push_of_some _ e) (Nat.le_refl _) ⟨0, ?_⟩
  rw [Heap.get?_push_size _ rfl]
  congr 2
  rcases hx with rfl | rfl
  · cases xs <;> simp
  · cases xs <;> simp
end
theorem concat_spec {prog : Program} {w : World} {p loose mean mg mb} {s : Shared} {a b : Addr} {xs ys : List Value} {Q E : Value → Shared → Prop}
    (X : (hd.heap_1 w.params).In s.heap) (T : Top p loose mean mg mb s.heap) (hg : s.gens = #[]) (ha : ListAt s.heap a xs) (hb : ListAt s.heap b ys) (hz : xs.length + ys.length ≤ 1000)
    (ret : ∀ r h' tk', Kp s.heap h' → ListAt h' r (xs ++ ys) → Q (.ref r) { s with heap := h', toks := tk' }) :
    wpAny (model prog w) (AX 690 4900) (call (.ref 83) [.ref a, .ref b]) Q E s := by
  k_with "mine hasattr" => (
    refine wpAny_weaken (n := 700) (u := 5000) ?_ rfl (Nat.le_of_ble_eq_true rfl) rfl (Nat.le_of_ble_eq_true rfl)
    refine hasattr_list (ha.keeps (Fr.keep (by assumption))) hg (X.keeps (Fr.keep (by assumption))) ?_
    intro h' tk' k'
    have F' := Fr.keeps (by assumption) k'
    have N' := News.grown (by assumption) k'
    dsimp only)
  k_with "mine addl" => (
    obtain ⟨na, ea⟩ := ha.keeps (Fr.keep (by assumption))
    obtain ⟨nb, eb⟩ := hb.keeps (Fr.keep (by assumption))
    refine P.add_list ea eb ?_ (by rw [List.size_toArray, List.size_toArray, sizeLine_eq]; omega))
  walk_at "mine enter"
  k_steps
  dsimp only
  refine ret _ _ _ (fun b o e => Heap.get?_push_of_some _ (k' b o (Fr.keep (by assumption) b o e))) ⟨0, ?_⟩
  rw [Heap.get?_push_size _ rfl, List.append_toArray]
theorem mull_spec {prog : Program} {w : World} {p loose mean mg mb} {s : Shared} {a : Addr} {n : Int} {tn : Tok} {xs : List Value} {Q E : Value → Shared → Prop}
    (X : (hd.heap_1 w.params).In s.heap) (T : Top p loose mean mg mb s.heap) (ha : ListAt s.heap a xs) (hn : n = 1 ∨ n = 2) (hz : xs.length ≤ 1000)
    (ret : ∀ r h' tk', Kp s.heap h' → s.heap.get? r = none → ListAt h' r (if n = 1 then xs else xs ++ xs) → Q (.ref r) { s with heap := h', toks := tk' }) :
    wpAny (model prog w) (AX 690 4900) (call (.ref 62) [.ref a, .int n tn]) Q E s := by
  k_with "mine mull" => (
    refine mul_listR (ha.keeps (Fr.keep (by assumption))) hn hz ?_
    intro D' h' tk' k' lD' hD')
  walk_at "mine enter"
  k_steps
  dsimp only
  exact ret _ _ _ (fun b o e => k' b o (Fr.keep (by assumption) b o e)) (new_of (Fr.keep (by assumption)) lD') hD'
theorem step_room {n c d d' m : Nat} (h : n + c * d ≤ m) (hd : d' < d) : n + c + c * d' ≤ m := by
  rw [Nat.add_assoc, Nat.add_comm c, ← Nat.mul_succ]
  exact Nat.le_trans (Nat.add_le_add_left (Nat.mul_le_mul_left c hd) n) h
/-- what hangs in a sheet: steps (to, figure, from) and loops -/
inductive Kids where
  | nil
  | step (i d j : Nat) (r : Kids)
  | loop (inner r : Kids)
namespace Kids
noncomputable def texts (ns : List Int) : Kids → List Str
  | nil => []
  | step i d j r => stText ns i d j :: r.texts ns
  | loop a r => a.texts ns ++ a.texts ns ++ r.texts ns
noncomputable def dep : Kids → Nat
  | nil => 0
  | step _ _ _ r => max 1 r.dep
  | loop a r => max (a.dep + 1) r.dep
noncomputable def items : Kids → List (Sum (Nat × Nat × Nat) Kids)
  | nil => []
  | step i d j r => .inl (i, d, j) :: r.items
  | loop a r => .inr a :: r.items
noncomputable def txt (ns : List Int) : Sum (Nat × Nat × Nat) Kids → List Str
  | .inl x => [stText ns x.1 x.2.1 x.2.2]
  | .inr a => a.texts ns ++ a.texts ns
theorem texts_items (ns : List Int) : ∀ K : Kids, K.texts ns = K.items.flatMap (txt ns)
  | nil => rfl
  | step i d j r => by simp [texts, items, txt, texts_items ns r]
  | loop a r => by simp [texts, items, txt, texts_items ns r]
theorem dep_inner : ∀ {K a : Kids}, .inr a ∈ K.items → a.dep + 1 ≤ K.dep
  | nil, _, h => nomatch h
  | step i d j r, a, h => by
    rcases List.mem_cons.mp h with e | h
    · cases e
    · exact Nat.le_trans (dep_inner (K := r) h) (Nat.le_max_right _ _)
  | loop b r, a, h => by
    rcases List.mem_cons.mp h with e | h
    · cases e; exact Nat.le_max_left _ _
    · exact Nat.le_trans (dep_inner (K := r) h) (Nat.le_max_right _ _)
theorem dep_step : ∀ {K : Kids} {x : Nat × Nat × Nat}, .inl x ∈ K.items → 1 ≤ K.dep
  | nil, _, h => nomatch h
  | step i d j r, a, h => Nat.le_max_left _ _
  | loop b r, a, h => by
    rcases List.mem_cons.mp h with e | h
    · cases e
    · exact Nat.le_trans (dep_step (K := r) h) (Nat.le_max_right _ _)
noncomputable def sz : Kids → Nat
  | nil => 0
  | step _ _ _ r => r.sz + 1
  | loop a r => a.sz + r.sz + 1
theorem items_sz : ∀ K : Kids, K.items.length ≤ K.sz
  | nil => Nat.le_refl _
  | step i d j r => by simpa [items, sz] using items_sz r
  | loop a r => by have := items_sz r; simp only [items, sz, List.length_cons]; omega
theorem sz_inner : ∀ {K a : Kids}, .inr a ∈ K.items → a.sz + 1 ≤ K.sz
  | nil, _, h => nomatch h
  | step i d j r, a, h => by
    rcases List.mem_cons.mp h with e | h
    · cases e
    · have := sz_inner (K := r) h
      simp only [sz]; omega
  | loop b r, a, h => by
    rcases List.mem_cons.mp h with e | h
    · cases e; simp only [sz]; omega
    · have := sz_inner (K := r) h
      simp only [sz]; omega
theorem texts_inner (ns : List Int) : ∀ {K a : Kids}, .inr a ∈ K.items → (a.texts ns).length * 2 ≤ (K.texts ns).length
  | nil, _, h => nomatch h
  | step i d j r, a, h => by
    rcases List.mem_cons.mp h with e | h
    · cases e
    · have := texts_inner ns (K := r) h
      simp only [texts, List.length_cons]; omega
  | loop b r, a, h => by
    rcases List.mem_cons.mp h with e | h
    · cases e; simp only [texts, List.length_append]; omega
    · have := texts_inner ns (K := r) h
      simp only [texts, List.length_append]; omega
end Kids
/-- a thing: its tag, its text, how many times it is read, its tail; its kids lie in the list at ka -/
noncomputable def Th (prog : Program) (w : World) (h : Heap) (t : Addr) (tag text : Str) (times : Int) (vl : Value) (ka : Addr) : Prop :=
  ∃ g da tx tn, Static prog w g t tag vl da ka ∧ Kp g h ∧ NoLists g ∧ h.DictOf (strKind prog w) da (attKvs (.str text tx) (.int times tn) vl)
noncomputable def KidsAt (prog : Program) (w : World) (ns : List Int) (h : Heap) (lo : Nat) : List Value → Kids → Prop
  | vs, .nil => vs = []
  | vs, .step i d j r => ∃ (t ka : Addr) (vs' : List Value), vs = .ref t :: vs' ∧ lo ≤ ka ∧ Th prog w h t "step" (stText ns i d j) 1 .none ka ∧ ListAt h ka [] ∧ KidsAt prog w ns h lo vs' r
  | vs, .loop a r => ∃ (t ka : Addr) (ws vs' : List Value), vs = .ref t :: vs' ∧ lo ≤ ka ∧ Th prog w h t "loop" "" 2 .none ka ∧ ListAt h ka ws ∧ KidsAt prog w ns h lo ws a ∧ KidsAt prog w ns h lo vs' r
noncomputable def ItAt (prog : Program) (w : World) (ns : List Int) (h : Heap) (lo : Nat) (v : Value) : Sum (Nat × Nat × Nat) Kids → Prop
  | .inl x => ∃ (t ka : Addr), v = .ref t ∧ lo ≤ ka ∧ Th prog w h t "step" (stText ns x.1 x.2.1 x.2.2) 1 .none ka ∧ ListAt h ka []
  | .inr a => ∃ (t ka : Addr) (ws : List Value), v = .ref t ∧ lo ≤ ka ∧ Th prog w h t "loop" "" 2 .none ka ∧ ListAt h ka ws ∧ KidsAt prog w ns h lo ws a
section
variable {prog : Program} {w : World} {ns : List Int} {lo : Nat}
theorem Th.keeps {h h' : Heap} {t : Addr} {tag text : Str} {times : Int} {vl : Value} {ka : Addr} (x : Th prog w h t tag text times vl ka) (k : Kp h h') : Th prog w h' t tag text times vl ka :=
  let ⟨g, da, tx, tn, a, b, c, d⟩ := x; ⟨g, da, tx, tn, a, fun b' o e => k _ _ (b b' o e), c, d.keep k⟩
theorem Th.upd {h h' : Heap} {t pka : Addr} {tag text : Str} {times : Int} {vl : Value} {ka : Addr} (x : Th prog w h t tag text times vl ka) (u : Upd pka h h') (l : Mut h pka) : Th prog w h' t tag text times vl ka :=
  let ⟨g, da, tx, tn, a, b, c, d⟩ := x; ⟨g, da, tx, tn, a, u.static b c l, c, u.dict l d⟩
theorem KidsAt.keeps {h h' : Heap} (k : Kp h h') : ∀ {K : Kids} {vs : List Value}, KidsAt prog w ns h lo vs K → KidsAt prog w ns h' lo vs K
  | .nil, _, x => x
  | .step i d j r, _, x => by obtain ⟨t, ka, vs', e, l, th, la, q⟩ := x; exact ⟨t, ka, vs', e, l, th.keeps k, la.keeps k, KidsAt.keeps k q⟩
  | .loop a r, _, x => by obtain ⟨t, ka, ws, vs', e, l, th, la, q, q'⟩ := x; exact ⟨t, ka, ws, vs', e, l, th.keeps k, la.keeps k, KidsAt.keeps k q, KidsAt.keeps k q'⟩
theorem KidsAt.upd {h h' : Heap} {pka : Addr} (u : Upd pka h h') (l : Mut h pka) (hlt : ∀ kb xs, ListAt h kb xs → lo ≤ kb → @Ne Nat kb pka) : ∀ {K : Kids} {vs : List Value}, KidsAt prog w ns h lo vs K → KidsAt prog w ns h' lo vs K
  | .nil, _, x => x
  | .step i d j r, _, x => by obtain ⟨t, ka, vs', e, lk, th, la, q⟩ := x; exact ⟨t, ka, vs', e, lk, th.upd u l, u.list (hlt _ _ la lk) la, KidsAt.upd u l hlt q⟩
  | .loop a r, _, x => by obtain ⟨t, ka, ws, vs', e, lk, th, la, q, q'⟩ := x; exact ⟨t, ka, ws, vs', e, lk, th.upd u l, u.list (hlt _ _ la lk) la, KidsAt.upd u l hlt q, KidsAt.upd u l hlt q'⟩
theorem KidsAt.length {h : Heap} : ∀ {K : Kids} {vs : List Value}, KidsAt prog w ns h lo vs K → vs.length = K.items.length
  | .nil, _, x => by rw [show _ = [] from x]; rfl
  | .step i d j r, _, x => by
    obtain ⟨t, ka, vs', rfl, l, th, la, q⟩ := x
    simp [Kids.items, KidsAt.length q]
  | .loop a r, _, x => by
    obtain ⟨t, ka, ws, vs', rfl, l, th, la, q, q'⟩ := x
    simp [Kids.items, KidsAt.length q']
theorem KidsAt.get {h : Heap} : ∀ {K : Kids} {vs : List Value} {n : Nat} {v : Value}, KidsAt prog w ns h lo vs K → vs[n]? = some v → ∃ it, K.items[n]? = some it ∧ ItAt prog w ns h lo v it
  | .nil, vs, n, v, x, e => by rw [show vs = [] from x] at e; simp at e
  | .step i d j r, _, n, v, x, e => by
    obtain ⟨t, ka, vs', rfl, l, th, la, q⟩ := x
    cases n with
    | zero => cases e; exact ⟨_, rfl, t, ka, rfl, l, th, la⟩
    | succ n =>
      have := KidsAt.get q (n := n) (v := v) (by simpa using e)
      simpa [Kids.items] using this
  | .loop a r, _, n, v, x, e => by
    obtain ⟨t, ka, ws, vs', rfl, l, th, la, q, q'⟩ := x
    cases n with
    | zero => cases e; exact ⟨_, rfl, t, ka, ws, rfl, l, th, la, q⟩
    | succ n =>
      have := KidsAt.get q' (n := n) (v := v) (by simpa using e)
      simpa [Kids.items] using this
end
/-- values that are texts -/
inductive Strs : List Value → List Str → Prop
  | nil : Strs [] []
  | cons (x : Str) (t : Tok) {vs : List Value} {ss : List Str} : Strs vs ss → Strs (.str x t :: vs) (x :: ss)
theorem Strs.append : ∀ {vs vs' : List Value} {ss ss' : List Str}, Strs vs ss → Strs vs' ss' → Strs (vs ++ vs') (ss ++ ss')
  | _, _, _, _, .nil, h => h
  | _, _, _, _, .cons x t a, h => .cons x t (a.append h)
theorem Strs.length : ∀ {vs : List Value} {ss : List Str}, Strs vs ss → vs.length = ss.length
  | _, _, .nil => rfl
  | _, _, .cons _ _ a => by simp [a.length]
section
variable {prog : Program} {w : World} {A : Around} {env : Env} {h : Heap}
theorem Ev.str {x : Str} {k pos} : Ev prog w A env (.Constant (.str x) k pos) h (fun v => ∃ t, v = .str x t) := fun s Q E hs k => wpAny_Constant_str (k _ _ ⟨_, rfl⟩)
theorem Ev.dsub {value : Expr} {x : Str} {k p pos} {da : Addr} {kvs : List (Str × Value)} {v : Value} (hv : Ev prog w A env value h (fun u => u = .ref da)) (hd : h.DictOf (strKind prog w) da kvs) (hx : valueAt kvs x = some v) :
    Ev prog w A env (.Subscript value (.Constant (.str x) k p) pos) h (fun u => u = v) := fun s Q E hh kk => by
  refine Subscript_ (hv s _ _ hh fun o tk e => ?_)
  subst e
  refine wpAny_Constant_str ?_
  subst hh
  exact attTail hd hx (kk v _ rfl)
theorem Ev.attr {o : Expr} {name : Str} {pos : Pos} {t : Addr} {m : Str → Option Value} {v : Value} (ho : Ev prog w A env o h (fun u => u = .ref t)) (hf : FnAt h t m) (hm : m name = some v) (hp : PlainV v) (hB : typeLookup (.type "function") name = pure none)
    (hbase : attributeBase o name env (eval o env) = eval o env := by rfl) :
    Ev prog w A env (.Attribute o name pos) h (fun u => u = v) := fun s Q E hh kk => by
  rw [arm_eval_Attribute, hbase]
  refine wpAny_bind (ho s _ _ hh fun u tk e => ?_)
  subst e
  subst hh
  refine wpAny_bind (wpAny_standAt (wpAny_bind (wpAny_holding (getAttr_fn (s := { s with toks := tk }) hf hm hp hB fun tk₂ => ?_))))
  exact wpAny_bind (wpAny_letTemporaryGo (wpAny_pure (kk v _ rfl)))
end
noncomputable def hdT (text : Str) : List Str := if text.length = 0 then [] else [text]
noncomputable def rep {α : Type} (times : Int) (l : List α) : List α := if times = 1 then l else l ++ l
noncomputable def TextsC (prog : Program) (w : World) (p : Program) (loose : List Str) (mean : ExcName → Option Value) (mg mb : Str → Option Value) (ns : List Int) (d n u : Nat) : Prop :=
  ∀ (s : Shared) (da ka : Addr) (lo : Nat) (vs : List Value) (text : Str) (times : Int) (vl : Value) (tx tn : Tok) (K : Kids) (Q E : Value → Shared → Prop), (hd.heap_1 w.params).In s.heap → Top p loose mean mg mb s.heap → s.gens = #[] →
    s.heap.DictOf (strKind prog w) da (attKvs (.str text tx) (.int times tn) vl) → ListAt s.heap ka vs → KidsAt prog w ns s.heap lo vs K → K.dep ≤ d → (times = 1 ∨ times = 2) → text.length ≤ 10 → (K.texts ns).length ≤ 300 → K.sz ≤ 300 →
    (∀ r h' tk' ys, Kp s.heap h' → s.heap.get? r = none → ListAt h' r ys → Strs ys (rep times (hdT text ++ K.texts ns)) → Q (.ref r) { s with heap := h', toks := tk' }) → wpAny (model prog w) (AX n u) (call (.ref 120) [.ref da, .ref ka]) Q E s
theorem fnO {P : Params} {h : Heap} {a : Addr} (X : (hd.heap_1 P).In h) (e : ∃ o fd, (hd.heap_1 P).lookup a = some o ∧ o.data = .func fd) : FnO h a := by obtain ⟨o, fd, a, b⟩ := e; exact ⟨o, fd, X _ _ a, b⟩
theorem fn83 (P : Params) : ∃ o fd, (hd.heap_1 P).lookup 83 = some o ∧ o.data = .func fd := ⟨_, _, rfl, rfl⟩
theorem fn62 (P : Params) : ∃ o fd, (hd.heap_1 P).lookup 62 = some o ∧ o.data = .func fd := ⟨_, _, rfl, rfl⟩
/-- a global name that is a function of the program -/
noncomputable def Gl (h : Heap) (x : Str) (v : Value) : Prop := ∃ mg, h.Ns mainGlobals mg ∧ mg x = some v
theorem Gl.keeps {h h' : Heap} {x : Str} {v : Value} (b : Gl h x v) (k : Kp h h') : Gl h' x v := by obtain ⟨mg, a1, a2⟩ := b; exact ⟨mg, a1.keeps k, a2⟩
theorem Gl.of {p loose mean mg mb} {K : Frag} {h : Heap} {x : Str} {v : Value} (X : K.In h) (T : Top p loose mean mg mb h) (e : nsIn K mainGlobals x = some (some v)) : Gl h x v := ⟨mg, T.g, mg_of X T.g e⟩
section
variable {prog : Program} {w : World} {A : Around} {env : Env} {E : Value → Shared → Prop} {s : Shared}
theorem Ev.global {h : Heap} {x : Str} {pos : Pos} {v : Value} (b : Gl h x v) (hg : env.globals = mainGlobals) (hk : env.scope.kind = .function) (hx : env.kindOf x = some .globalImplicit) (hd : (x == ("__debug__" : Str)) = false := by decide) :
    Ev prog w A env (.Name x pos) h (fun u => u = v) := fun s Q E hs k => by
  subst hs
  obtain ⟨mg, a1, a2⟩ := b
  exact Name_function_global hk hx (loadGlobal_global (env := env) (hg ▸ a1) a2 (k v s.toks rfl)) hd
/-- a function of the program called with two values that stand -/
theorem call2 {f e1 e2 : Expr} {pos : Pos} {a : Addr} {u1 : Value} {P2 : Value → Prop} {Q : Value → Shared → Prop} (hf : Ev prog w A env f s.heap (fun u => u = .ref a)) (h1 : Ev prog w A env e1 s.heap (fun u => u = u1)) (h2 : Ev prog w A env e2 s.heap P2) (hfn : FnO s.heap a)
    (h : ∀ u2 tk, P2 u2 → wpAny (model prog w) A (call (.ref a) [u1, u2]) Q E { s with toks := tk })
    (he : eval (.Call f [e1, e2] [] pos) env = (do callWith pos (← eval f env) [] (backTo pos (starEach [e1, e2] env)) (backToKw pos (keywordEach [] env))) := by rfl)
    (hs : backTo pos (starEach [e1, e2] env) = [(false, eval e1 env), (false, eval e2 env)] := by rfl) :
    wpAny (model prog w) A (eval (.Call f [e1, e2] [] pos) env) Q E s := by
  obtain ⟨ob, fd, hob, hdat⟩ := hfn
  refine PyProof.Rows.Call_ (hf s _ _ rfl fun u tk e => ?_) he
  subst e
  rw [hs]
  refine Calls.callWith_function (o := ob) (fd := fd) (Calls.evalArgs_plain (Calls.spliced_cons (h1 { s with toks := tk } _ _ rfl fun u tk₃ e => Calls.spliced_cons (h2 { s with toks := tk₃ } _ _ rfl fun u' tk₄ e' => Calls.spliced_nil ?_))))
  subst e
  exact ⟨⟨hob, hdat⟩, h u' tk₄ e'⟩
/-- the same, the second value made by what may lay objects -/
theorem call2m {f e1 e2 : Expr} {pos : Pos} {a : Addr} {u1 : Value} {Q : Value → Shared → Prop} (hf : Ev prog w A env f s.heap (fun u => u = .ref a)) (h1 : Ev prog w A env e1 s.heap (fun u => u = u1)) (hfn : FnO s.heap a)
    (h2 : ∀ tk, wpAny (model prog w) A (eval e2 env) (fun u2 s' => Kp s.heap s'.heap ∧ wpAny (model prog w) A (call (.ref a) [u1, u2]) Q E s') E { s with toks := tk })
    (he : eval (.Call f [e1, e2] [] pos) env = (do callWith pos (← eval f env) [] (backTo pos (starEach [e1, e2] env)) (backToKw pos (keywordEach [] env))) := by rfl)
    (hs : backTo pos (starEach [e1, e2] env) = [(false, eval e1 env), (false, eval e2 env)] := by rfl) :
    wpAny (model prog w) A (eval (.Call f [e1, e2] [] pos) env) Q E s := by
  obtain ⟨ob, fd, hob, hdat⟩ := hfn
  refine PyProof.Rows.Call_ (hf s _ _ rfl fun u tk e => ?_) he
  subst e
  rw [hs]
  refine Calls.callWith_function (o := ob) (fd := fd) (Calls.evalArgs_plain (Calls.spliced_cons (h1 { s with toks := tk } _ _ rfl fun u tk₃ e => Calls.spliced_cons (wpAny_mono (h2 tk₃) (fun u2 s' q => Calls.spliced_nil ?_) fun _ _ q => q))))
  subst e
  exact ⟨⟨q.1 _ _ hob, hdat⟩, q.2⟩
/-- `[x] if x else []` for a text x -/
theorem textHead {x1 x2 : Expr} {p1 p2 pos : Pos} {text : Str} {tx : Tok} {Q : Value → Shared → Prop} (h1 : Ev prog w A env x1 s.heap (fun u => u = .str text tx)) (h2 : Ev prog w A env x2 s.heap (fun u => u = .str text tx)) (hz : text.length ≤ 10)
    (h : ∀ D h' tk ys, Kp s.heap h' → s.heap.objs.size ≤ D → ListAt h' D ys → Strs ys (hdT text) → Q (.ref D) { s with heap := h', toks := tk })
    (hs : backTo p1 (starEach [x2] env) = [(false, eval x2 env)] := by rfl) (ht : isTrue x1 env (eval x1 env) = (do let v ← eval x1 env; standAt x1.pos; holding [v] (truthy v)) := by rfl) :
    wpAny (model prog w) A (eval (.IfExp x1 (.List [x2] p1) (.List [] p2) pos) env) Q E s := by
  refine wpAny_IfExp (wpAny_isTrue_value (h1 s _ _ rfl fun u tk e => ?_) ht)
  subst e
  refine PySem.P.truthy_str (by omega) ?_
  by_cases q : text.length = 0
  · rw [show ((text.length : Int) != 0) = false by rw [q]; rfl]
    simp only [Bool.false_eq_true, if_false]
    refine List_ (Calls.spliced_nil (wpAny_newList ?_ (by decide)))
    exact h _ _ _ [] (fun _ _ e => Heap.get?_push_of_some _ e) (Nat.le_refl _) ⟨0, Heap.get?_push_size _ rfl⟩ (by rw [hdT, if_pos q]; exact .nil)
  · rw [show ((text.length : Int) != 0) = true by simpa using q]
    simp only [if_true]
    refine List_ ?_
    rw [hs]
    refine Calls.spliced_cons (h2 { s with toks := tk + 1 + 1 } _ _ rfl fun u tk₂ e => Calls.spliced_nil (wpAny_newList ?_ (by rw [sizeLine_eq]; show 1 ≤ _; decide)))
    subst e
    exact h _ _ _ [.str text tx] (fun _ _ e => Heap.get?_push_of_some _ e) (Nat.le_refl _) ⟨0, Heap.get?_push_size _ rfl⟩ (by rw [hdT, if_neg q]; exact .cons _ _ .nil)
end
theorem fn120' (P : Params) : ∃ o fd, (hd.heap_1 P).lookup 120 = some o ∧ o.data = .func fd := ⟨_, _, rfl, rfl⟩
/-- a kid as _law_texts sees it -/
theorem kid_view {prog : Program} {w : World} {ns : List Int} {h : Heap} {lo : Nat} {v : Value} {K : Kids} {item : Sum (Nat × Nat × Nat) Kids} (hm : item ∈ K.items) (x : ItAt prog w ns h lo v item) (hz : (K.texts ns).length ≤ 300) (hs : K.sz ≤ 300) :
    ∃ (t : Addr) (g : Heap) (da' ka' : Addr) (tag text' : Str) (times' : Int) (vl' : Value) (tx' tn' : Tok) (ws : List Value) (K' : Kids), v = .ref t ∧ Static prog w g t tag vl' da' ka' ∧ Kp g h ∧ h.DictOf (strKind prog w) da' (attKvs (.str text' tx') (.int times' tn') vl') ∧ ListAt h ka' ws ∧
      KidsAt prog w ns h lo ws K' ∧ K'.dep < K.dep ∧ (times' = 1 ∨ times' = 2) ∧ text'.length ≤ 10 ∧ (K'.texts ns).length ≤ 300 ∧ K'.sz ≤ 300 ∧ rep times' (hdT text' ++ K'.texts ns) = Kids.txt ns item := by
  cases item with
  | inl y =>
    obtain ⟨t, ka, rfl, lk, ⟨g, da, tx, tn, a, b, c, d⟩, la⟩ := x
    exact ⟨t, g, da, ka, _, _, 1, _, tx, tn, [], .nil, rfl, a, b, d, la, rfl, Kids.dep_step hm, .inl rfl, by show 3 ≤ 10; decide, Nat.zero_le _, Nat.zero_le _, rfl⟩
  | inr K' =>
    obtain ⟨t, ka, ws, rfl, lk, ⟨g, da, tx, tn, a, b, c, d⟩, la, q⟩ := x
    refine ⟨t, g, da, ka, _, _, 2, _, tx, tn, ws, K', rfl, a, b, d, la, q, Kids.dep_inner hm, .inr rfl, Nat.zero_le _, ?_, ?_, rfl⟩
    · have := Kids.texts_inner ns hm; omega
    · have := Kids.sz_inner hm; omega
theorem texts_step {prog : Program} {w : World} {p : Program} {loose : List Str} {mean : ExcName → Option Value} {mg mb : Str → Option Value} {ns : List Int} {d n u : Nat} (hn : n ≤ 600) (hu : u ≤ 4000)
    (IH : ∀ d', d' < d → TextsC prog w p loose mean mg mb ns d' (n + 10) (u + 20)) : TextsC prog w p loose mean mg mb ns d n u := by
  intro s da ka lo vs text times vl tx tn K Q E X T hg hA hl hK hd ht htl htz hsz ret
  have g1 : Gl s.heap "concat" (.ref 83) := Gl.of X T (by k_is)
  have g2 : Gl s.heap "mul" (.ref 62) := Gl.of X T (by k_is)
  have g3 : Gl s.heap "_law_texts" (.ref 120) := Gl.of X T (by k_is)
  refine' enter X (Top.nolimit T) ?k6 ?k7 ?k8 ?k9 ?kB ?_ ?c2 ?c3 ?c4 ?c5
  (case k6 => k_is)
  (case k7 => k_is)
  (case k8 => show n < 1000; omega)
  (case k9 => exact BindsTo.of_eq rfl)
  (case c5 => decide)
  (case kB => exact locs rfl)
  (case c2 => exact rfl)
  (case c3 => exact rfl)
  (case c4 => exact rfl)
  intro L h₁ tk₁ hL F₁ N₁
  have k₁ := F₁.keep
  have n1 := F₁.ns
  have lL : s.heap.objs.size ≤ L := Nat.le_of_eq hL.symm
  refine wpAny_execs_cons (wpAny_Assign_Name (textHead (s := { s with heap := h₁, toks := tk₁ }) (text := text) (tx := tx) (Ev.dsub (Ev.local n1 rfl rfl rfl) (hA.keep k₁) rfl) (Ev.dsub (Ev.local n1 rfl rfl rfl) (hA.keep k₁) rfl) htl fun D h₂ tk₂ ys k₂ lD hD hys => ?_))
  refine wpAny_storeName_local rfl (n1.keeps k₂) (fun h₃ n3 s3 => ?_) rfl
  have k₃ : Kp s.heap h₃ := fun b o e => s3.extBut b o (Nat.ne_of_lt (Nat.lt_of_lt_of_le (Heap.lt_size e) lL)) (k₂ b o (k₁ b o e))
  have hDL : @Ne Nat D L := Nat.ne_of_gt (Nat.lt_of_lt_of_le n1.lt lD)
  have hD3 : ListAt h₃ D ys := by obtain ⟨m, e⟩ := hD; exact ⟨m, s3.extBut _ _ hDL e⟩
  dsimp only
  obtain ⟨J, hJ⟩ : ∃ J : Nat → (Str → Option Value) → Heap → Prop, ∀ i m h, J i m h ↔ (Kp s.heap h ∧ m "attrib" = some (.ref da) ∧ m "kids" = some (.ref ka) ∧ ∃ D ys, m "texts" = some (.ref D) ∧ ListAt h D ys ∧ @Ne Nat D L ∧ h₃.objs.size ≠ D ∧ Strs ys (hdT text ++ (K.items.take i).flatMap (Kids.txt ns))) := ⟨_, fun _ _ _ => Iff.rfl⟩
  refine wpAny_execs_cons (for_list (s := { s with heap := h₃, toks := _ }) (l := ka) (xs := vs) J
    rfl rfl rfl (Ev.local n3 rfl rfl rfl) ?_ n3 ?_ ?_ ?_ ?_ ?_)
  · rw [hK.length]
    have := K.items_sz
    omega
  · intro i m h qq0
    have k := ((hJ _ _ _).mp qq0).1
    exact hl.keeps k
  · intro i m h h' qq0 kk
    refine gg fun P hP => ?_
    obtain ⟨k, a1, a2, D', ys', a3, a4, a5, a6, a7⟩ := (hJ _ _ _).mp qq0
    refine hP ?_
    clear hP
    have sz : s.heap.objs.size ≤ h₃.objs.size := Nat.le_of_lt (Nat.lt_of_le_of_lt lL n3.lt)
    refine (hJ _ _ _).mpr ⟨fun b o e => kk b o (Nat.ne_of_gt (Nat.lt_of_lt_of_le (Heap.lt_size e) sz)) (Nat.ne_of_lt (Nat.lt_of_lt_of_le (Heap.lt_size e) lL)) (k b o e), a1, a2, D', ys', a3, ?_, a5, a6, a7⟩
    obtain ⟨q, e⟩ := a4
    exact ⟨q, kk _ _ a6 a5 e⟩
  · refine (hJ _ _ _).mpr ⟨k₃, rfl, rfl, D, ys, rfl, hD3, hDL, Nat.ne_of_gt (by obtain ⟨q, e⟩ := hD3; exact Heap.lt_size e), by simpa using hys⟩
  · intro i v m h tk it hv qq0 hn hit qq1
    refine gg fun P hP => ?_
    obtain ⟨k, a1, a2, D', ys', a3, a4, a5, a6, a7⟩ := (hJ _ _ _).mp qq0
    obtain ⟨itv, hitd⟩ := qq1
    obtain ⟨item, hi1, hi2⟩ := (hK.keeps k).get hv
    refine hP ?_
    clear hP
    have hmem : item ∈ K.items := List.mem_of_getElem? hi1
    refine gg fun P hP => ?_
    obtain ⟨t, g, da', ka', tag, text', times', vl', tx', tn', ws, K', rfl, sS, kg, dA', la', q', hdep, ht', hl', hz', hs', hrep⟩ := kid_view hmem hi2 htz hsz
    obtain ⟨mm, fa, fi, hF, m1, m2, m3, m4, m5, m6, m7, hAp, hIt, hfa, hfi⟩ := sS.m
    refine hP ?_
    clear hP
    have kh : Kp s.heap h := k
    have eT : (fun y => if y = ("kid" : Str) then some (Value.ref t) else m y) "texts" = some (.ref D') := by show (if _ then _ else m "texts") = _; rw [if_neg (by decide)]; exact a3
    have eA : (fun y => if y = ("kid" : Str) then some (Value.ref t) else m y) "attrib" = some (.ref da) := by show (if _ then _ else m "attrib") = _; rw [if_neg (by decide)]; exact a1
    have eK : (fun y => if y = ("kid" : Str) then some (Value.ref t) else m y) "kids" = some (.ref ka) := by show (if _ then _ else m "kids") = _; rw [if_neg (by decide)]; exact a2
    generalize hmk : (fun y => if y = ("kid" : Str) then some (Value.ref t) else m y) = mk at hn eT eA eK
    have eV : mk "kid" = some (.ref t) := by rw [← hmk]; rfl
    refine wpAny_execs_cons (wpAny_Assign_Name (call2m (s := { s with heap := h, toks := tk }) (u1 := .ref D') (Ev.global (g1.keeps kh) rfl rfl rfl) (Ev.local hn eT rfl rfl) (fnO (X.keeps kh) (fn83 _)) fun tk₅ => ?_))
    refine meth0 (s := { s with heap := h, toks := tk₅ }) (Ev.local hn eV rfl rfl) (hF.keeps kg) m7 tl_itertext (hfi.keeps kg) fun tk₆ => ?_
    refine hIt _ { s with heap := h, toks := tk₆ } _ _ (show n + 1 < 990 by omega) (X.keeps kh) ((Top.nolimit T).keeps kh) (g3.keeps kh) kg fun env' h₄ tk₇ k₄ => ?_
    have kh₄ : Kp s.heap h₄ := fun b o e => k₄ b o (kh b o e)
    refine wpAny_weaken (n := n + 10) (u := u + 20) ?_ rfl (show n + 1 + 1 ≤ n + 10 by omega) rfl (show u + 3 + 3 ≤ u + 20 by omega)
    refine IH K'.dep (by omega) { s with heap := h₄, toks := tk₇ } da' ka' lo ws text' times' vl' tx' tn' K' _ _ (X.keeps kh₄) (T.keeps kh₄) hg (dA'.keep k₄) (la'.keeps k₄) (q'.keeps k₄) (Nat.le_refl _) ht' hl' hz' hs' fun r h₅ tk₈ zs k₅ _ hr hzs => ?_
    rw [hrep] at hzs
    have k45 : Kp h h₅ := fun b o e => k₅ b o (k₄ b o e)
    refine ⟨k45, ?_⟩
    refine wpAny_weaken (n := 690) (u := 4900) ?_ rfl (show n + 1 ≤ 690 by omega) rfl (show u + 3 ≤ 4900 by omega)
    have len1 := a7.length
    have len2 := hzs.length
    have lenA : ((K.items.take i).flatMap (Kids.txt ns)).length + (Kids.txt ns item).length ≤ (K.texts ns).length := by
      rw [Kids.texts_items]
      conv => rhs; rw [← List.take_append_drop (i + 1) K.items]
      rw [List.take_add_one, hi1, List.flatMap_append, List.flatMap_append, List.length_append, List.length_append]
      simp only [Option.toList_some, List.flatMap_cons, List.flatMap_nil, List.append_nil]
      omega
    have lenH : (hdT text).length ≤ 1 := by unfold hdT; split <;> simp
    refine concat_spec (s := { s with heap := h₅, toks := tk₈ }) (X.keeps fun b o e => k45 b o (kh b o e)) (T.keeps fun b o e => k45 b o (kh b o e)) hg (a4.keeps k45) hr (by rw [List.length_append] at len1; omega) fun r₂ h₆ tk₉ k₆ hr₂ => ?_
    have k56 : Kp h h₆ := fun b o e => k₆ b o (k45 b o e)
    refine wpAny_storeName_local rfl (hn.keeps k56) (fun h₇ n7 s7 => ?_) rfl
    have rL : @Ne Nat r₂ L := by
      intro q
      refine gg fun P hP => ?_
      obtain ⟨o1, es, ep, e1, e2, _⟩ := hn.keeps k56
      obtain ⟨mq, e3⟩ := hr₂
      refine hP ?_
      clear hP
      rw [q, show h₆.get? L = some o1 from e1] at e3
      cases e3; cases e2
    have rI : @Ne Nat h₃.objs.size r₂ := by
      intro q
      obtain ⟨mq, e3⟩ := hr₂
      have := k56 _ _ hit
      rw [q, e3] at this
      cases this
      cases hitd
    refine wpAny_execs_nil ⟨rfl, h₇, _, _, rfl, s7.extBut _ _ (show @Ne Nat h₃.objs.size L from Nat.ne_of_gt n3.lt) (k56 _ _ hit), n7, (hJ _ _ _).mpr ⟨fun b o e => s7.extBut b o (Nat.ne_of_lt (Nat.lt_of_lt_of_le (Heap.lt_size e) lL)) (k56 _ _ (kh b o e)), ?_, ?_, r₂, ys' ++ zs, by simp, ?_, rL, rI, ?_⟩⟩
    · show (if _ then _ else mk "attrib") = _
      rw [if_neg (by decide)]; exact eA
    · show (if _ then _ else mk "kids") = _
      rw [if_neg (by decide)]; exact eK
    · obtain ⟨mq, e3⟩ := hr₂
      exact ⟨mq, s7.extBut _ _ rL e3⟩
    · rw [List.take_add_one, hi1, List.flatMap_append, ← List.append_assoc]
      simp only [Option.toList_some, List.flatMap_cons, List.flatMap_nil, List.append_nil]
      exact a7.append hzs
  · intro m h tk qq0 hn
    refine gg fun P hP => ?_
    obtain ⟨k, a1, a2, D', ys', a3, a4, a5, a6, a7⟩ := (hJ _ _ _).mp qq0
    refine hP ?_
    clear hP
    dsimp only
    rw [hK.length, List.take_length, ← Kids.texts_items] at a7
    refine wpAny_execs_cons (wpAny_Return_some (call2 (s := { s with heap := h, toks := tk }) (P2 := fun v => v = .int times tn) (u1 := .ref D') (Ev.global (g2.keeps k) rfl rfl rfl) (Ev.local hn a3 rfl rfl) (Ev.dsub (Ev.local hn a1 rfl rfl) (hA.keep k) rfl) (fnO (X.keeps k) (fn62 _)) fun u2 tk₅ e => ?_))
    subst e
    refine wpAny_weaken (n := 690) (u := 4900) ?_ rfl (show n + 1 ≤ 690 by omega) rfl (show u + 3 ≤ 4900 by omega)
    have len1 := a7.length
    have lenH : (hdT text).length ≤ 1 := by unfold hdT; split <;> simp
    refine mull_spec (s := { s with heap := h, toks := tk₅ }) (X.keeps k) (T.keeps k) a4 ht (by rw [List.length_append] at len1; omega) fun r h₅ tk₆ k₅ nr hr => ?_
    refine ret r h₅ tk₆ _ (fun b o e => k₅ b o (k b o e)) ?_ hr ?_
    · cases q : s.heap.get? r with
      | none => rfl
      | some o => have := k _ _ q; rw [show h.get? r = none from nr] at this; cases this
    unfold rep
    split
    · exact a7
    · exact a7.append a7
theorem texts_all {prog : Program} {w : World} {p : Program} {loose : List Str} {mean : ExcName → Option Value} {mg mb : Str → Option Value} {ns : List Int} :
    ∀ d n u, n + 10 * d ≤ 600 → u + 20 * d ≤ 4000 → TextsC prog w p loose mean mg mb ns d n u := by
  intro d
  induction d using Nat.strongRecOn with
  | _ d IH => exact fun n u h1 h2 => texts_step (Nat.le_trans (Nat.le_add_right _ _) h1) (Nat.le_trans (Nat.le_add_right _ _) h2) fun d' hd' => IH d' hd' _ _ (step_room h1 hd') (step_room h2 hd')
section
variable {prog : Program} {w : World} {A : Around} {env : Env} {E : Value → Shared → Prop} {s : Shared}
theorem call1 {f e1 : Expr} {pos : Pos} {a : Addr} {P1 : Value → Prop} {Q : Value → Shared → Prop} (hf : Ev prog w A env f s.heap (fun u => u = .ref a)) (h1 : Ev prog w A env e1 s.heap P1) (hfn : FnO s.heap a)
    (h : ∀ u1 tk, P1 u1 → wpAny (model prog w) A (call (.ref a) [u1]) Q E { s with toks := tk })
    (he : eval (.Call f [e1] [] pos) env = (do callWith pos (← eval f env) [] (backTo pos (starEach [e1] env)) (backToKw pos (keywordEach [] env))) := by rfl)
    (hs : backTo pos (starEach [e1] env) = [(false, eval e1 env)] := by rfl) :
    wpAny (model prog w) A (eval (.Call f [e1] [] pos) env) Q E s := by
  obtain ⟨ob, fd, hob, hdat⟩ := hfn
  refine PyProof.Rows.Call_ (hf s _ _ rfl fun u tk e => ?_) he
  subst e
  rw [hs]
  refine Calls.callWith_function (o := ob) (fd := fd) (Calls.evalArgs_plain (Calls.spliced_cons (h1 { s with toks := tk } _ _ rfl fun u tk₃ e => Calls.spliced_nil ?_)))
  exact ⟨⟨hob, hdat⟩, h u tk₃ e⟩
end
/-- the list of a for made by what may lay objects -/
theorem for_listM {prog : Program} {w : World} {A : Around} {s : Shared} {env : Env} {x : Str} {px pos : Pos} {iter : Expr} {body : List Stmt} {Q : Flow → Shared → Prop} {E : Value → Shared → Prop}
    (J : Addr → List Value → Nat → Nat → (Str → Option Value) → Heap → Prop)
    (hh : A.handled = none) (hx : env.kindOf x = some .local) (hp : (env.scope.kind == .class || (env.scope.kind == .module && env.locals != env.globals)) = false)
    (hiter : wpAny (model prog w) A (eval iter env) (fun u s₁ => ∃ (l : Addr) (xs : List Value) (m₀ : Str → Option Value) (h : Heap) (tk : Nat), u = .ref l ∧ s₁ = { s with heap := h, toks := tk } ∧ xs.length ≤ 100000 ∧ h.Ns env.locals m₀ ∧
      (∀ i m h', J l xs h.objs.size i m h' → ListAt h' l xs) ∧
      (∀ i m h₁ h₂, J l xs h.objs.size i m h₁ → (∀ b o, h.objs.size ≠ b → b ≠ env.locals → h₁.get? b = some o → h₂.get? b = some o) → J l xs h.objs.size i m h₂) ∧
      J l xs h.objs.size 0 m₀ h ∧
      (∀ i v m h₁ tk it, xs[i]? = some v → J l xs h.objs.size i m h₁ → h₁.Ns env.locals (fun y => if y = x then some v else m y) → h₁.get? h.objs.size = some it → (∃ vs, it.data = .fields vs ∧ ∀ x t, (vs[1]? : Option Value) ≠ some (.str x t)) →
        wpAny (model prog w) A (execs body env) (fun fl s' => fl = .next ∧ ∃ h' tk' m', s' = { s with heap := h', toks := tk' } ∧ h'.get? h.objs.size = some it ∧ h'.Ns env.locals m' ∧ J l xs h.objs.size (i + 1) m' h') (fun _ _ => False) { s with heap := h₁, toks := tk }) ∧
      (∀ m h₁ tk, J l xs h.objs.size xs.length m h₁ → h₁.Ns env.locals m → Q .next { s with heap := h₁, toks := tk })) E s)
    (hs : ∀ x, foldedSetIterable iter env x = pure x := by intro _; rfl) :
    wpAny (model prog w) A (exec (.For (.Name x px) iter body [] pos) env) Q E s := by
  refine wpAny_For (wpAny_mono hiter (fun u s₁ hu => ?_) fun _ _ q => q) hs
  refine gg fun P hP => ?_
  obtain ⟨l, xs, m₀, h, tk, rfl, rfl, hz, hns, hl, stable, h0, step, done⟩ := hu
  refine hP ?_
  clear hP
  have hl₀ := hl _ _ _ h0
  refine wpAny_pyIter_list (s := { s with heap := h, toks := tk }) hl₀.isList ?_
  generalize hH : h.push { cls := .type "list_iterator", data := .fields #[.ref l, .int 0 0] } = H
  have up : ∀ b o, h.get? b = some o → H.get? b = some o := fun b o e => hH ▸ Heap.get?_push_of_some _ e
  have hIL : @Ne Nat h.objs.size env.locals := Nat.ne_of_gt hns.lt
  have hI : H.IsListIter h.objs.size l 0 := ⟨_, hH ▸ Heap.get?_push_size _ rfl, rfl, rfl⟩
  refine for_walk (s := { s with heap := H, toks := tk }) (n := xs.length) (I := h.objs.size) (P := fun i v => xs[i]? = some v) (St := fun i h' => h'.IsListIter h.objs.size l i) (m₀ := m₀) (J l xs h.objs.size) hx hp hIL ?_ ?_ ?_ ?_ hI (hns.keeps up) (stable _ _ _ _ h0 fun b o _ _ e => up b o e) ?_ ?_
  · intro i s' Q' E' hi st m hj k
    have lj := (hl _ _ _ hj).isList
    have hv : xs.toArray[i]? = some xs[i] := by simp [hi]
    exact wpAny_pyNext_list_item st lj hv fun h₂ hit₂ hs₂ => k _ h₂ _ (by simp [hi]) hit₂ fun b o hb e => hs₂.extBut b o hb e
  · intro s' Q' E' st m hj k
    have lj := (hl _ _ _ hj).isList
    exact wpAny_pyNext_list_end hh st lj (by simp) fun h₂ he₂ => k h₂ _ fun b o hb e => he₂ b o hb e
  · intro i h₁ h' st k
    refine gg fun P hP => ?_
    obtain ⟨o, e, r⟩ := st
    refine hP ?_
    clear hP
    exact ⟨o, k _ e, r⟩
  · intro i m h₁ h' hj k
    exact stable i m h₁ h' hj fun b o hb => k b o (Ne.symm hb)
  · intro i v m h₁ tk' hi hv hj hn st
    refine gg fun P hP => ?_
    obtain ⟨o, e, r⟩ := st
    refine hP ?_
    clear hP
    exact wpAny_mono (step i v m h₁ tk' o hv hj hn e ⟨_, r.2, fun x t q => by simp at q⟩) (fun fl s' ⟨q, h', tk₂, m', q1, q2, q3, q4⟩ => ⟨q, h', tk₂, m', q1, fun o' e' => by rw [e] at e'; cases e'; exact q2, q3, q4⟩) fun _ _ q => q
  · intro m h₁ tk' hj hn
    exact done m h₁ tk' hj hn
/-- the tail's texts -/
noncomputable def tailT : Value → List Str
  | .str x _ => [x]
  | _ => []
noncomputable def GoodTail (v : Value) : Prop := v = .none ∨ ∃ x t, v = .str x t ∧ x.length = 3
theorem serial_spec {prog : Program} {w : World} {p loose mean mg mb} {s : Shared} {ns : List Int} {t wa pa ka : Addr} {lo : Nat} {gw b₀ : Heap} {tag text : Str} {times : Int} {vl : Value} {xs vs : List Value} {ss : List Str} {K : Kids} {Q E : Value → Shared → Prop}
    (X : (hd.heap_1 w.params).In b₀) (T : Top p loose mean mg mb b₀) (k₀ : Kp b₀ s.heap) (npa : b₀.get? pa = none) (hg : s.gens = #[])
    (hTh : Th prog w s.heap t tag text times vl ka) (hl : ListAt s.heap ka vs) (hK : KidsAt prog w ns s.heap lo vs K) (hdp : K.dep ≤ 3) (ht : times = 1 ∨ times = 2) (htl : text.length ≤ 10) (htz : (K.texts ns).length ≤ 300) (hsz : K.sz ≤ 300) (hvl : GoodTail vl)
    (hW : AppendF prog w gw wa pa) (hWf : FnO gw wa) (kw : Kp gw s.heap) (nw : NoLists gw) (hp : ListAt s.heap pa xs) (hxs : Strs xs ss) (hx : xs.length ≤ 10)
    (ret : ∀ h' tk' ys, Upd pa s.heap h' → ListAt h' pa ys → Strs ys (ss ++ rep times (hdT text ++ K.texts ns) ++ tailT vl) → Q .none { s with heap := h', toks := tk' }) :
    wpAny (model prog w) (AX 500 3000) (call (.ref 106) [.ref wa, .ref t]) Q E s := by
  have Xs : (hd.heap_1 w.params).In s.heap := X.keeps k₀
  have g3 : Gl b₀ "_law_texts" (.ref 120) := Gl.of X T (by k_is)
  refine gg fun P hP => ?_
  obtain ⟨g, da, tx, tn, sS, kg, ng, dA⟩ := hTh
  obtain ⟨mm, fa, fi, hF, m1, m2, m3, m4, m5, m6, m7, hAp, hIt, hfa, hfi⟩ := sS.m
  refine hP ?_
  clear hP
  refine' enter Xs (Top.nolimit T |>.keeps k₀) ?k6 ?k7 ?k8 ?k9 ?kB ?_ ?c2 ?c3 ?c4 ?c5
  (case k6 => k_is)
  (case k7 => k_is)
  (case k8 => decide)
  (case k9 => exact BindsTo.of_eq rfl)
  (case c5 => decide)
  (case kB => exact locs rfl)
  (case c2 => exact rfl)
  (case c3 => exact rfl)
  (case c4 => exact rfl)
  intro L h₁ tk₁ hL F₁ N₁
  have k₁ := F₁.keep
  have n1 := F₁.ns
  have lL : s.heap.objs.size ≤ L := Nat.le_of_eq hL.symm
  have Lpa : @Ne Nat L pa := fun q => by
    obtain ⟨n, e⟩ := hp
    exact absurd (Heap.lt_size e) (Nat.not_lt.mpr (q ▸ lL))
  refine wpAny_execs_cons (for_listM (s := { s with heap := h₁, toks := tk₁ })
    (fun l zs I i m h => Upd pa s.heap h ∧ Strs zs (rep times (hdT text ++ K.texts ns)) ∧ m "write" = some (.ref wa) ∧ m "elem" = some (.ref t) ∧ ListAt h l zs ∧ @Ne Nat l pa ∧ @Ne Nat l L ∧ I ≠ l ∧ @Ne Nat I pa ∧ s.heap.objs.size ≤ I ∧ ListAt h pa (xs ++ zs.take i))
    rfl rfl rfl ?_)
  · refine meth0 (s := { s with heap := h₁, toks := tk₁ }) (Ev.local n1 rfl rfl rfl) (hF.keeps fun b o e => k₁ b o (kg b o e)) m7 tl_itertext (hfi.keeps fun b o e => k₁ b o (kg b o e)) fun tk₂ => ?_
    refine hIt _ { s with heap := h₁, toks := tk₂ } _ _ (by show 501 < 990; decide) (Xs.keeps k₁) (((Top.nolimit T).keeps k₀).keeps k₁) ((g3.keeps k₀).keeps k₁) (fun b o e => k₁ b o (kg b o e)) fun env' h₄ tk₇ k₄ => ?_
    have kh₄ : Kp s.heap h₄ := fun b o e => k₄ b o (k₁ b o e)
    refine wpAny_weaken (n := 510) (u := 3020) ?_ rfl (by show 502 ≤ 510; decide) rfl (by show 3006 ≤ 3020; decide)
    refine texts_all (p := p) (loose := loose) (mean := mean) (mg := mg) (mb := mb) 3 510 3020 (by decide) (by decide) { s with heap := h₄, toks := tk₇ } da ka lo vs text times vl tx tn K _ _ (Xs.keeps kh₄) ((T.keeps k₀).keeps kh₄) hg (dA.keep kh₄) (hl.keeps kh₄) (hK.keeps kh₄) hdp ht htl htz hsz fun r h₅ tk₈ zs k₅ nr hr hzs => ?_
    have kh₅ : Kp s.heap h₅ := fun b o e => k₅ b o (kh₄ b o e)
    have k15 : Kp h₁ h₅ := fun b o e => k₅ b o (k₄ b o e)
    have nr₄ : h₄.get? r = none := nr
    have rpa : @Ne Nat r pa := fun q => by
      obtain ⟨n, e⟩ := hp.keeps kh₄
      rw [← q, nr₄] at e; cases e
    have rL : @Ne Nat r L := fun q => by
      refine gg fun P hP => ?_
      obtain ⟨o, es, ep, e, _⟩ := n1.keeps k₄
      refine hP ?_
      clear hP
      rw [q, show h₄.get? L = some o from e] at nr₄; cases nr₄
    have sz5 : s.heap.objs.size ≤ h₅.objs.size := Nat.le_of_lt (Nat.lt_of_le_of_lt lL (n1.keeps k15).lt)
    have len := hzs.length
    have lenH : (hdT text).length ≤ 1 := by unfold hdT; split <;> simp
    have lenZ : zs.length ≤ 700 := by
      rw [len]
      unfold rep
      split <;> simp only [List.length_append] <;> omega
    refine ⟨r, zs, _, h₅, tk₈, rfl, rfl, by omega, n1.keeps k15, ?_, ?_, ?_, ?_, ?_⟩
    · intro i m h' qq0
      refine gg fun P hP => ?_
      obtain ⟨_, _, _, _, q, _⟩ := qq0
      refine hP ?_
      clear hP
      exact q
    · intro i m h₆ h₇ qq0 kk
      refine gg fun P hP => ?_
      obtain ⟨a1, a2, a3, a4, a5, a6, a7, a8, a9, a10, a11⟩ := qq0
      refine hP ?_
      clear hP
      refine ⟨fun b o hb e => kk b o ?_ ?_ (a1 b o hb e), a2, a3, a4, ?_, a6, a7, a8, a9, a10, ?_⟩
      · exact Nat.ne_of_gt (Nat.lt_of_lt_of_le (Heap.lt_size e) a10)
      · exact Nat.ne_of_lt (Nat.lt_of_lt_of_le (Heap.lt_size e) lL)
      · obtain ⟨n, e⟩ := a5; exact ⟨n, kk _ _ a8 a7 e⟩
      · obtain ⟨n, e⟩ := a11; exact ⟨n, kk _ _ a9 (Ne.symm Lpa) e⟩
    · refine ⟨Upd.of kh₅, hzs, rfl, rfl, hr, rpa, rL, Nat.ne_of_gt (by obtain ⟨n, e⟩ := hr; exact Heap.lt_size e), Nat.ne_of_gt (by obtain ⟨n, e⟩ := hp.keeps kh₅; exact Heap.lt_size e), sz5, ?_⟩
      rw [List.take_zero, List.append_nil]
      exact hp.keeps kh₅
    · intro i v m h₆ tk₉ it hv qq0 hn hit qq1
      refine gg fun P hP => ?_
      obtain ⟨a1, a2, a3, a4, a5, a6, a7, a8, a9, a10, a11⟩ := qq0
      obtain ⟨itv, hitd⟩ := qq1
      refine hP ?_
      clear hP
      have kw6 : Kp gw h₆ := Upd.static a1 kw nw hp.mut
      have eW : (fun y => if y = ("part" : Str) then some v else m y) "write" = some (.ref wa) := by show (if _ then _ else m "write") = _; rw [if_neg (by decide)]; exact a3
      have eE : (fun y => if y = ("part" : Str) then some v else m y) "elem" = some (.ref t) := by show (if _ then _ else m "elem") = _; rw [if_neg (by decide)]; exact a4
      generalize hmk : (fun y => if y = ("part" : Str) then some v else m y) = mk at hn eW eE
      have eP : mk "part" = some v := by rw [← hmk]; rfl
      refine wpAny_execs_cons (wpAny_Expr (call1 (s := { s with heap := h₆, toks := tk₉ }) (a := wa) (P1 := fun u => u = v) (Ev.local hn eW rfl rfl) (Ev.local hn eP rfl rfl) (hWf.keeps kw6) fun u1 tk₁₀ e => ?_))
      subst e
      have lim6 : h₆.NoLimit := (T.nolimit).keeps fun b o e => a1 b o (ne_of_none (npa) e) (k₀ b o e)
      have hi : i < zs.length := by
        rcases Nat.lt_or_ge i zs.length with h | h
        · exact h
        · rw [List.getElem?_eq_none h] at hv; cases hv
      refine hW _ { s with heap := h₆, toks := tk₁₀ } (xs ++ zs.take i) u1 _ _ (by show 501 < 990; decide) lim6 kw6 a11 (by rw [List.length_append, List.length_take]; omega) fun h₇ tk₁₁ u7 l7 => ?_
      dsimp only
      have nI : h₇.get? h₅.objs.size = some it := u7 _ _ a9 hit
      refine wpAny_execs_nil ⟨rfl, h₇, tk₁₁, mk, rfl, nI, hn.at' fun o e => u7 _ o Lpa e, Upd.trans a1 u7, a2, eW, eE, Upd.list u7 a6 a5, a6, a7, a8, a9, a10, ?_⟩
      rw [List.take_add_one, hv, ← List.append_assoc]
      exact l7
    · intro m h₆ tk₉ qq0 hn
      refine gg fun P hP => ?_
      obtain ⟨a1, a2, a3, a4, a5, a6, a7, a8, a9, a10, a11⟩ := qq0
      refine hP ?_
      clear hP
      have kg6 : Kp g h₆ := Upd.static a1 kg ng hp.mut
      rw [List.take_length] at a11
      have fin : ∀ (h' : Heap) (tk' : Nat) (ys : List Value), Upd pa h₆ h' → ListAt h' pa ys → Strs ys (ss ++ rep times (hdT text ++ K.texts ns) ++ tailT vl) → Q .none { s with heap := h', toks := tk' } := fun h' tk' ys u l y => ret h' tk' ys (a1.trans u) l y
      have all := hxs.append a2
      dsimp only
      have plainT : PlainV vl := by rcases hvl with rfl | ⟨x, t', rfl, _⟩ <;> trivial
      refine wpAny_execs_cons (wpAny_If (wpAny_isTrue_value ((Ev.attr (Ev.local hn a4 rfl rfl) (hF.keeps kg6) m2 plainT tl_tail) { s with heap := h₆, toks := tk₉ } _ _ rfl fun u tk₁₀ e => ?_)))
      subst e
      rcases hvl with rfl | ⟨x, t', rfl, hx3⟩
      · refine wpAny_of_eq (a := false) rfl ?_
        simp only [Bool.false_eq_true, if_false]
        refine wpAny_execs_nil (wpAny_execs_nil ?_)
        exact fin h₆ _ _ (Upd.of fun _ _ e => e) a11 (by simpa [tailT] using all)
      · refine PySem.P.truthy_str (by omega) ?_
        rw [show ((x.length : Int) != 0) = true by rw [hx3]; rfl]
        simp only [if_true]
        have kw6 : Kp gw h₆ := Upd.static a1 kw nw hp.mut
        refine wpAny_execs_cons (wpAny_Expr (call1 (s := { s with heap := h₆, toks := tk₁₀ + 1 + 1 }) (a := wa) (P1 := fun u => u = .str x t') (Ev.local hn a3 rfl rfl) (Ev.attr (Ev.local hn a4 rfl rfl) (hF.keeps kg6) m2 plainT tl_tail) (hWf.keeps kw6) fun u1 tk₁₁ e => ?_))
        subst e
        have lim6 : h₆.NoLimit := (T.nolimit).keeps fun b o e => a1 b o (ne_of_none (npa) e) (k₀ b o e)
        refine hW _ { s with heap := h₆, toks := tk₁₁ } (xs ++ zs) (.str x t') _ _ (by show 501 < 990; decide) lim6 kw6 a11 (by rw [List.length_append]; omega) fun h₇ tk₁₂ u7 l7 => ?_
        dsimp only
        refine wpAny_execs_nil (wpAny_execs_nil ?_)
        exact fin h₇ _ _ u7 l7 (all.append (.cons x t' .nil))
section
variable {prog : Program} {w : World} {A : Around} {R : Result → Shared → Prop} {s : Shared} {elt i0 i1 : Expr} {x0 x1 : Str} {p0 p1 pos : Pos} {scope : Scope} {env : Env} {acc it : Value}
abbrev comp2 (elt i0 i1 : Expr) (x0 x1 : Str) (p0 p1 : Pos) (scope : Scope) (pos : Pos) : Expr := .ListComp elt [⟨.Name x0 p0, i0, [], 0⟩, ⟨.Name x1 p1, i1, [], 0⟩] scope pos
theorem start1 (h0 : codeAny (model prog w) A (.compLoop (comp2 elt i0 i1 x0 x1 p0 p1 scope pos) 1 it acc env) R s)
    (h : wpAny (model prog w) A (pyIter it) (fun it' s' => codeAny (model prog w) A (.compLoop (comp2 elt i0 i1 x0 x1 p0 p1 scope pos) 1 it' acc env) R s') (notedBy (model prog w) A env fun x s' => R (.error x) s') s) :
    codeAny (model prog w) A (.compStart (comp2 elt i0 i1 x0 x1 p0 p1 scope pos) 1 it acc env) R s := by
  refine codeAny_of_tree ?_
  show wpAny _ _ ((compStart (comp2 elt i0 i1 x0 x1 p0 p1 scope pos) 1 it acc env).onRaise (fun x => do noteFrame x env; standAt theWindowsPlace)) _ _ s
  refine wpAny_notedAt ?_
  unfold compStart
  show wpAny _ _ (ask >>= _) _ _ s
  refine wpAny_bind (wpAny_askSetting (wpAny_ite ?_))
  split
  · first
      | exact wpAny_bind (wpAny_pure (wpAny_pure (And.intro rfl h0)))
      | exact wpAny_pure (And.intro rfl h0)
  · first
      | exact wpAny_bind (wpAny_rule (wpAny_bind (wpAny_standAt (wpAny_bind (wpAny_mono h (fun it' s' h' => wpAny_pure (And.intro rfl h')) fun _ _ x => x)))))
      | (refine wpAny_bind (wpAny_rule ?_); show wpAny _ _ (standAt i1.pos >>= _) _ _ s; exact wpAny_bind (wpAny_standAt (wpAny_bind (wpAny_mono h (fun it' s' h' => wpAny_pure (And.intro rfl h')) fun _ _ x => x))))
theorem turn1 (it acc : Value) (env : Env) : compTurn (comp2 elt i0 i1 x0 x1 p0 p1 scope pos) 1 it acc env = (standAt i1.pos >>= fun _ => pyNext it >>= fun r => match r with
      | none => pure (.done .next)
      | some v => letOwnedTupleGo (.Name x1 p1) it v >>= fun _ => assign (.Name x1 p1) env v >>= fun _ =>
        (eval elt env >>= fun x => call (.builtin "list.append") [acc, x] >>= fun _ => pure ()) >>= fun _ =>
          again (.compLoop (comp2 elt i0 i1 x0 x1 p0 p1 scope pos) 1 it acc env)) := by rfl
theorem turn0 (it acc : Value) (env : Env) : compTurn (comp2 elt i0 i1 x0 x1 p0 p1 scope pos) 0 it acc env = (standAt i0.pos >>= fun _ => pyNext it >>= fun r => match r with
      | none => pure (.done .next)
      | some v => letOwnedTupleGo (.Name x0 p0) it v >>= fun _ => assign (.Name x0 p0) env v >>= fun _ =>
        (eval i1 env >>= fun x => standAt i1.pos >>= fun _ => foldedSetIterable i1 env x >>= fun x => holding [x] (pyIter x) >>= fun it1 => runOwn (.compStart (comp2 elt i0 i1 x0 x1 p0 p1 scope pos) 1 it1 acc env) env >>= fun _ =>
          again (.compLoop (comp2 elt i0 i1 x0 x1 p0 p1 scope pos) 0 it acc env))) := by rfl
theorem loop1 (I : Nat → Shared → Prop)
    (turn : ∀ n s, I n s → wpAny (model prog w) A (pyNext it) (fun r s₁ => match r with
      | none => R (.ok .next) s₁
      | some v => wpAny (model prog w) A (assign (.Name x1 p1) env v) (fun _ s₂ => wpAny (model prog w) A (eval elt env) (fun x s₃ =>
          wpAny (model prog w) A (call (.builtin "list.append") [acc, x]) (fun _ s₄ => ∃ m, m < n ∧ I m s₄) (fun _ _ => False) s₃) (fun _ _ => False) s₂) (fun _ _ => False) s₁) (fun _ _ => False) s)
    (n : Nat) (h : I n s) : codeAny (model prog w) A (.compLoop (comp2 elt i0 i1 x0 x1 p0 p1 scope pos) 1 it acc env) R s := by
  refine codeAny_loop rfl I (fun n s hI => ?_) n h
  show wpAny _ A ((compTurn (comp2 elt i0 i1 x0 x1 p0 p1 scope pos) 1 it acc env).onRaise (fun x => do noteFrame x env; theTreesLotGoes x)) _ _ s
  refine wpAny_noted ?_
  rw [turn1]
  refine wpAny_bind (wpAny_standAt (wpAny_bind (wpAny_mono (turn n s hI) (fun r s₁ h₁ => ?_) fun _ _ q => q.elim)))
  cases r with
  | none => exact wpAny_pure h₁
  | some v =>
    refine wpAny_bind (wpAny_of_eq (a := ()) rfl ?_)
    refine wpAny_bind (wpAny_mono h₁ (fun _ s₂ h₂ => wpAny_bind (wpAny_bind (wpAny_mono h₂ (fun x s₃ h₃ => wpAny_bind (wpAny_mono h₃ (fun _ s₄ h₄ => wpAny_pure (wpAny_pure ⟨rfl, h₄⟩)) fun _ _ q => q.elim)) fun _ _ q => q.elim))) fun _ _ q => q.elim)
theorem loop0 (I : Nat → Shared → Prop) (hs : ∀ x, foldedSetIterable i1 env x = pure x) (hm : A.handled = none)
    (turn : ∀ n s, I n s → wpAny (model prog w) A (pyNext it) (fun r s₁ => match r with
      | none => R (.ok .next) s₁
      | some v => wpAny (model prog w) A (assign (.Name x0 p0) env v) (fun _ s₂ => wpAny (model prog w) A (eval i1 env) (fun x s₃ =>
          wpAny (model prog w) A (pyIter x) (fun it1 s₄ => codeAny (model prog w) A (.compStart (comp2 elt i0 i1 x0 x1 p0 p1 scope pos) 1 it1 acc env) (fun r s₅ => match r with | .ok _ => ∃ m, m < n ∧ I m s₅ | .error _ => False) s₄) (fun _ _ => False) s₃) (fun _ _ => False) s₂) (fun _ _ => False) s₁) (fun _ _ => False) s)
    (n : Nat) (h : I n s) : codeAny (model prog w) A (.compLoop (comp2 elt i0 i1 x0 x1 p0 p1 scope pos) 0 it acc env) R s := by
  refine codeAny_loop rfl I (fun n s hI => ?_) n h
  show wpAny _ A ((compTurn (comp2 elt i0 i1 x0 x1 p0 p1 scope pos) 0 it acc env).onRaise (fun x => do noteFrame x env; theTreesLotGoes x)) _ _ s
  refine wpAny_noted ?_
  rw [turn0]
  refine wpAny_bind (wpAny_standAt (wpAny_bind (wpAny_mono (turn n s hI) (fun r s₁ h₁ => ?_) fun _ _ q => q.elim)))
  cases r with
  | none => exact wpAny_pure h₁
  | some v =>
    refine wpAny_bind (wpAny_of_eq (a := ()) rfl ?_)
    refine wpAny_bind (wpAny_mono h₁ (fun _ s₂ h₂ => ?_) fun _ _ q => q.elim)
    refine wpAny_bind (wpAny_mono h₂ (fun x s₃ h₃ => ?_) fun _ _ q => q.elim)
    refine wpAny_bind (wpAny_standAt (wpAny_bind (wpAny_of_eq (hs x) ?_)))
    refine wpAny_bind (wpAny_holding (wpAny_mono h₃ (fun it1 s₄ h₄ => ?_) fun _ _ q => q.elim))
    have hmk : A.mark none = A := by
      obtain ⟨hd, dp, fr, gd, un⟩ := A
      cases hm
      rfl
    refine wpAny_bind (wpAny_runOwn (h := none) (hmk.symm ▸ codeAny_mono h₄ fun r s₅ q => ?_))
    cases r with
    | ok f => exact wpAny_pure ⟨rfl, q⟩
    | error e => exact q.elim
end
noncomputable def codesOf (x : Str) : List Int := x.cps.toList.map Int.ofNat
section
variable {prog : Program} {w : World} {A : Around} {R : Result → Shared → Prop} {s : Shared} {i0 i1 : Expr} {x0 x1 : Str} {p0 p1 po pp pn pos : Pos} {scope : Scope} {cenv : Env}
/-- the signs of one text -/
theorem inner_codes {b₀ : Heap} {I1 D : Addr} {x : Str} {zs : List Value} {cs : List Int} {m : Str → Option Value} {St : Nat → Heap → Prop} (hh : A.handled = none)
    (W : Walks prog w A I1 [I1] [I1] x.cps.size (SignAt x) St) (hst : St 0 s.heap) (hl : ListAt s.heap D zs) (hz : zs.length + x.cps.size ≤ 5000) (hcs : IntsAre zs cs) (hns : s.heap.Ns cenv.locals m)
    (h1C : @Ne Nat I1 cenv.locals) (h1D : @Ne Nat I1 D) (hDC : @Ne Nat D cenv.locals) (hx : cenv.kindOf x1 = some .local) (hxo : cenv.kindOf "ord" = some .globalImplicit) (hk : cenv.scope.kind = .function) (hgl : cenv.globals = mainGlobals) (hbl : cenv.builtins = builtinsNs) (hdb : (x1 == ("__debug__" : Str)) = false)
    (hb : Bi b₀ "ord" (.builtin "ord")) (hk₀ : Kp b₀ s.heap) (n1 : b₀.get? I1 = none) (nC : b₀.get? cenv.locals = none) (nD : b₀.get? D = none)
    (hR : ∀ h' tk m' zs', (∀ b o, b ≠ I1 → b ≠ cenv.locals → b ≠ D → s.heap.get? b = some o → h'.get? b = some o) → ListAt h' D zs' → IntsAre zs' (cs ++ codesOf x) → h'.Ns cenv.locals m' → R (.ok .next) { s with heap := h', toks := tk }) :
    codeAny (model prog w) A (.compLoop (comp2 (.Call (.Name "ord" po) [.Name x1 pn] [] pp) i0 i1 x0 x1 p0 p1 scope pos) 1 (.ref I1) (.ref D) cenv) R s := by
  have hn0 : ∀ {b : Addr} {o : Obj}, b₀.get? b = some o → b ≠ I1 ∧ b ≠ cenv.locals ∧ b ≠ D := fun {b o} e => ⟨fun q => by (rw [q, n1] at e; cases e), fun q => by (rw [q, nC] at e; cases e), fun q => by (rw [q, nD] at e; cases e)⟩
  refine loop1 (fun k s' => ∃ h tk i m zs', s' = { s with heap := h, toks := tk } ∧ i ≤ x.cps.size ∧ k = x.cps.size + 1 - i ∧ St i h ∧ h.Ns cenv.locals m ∧ ListAt h D zs' ∧ IntsAre zs' (cs ++ (codesOf x).take i) ∧ (∀ b o, b ≠ I1 → b ≠ cenv.locals → b ≠ D → s.heap.get? b = some o → h.get? b = some o)) ?_ (x.cps.size + 1)
    ⟨s.heap, s.toks, 0, m, zs, rfl, Nat.zero_le _, rfl, hst, hns, hl, by simpa using hcs, fun _ _ _ _ _ e => e⟩
  rintro k s' ⟨h, tk, i, m, zs', rfl, hi, rfl, st, hn, hl', hcs', hk'⟩
  have hlen := hcs'.length
  by_cases hlt : i < x.cps.size
  · refine W.item i _ _ _ hlt st fun v h₂ tk₂ hP st₂ k₂ => ?_
    obtain ⟨c, u, hc, rfl⟩ := hP
    have k2 : ∀ b o, b ≠ I1 → h.get? b = some o → h₂.get? b = some o := fun b o hb e => k₂ b o (by simpa using hb) e
    refine wpAny_assign_Name (wpAny_storeName_local hx (hn.at' fun o e => k2 _ o h1C.symm e) (fun h₃ hn₃ hs₃ => ?_) (by rw [hk]; rfl))
    have kb : Kp b₀ h₃ := fun b o e => hs₃.extBut b o (hn0 e).2.1 (k2 b o (hn0 e).1 (hk' b o (hn0 e).1 (hn0 e).2.1 (hn0 e).2.2 (hk₀ b o e)))
    refine Call_Name1 ((Ev.builtin (v := .builtin "ord") (hb.keeps kb) hgl hbl hk hxo) _ _ _ rfl fun v tk e => ?_)
    subst e
    refine PySem.callWith_builtin1 ((Ev.local (h := h₃) hn₃ (v := .str ⟨#[c]⟩ u) (by simp) hk hx hdb) _ _ _ rfl fun v tk₃ e => ?_)
    subst e
    refine PySem.P.ord_of_char ?_
    obtain ⟨n, eD⟩ := hl'
    have eD3 : h₃.get? D = some { cls := .type "list", data := .seq zs'.toArray n } := hs₃.extBut _ _ hDC (k2 _ _ h1D.symm eD)
    have hlen2 : zs'.length ≤ 5000 := by
      rw [hlen, List.length_append, List.length_take, ← hcs.length]
      omega
    refine append_at (hsz := by rw [List.size_toArray, sizeLine_eq]; omega) eD3 fun h₄ hs₄ hD₄ => ?_
    refine ⟨x.cps.size + 1 - (i + 1), by omega, h₄, _, i + 1, _, zs' ++ [.int c _], rfl, hlt, rfl, ?_, hn₃.sameBut hs₄ hDC.symm, ⟨n + 1, by rw [hD₄, List.push_toArray]⟩, ?_, fun b o b1 b2 b3 e => hs₄.extBut b o b3 (hs₃.extBut b o b2 (k2 b o b1 (hk' b o b1 b2 b3 e)))⟩
    · refine W.frame _ _ _ st₂ fun b hb o e => ?_
      rw [List.mem_singleton.mp hb] at *
      exact hs₄.extBut _ o h1D (hs₃.extBut _ o h1C e)
    · have e1 : (codesOf x).take (i + 1) = (codesOf x).take i ++ [(c : Int)] := by
        rw [List.take_add_one]
        simp [codesOf, hc]
      rw [e1, ← List.append_assoc]
      exact hcs'.append (.cons _ _ .nil)
  · obtain rfl : i = x.cps.size := Nat.le_antisymm hi (Nat.not_lt.mp hlt)
    refine W.done _ _ _ st fun h₂ tk₂ k₂ => ?_
    have k2 : ∀ b o, b ≠ I1 → h.get? b = some o → h₂.get? b = some o := fun b o hb e => k₂ b o (by simpa using hb) e
    refine hR h₂ tk₂ m zs' (fun b o b1 b2 b3 e => k2 b o b1 (hk' b o b1 b2 b3 e)) (let ⟨n, e⟩ := hl'; ⟨n, k2 _ _ h1D.symm e⟩) ?_ (hn.at' fun o e => k2 _ o h1C.symm e)
    rwa [List.take_of_length_le (by simp [codesOf])] at hcs'
end
theorem Strs.get : ∀ {vs : List Value} {ss : List Str} {i : Nat} {v : Value}, Strs vs ss → vs[i]? = some v → ∃ x t, v = .str x t ∧ ss[i]? = some x
  | _, _, i, v, .nil, e => by simp at e
  | _, _, 0, v, .cons x t _, e => by cases e; exact ⟨x, t, rfl, rfl⟩
  | _, _, i + 1, v, .cons x t a, e => by
    have := Strs.get a (i := i) (v := v) (by simpa using e)
    simpa using this
section
variable {prog : Program} {w : World} {A : Around} {E : Value → Shared → Prop} {s : Shared} {i0 : Expr} {x0 x1 : Str} {p0 p1 po pp pn pos px : Pos} {scope : Scope} {env : Env} {cl : List (Str × Addr)}
theorem comp2_codes {Q : Value → Shared → Prop} {l : Addr} {ys : List Value} {ss : List Str} (hh : A.handled = none)
    (hclos : closureFor scope env = pure cl) (hkind : scope.kind = .function) (hnames : ∀ y ∈ scope.names, y.2 = .local → scope.names.lookup y.1 = some .local)
    (hx0 : scope.names.lookup x0 = some .local) (hx1 : scope.names.lookup x1 = some .local) (hxo : (relabel scope env).names.lookup ("ord" : Str) = some .globalImplicit) (hcf : ∀ k, cellsFrom k scope.names cl = cl) (hpc : ∀ h, pushCells h scope.names = h)
    (hgl : env.globals = mainGlobals) (hbl : env.builtins = builtinsNs) (hd0 : (x0 == ("__debug__" : Str)) = false) (hd1 : (x1 == ("__debug__" : Str)) = false)
    (hb : Bi s.heap "ord" (.builtin "ord"))
    (hiter : Ev prog w A env i0 s.heap (fun u => u = .ref l)) (hl : ListAt s.heap l ys) (hys : Strs ys ss) (hz : ys.length ≤ 900) (hx3 : ∀ x ∈ ss, x.length ≤ 3)
    (hQ : ∀ D h' tk zs, Kp s.heap h' → s.heap.objs.size ≤ D → ListAt h' D zs → IntsAre zs (ss.flatMap codesOf) → Q (.ref D) { s with heap := h', toks := tk })
    (hs : ∀ x, foldedSetIterable i0 env x = pure x := by intro _; rfl) :
    wpAny (model prog w) A (eval (comp2 (.Call (.Name "ord" po) [.Name x1 pn] [] pp) i0 (.Name x0 px) x0 x1 p0 p1 scope pos) env) Q E s := by
  rw [eval_ListComp]
  refine wpAny_comprehension_free (use := none) rfl hs hclos hkind hnames (hiter s _ _ rfl fun u tk e => ?_)
  subst e
  refine wpAny_pyIter_list (s := { s with toks := tk }) hl.isList ?_
  refine wpAny_newObj_type (data := .seq ([] : List Value).toArray) (dict := none) ?_ (hd := by show (0 : Nat) ≤ _; exact Nat.zero_le _)
  refine compEnv_new ?_
  rw [hcf, hpc]
  dsimp only
  generalize hH1 : s.heap.push { cls := .type "list_iterator", data := .fields #[.ref l, .int 0 0] } = H1
  generalize hH2 : H1.push { cls := .type "list", dict := none, data := .seq ([] : List Value).toArray } = H2
  have z1 : H1.objs.size = s.heap.objs.size + 1 := by rw [← hH1, Heap.size_push]
  have z2 : H2.objs.size = s.heap.objs.size + 2 := by rw [← hH2, Heap.size_push, z1]
  have u1 : ∀ b o, s.heap.get? b = some o → H1.get? b = some o := fun b o e => hH1 ▸ Heap.get?_push_of_some _ e
  have u2 : ∀ b o, H1.get? b = some o → H2.get? b = some o := fun b o e => hH2 ▸ Heap.get?_push_of_some _ e
  have u3 : ∀ b o, H2.get? b = some o → (H2.push { cls := .type "dict", data := .dict #[] }).get? b = some o := fun b o e => Heap.get?_push_of_some _ e
  have nI := fresh_none (h := s.heap) (a := s.heap.objs.size) (Nat.le_refl _)
  have nD := fresh_none (h := s.heap) (a := H1.objs.size) (by omega)
  have nC := fresh_none (h := s.heap) (a := H2.objs.size) (by omega)
  have hID : @Ne Nat s.heap.objs.size H1.objs.size := by omega
  have hIC : @Ne Nat s.heap.objs.size H2.objs.size := by omega
  have hDC : @Ne Nat H1.objs.size H2.objs.size := by omega
  have hlI : @Ne Nat l s.heap.objs.size := Nat.ne_of_lt (by obtain ⟨n, e⟩ := hl; exact Heap.lt_size e)
  have hlD : @Ne Nat l H1.objs.size := Nat.ne_of_lt (by obtain ⟨n, e⟩ := hl; have : @LT.lt Nat _ l s.heap.objs.size := Heap.lt_size e; omega)
  have hlC : @Ne Nat l H2.objs.size := Nat.ne_of_lt (by obtain ⟨n, e⟩ := hl; have : @LT.lt Nat _ l s.heap.objs.size := Heap.lt_size e; omega)
  have loop : ∀ (R : Result → Shared → Prop), (∀ (h' : Heap) (tk : Nat) (zs : List Value), Kp s.heap h' → ListAt h' H1.objs.size zs → IntsAre zs (ss.flatMap codesOf) → (∃ m, h'.Ns H2.objs.size m) → R (.ok .next) { s with heap := h', toks := tk }) →
      codeAny (model prog w) A (.compLoop (comp2 (.Call (.Name "ord" po) [.Name x1 pn] [] pp) i0 (.Name x0 px) x0 x1 p0 p1 scope pos) 0 (.ref s.heap.objs.size) (.ref H1.objs.size) (compEnvC scope cl H2.objs.size env)) R { s with heap := H2.push { cls := .type "dict", data := .dict #[] }, toks := tk } := by
    intro R hR
    refine loop0 (fun k s' => ∃ (h : Heap) (tk : Nat) (i : Nat) (m : Str → Option Value) (zs : List Value), s' = { s with heap := h, toks := tk } ∧ i ≤ ys.length ∧ k = ys.length + 1 - i ∧ h.IsListIter s.heap.objs.size l i ∧ h.Ns H2.objs.size m ∧ ListAt h H1.objs.size zs ∧ IntsAre zs ((ss.take i).flatMap codesOf) ∧ Kp s.heap h) (by intro _; rfl) hh ?_ (ys.length + 1)
      ⟨_, _, 0, _, [], rfl, Nat.zero_le _, rfl, ⟨_, u3 _ _ (u2 _ _ (by rw [← hH1]; exact Heap.get?_push_size _ rfl)), rfl, rfl⟩, Heap.Ns.new .., ⟨0, u3 _ _ (by rw [← hH2]; exact Heap.get?_push_size _ rfl)⟩, .nil, fun b o e => u3 _ _ (u2 _ _ (u1 _ _ e))⟩
    intro k s' qq0
    refine gg fun P hP => ?_
    obtain ⟨h, tk₁, i, m, zs, rfl, hi, rfl, st, hn, hlD', hzs, hk⟩ := qq0
    refine hP ?_
    clear hP
    have hlk := hl.keeps hk
    by_cases hlt : i < ys.length
    · have hv : ys.toArray[i]? = some ys[i] := by simp [hlt]
      refine gg fun P hP => ?_
      obtain ⟨x, t, hvx, hsx⟩ := hys.get (i := i) (v := ys[i]) (by simp [hlt])
      refine hP ?_
      clear hP
      refine wpAny_pyNext_list_item st hlk.isList hv fun h₂ hit₂ hs₂ => ?_
      refine wpAny_assign_Name (wpAny_storeName_local (env := compEnvC scope cl H2.objs.size env) (lookup_relabel_local hx0) (hn.sameBut hs₂ hIC.symm) (fun h₃ hn₃ hs₃ => ?_) (by simp [compEnvC, relabel, hkind]))
      have kb : Kp s.heap h₃ := fun b o e => hs₃.extBut b o (fun (q : b = H2.objs.size) => by rw [q, nC] at e; cases e) (hs₂.extBut b o (ne_of_none (nI) e) (hk b o e))
      refine Ev.go (s := s) (Ev.local (h := h₃) (env := compEnvC scope cl H2.objs.size env) hn₃ (v := .str x t) (by simp [hvx]) hkind (lookup_relabel_local hx0) hd0) fun tk₂ => ?_
      refine wpAny_pyIter_str fun o1 St W hst => ?_
      dsimp only at W hst ⊢
      have up : ∀ b o, h₃.get? b = some o → (h₃.push o1).get? b = some o := fun b o e => Heap.get?_push_of_some _ e
      have iC : @Ne Nat h₃.objs.size H2.objs.size := Nat.ne_of_gt (show H2.objs.size < h₃.objs.size from hn₃.lt)
      have lD3 : ListAt h₃ H1.objs.size zs := by obtain ⟨n, e⟩ := hlD'; exact ⟨n, hs₃.extBut _ _ hDC (hs₂.extBut _ _ hID.symm e)⟩
      have iD : @Ne Nat h₃.objs.size H1.objs.size := Nat.ne_of_gt (by obtain ⟨n, e⟩ := lD3; exact Heap.lt_size e)
      have it3 : h₃.IsListIter s.heap.objs.size l (i + 1) := by obtain ⟨o, e, r⟩ := hit₂; exact ⟨o, hs₃.extBut _ _ hIC e, r⟩
      have iI : @Ne Nat h₃.objs.size s.heap.objs.size := Nat.ne_of_gt (by obtain ⟨o, e, _⟩ := it3; exact Heap.lt_size e)
      have fin : ∀ (R' : Result → Shared → Prop) (tk : Nat), (∀ (h' : Heap) (tk : Nat) (m' : Str → Option Value) (zs' : List Value), (∀ b o, b ≠ h₃.objs.size → b ≠ H2.objs.size → b ≠ H1.objs.size → (h₃.push o1).get? b = some o → h'.get? b = some o) → ListAt h' H1.objs.size zs' → IntsAre zs' ((ss.take i).flatMap codesOf ++ codesOf x) → h'.Ns H2.objs.size m' → R' (.ok .next) { s with heap := h', toks := tk }) →
          codeAny (model prog w) A (.compLoop (comp2 (.Call (.Name "ord" po) [.Name x1 pn] [] pp) i0 (.Name x0 px) x0 x1 p0 p1 scope pos) 1 (.ref h₃.objs.size) (.ref H1.objs.size) (compEnvC scope cl H2.objs.size env)) R' { s with heap := h₃.push o1, toks := tk } := fun R' tk hR' =>
        inner_codes (s := { s with heap := h₃.push o1, toks := tk }) (b₀ := s.heap) (cenv := compEnvC scope cl H2.objs.size env) hh (W A hh) hst (let ⟨n, e⟩ := lD3; ⟨n, up _ _ e⟩) (by
            have := hzs.length
            have hx' := hx3 x (List.mem_of_getElem? hsx)
            have e3 : ((ss.take i).flatMap codesOf).length ≤ 3 * i := by
              have : ∀ (l : List Str), (∀ x ∈ l, x.length ≤ 3) → (l.flatMap codesOf).length ≤ 3 * l.length := by
                intro l
                induction l with
                | nil => intro _; exact Nat.le_refl _
                | cons a l ih =>
                  intro hl
                  have h1 := ih fun x hx => hl x (List.mem_cons_of_mem _ hx)
                  have h2 : a.cps.size ≤ 3 := hl a List.mem_cons_self
                  simp only [List.flatMap_cons, List.length_append, List.length_cons, codesOf, List.length_map, Array.length_toList] at h1 ⊢
                  omega
              refine Nat.le_trans (this _ fun x hx => hx3 x (List.mem_of_mem_take hx)) ?_
              rw [List.length_take]; omega
            have hx'' : x.cps.size ≤ 3 := hx'
            omega) hzs (hn₃.keeps up)
          iC iD hDC (lookup_relabel_local hx1) hxo hkind hgl hbl hd1 hb (fun b o e => up _ _ (kb b o e)) (fresh_none (Nat.le_of_lt (Nat.lt_of_le_of_lt (by omega : s.heap.objs.size ≤ H2.objs.size) (show H2.objs.size < h₃.objs.size from hn₃.lt)))) nC nD hR'
      have next : ∀ (h' : Heap) (tkk : Nat) (m' : Str → Option Value) (zs' : List Value), (∀ b o, b ≠ h₃.objs.size → b ≠ H2.objs.size → b ≠ H1.objs.size → (h₃.push o1).get? b = some o → h'.get? b = some o) → ListAt h' H1.objs.size zs' → IntsAre zs' ((ss.take i).flatMap codesOf ++ codesOf x) → h'.Ns H2.objs.size m' →
          ∃ m, m < ys.length + 1 - i ∧ ∃ (h : Heap) (tk : Nat) (i : Nat) (m₁ : Str → Option Value) (zs : List Value), ({ s with heap := h', toks := tkk } : Shared) = { s with heap := h, toks := tk } ∧ i ≤ ys.length ∧ m = ys.length + 1 - i ∧ h.IsListIter s.heap.objs.size l i ∧ h.Ns H2.objs.size m₁ ∧ ListAt h H1.objs.size zs ∧ IntsAre zs ((ss.take i).flatMap codesOf) ∧ Kp s.heap h := by
        intro h' tkk m' zs' k' l' z' n'
        have e1 : (ss.take (i + 1)).flatMap codesOf = (ss.take i).flatMap codesOf ++ codesOf x := by
          rw [List.take_add_one, hsx]
          simp
        refine ⟨ys.length + 1 - (i + 1), by omega, h', tkk, i + 1, m', zs', rfl, hlt, rfl, ?_, n', l', by rw [e1]; exact z', fun b o e => k' b o ?_ ?_ ?_ (up _ _ (kb b o e))⟩
        · refine gg fun P hP => ?_
          obtain ⟨o, e, r⟩ := it3
          refine hP ?_
          clear hP
          exact ⟨o, k' _ _ iI.symm hIC hID (up _ _ e), r⟩
        · exact Nat.ne_of_lt (Nat.lt_of_lt_of_le (Heap.lt_size e) (Nat.le_of_lt (Nat.lt_of_le_of_lt (by omega : s.heap.objs.size ≤ H2.objs.size) (show H2.objs.size < h₃.objs.size from hn₃.lt))))
        · rintro rfl; rw [nC] at e; cases e
        · rintro rfl; rw [nD] at e; cases e
      refine start1 (fin _ _ fun h' tk m' zs' k' l' z' n' => ?_) ((W A hh).self 0 _ _ _ hst (fin _ _ fun h' tk m' zs' k' l' z' n' => ?_))
      · refine gg fun P hP => ?_
        obtain ⟨q, hq, g1, g2, g3, g4, g5, g6, g7, g8, g9, g10, g11, g12, g13⟩ := next h' tk m' zs' k' l' z' n'
        refine hP ?_
        clear hP
        exact ⟨q, hq, g1, g2, g3, g4, g5, g6, g7, g8, g9, g10, g11, g12, g13⟩
      · refine gg fun P hP => ?_
        obtain ⟨q, hq, g1, g2, g3, g4, g5, g6, g7, g8, g9, g10, g11, g12, g13⟩ := next h' tk m' zs' k' l' z' n'
        refine hP ?_
        clear hP
        exact ⟨q, hq, g1, g2, g3, g4, g5, g6, g7, g8, g9, g10, g11, g12, g13⟩
    · obtain rfl : i = ys.length := Nat.le_antisymm hi (Nat.not_lt.mp hlt)
      refine wpAny_pyNext_list_end hh st hlk.isList (by simp) fun h₂ he₂ => ?_
      refine hR h₂ tk₁ zs (fun b o e => he₂ b o (ne_of_none (nI) e) (hk b o e)) (let ⟨n, e⟩ := hlD'; ⟨n, he₂ _ _ hID.symm e⟩) ?_ ⟨m, hn.at' fun o e => he₂ _ o hIC.symm e⟩
      rwa [hys.length, List.take_length] at hzs
  have fin2 : ∀ (h' : Heap) (tk' : Nat) (zs : List Value), Kp s.heap h' → ListAt h' H1.objs.size zs → IntsAre zs (ss.flatMap codesOf) → (∃ m, h'.Ns H2.objs.size m) → compPost (model prog w) A E none Q (.ref H1.objs.size) H2.objs.size (.ok .next) { s with heap := h', toks := tk' } := by
    rintro h' tk' zs k1 l1 z1' ⟨m, hns⟩
    refine ⟨m, hns, fun h'' hs'' => hQ _ h'' tk' zs (fun b o e => hs''.extBut b o (fun (q : b = H2.objs.size) => by rw [q, nC] at e; cases e) (k1 b o e)) (by omega) (let ⟨n, e⟩ := l1; ⟨n, hs''.extBut _ _ hDC e⟩) z1'⟩
  refine codeAny_compStart_list (loop _ fin2) ?_
  have hit : (H2.push { cls := .type "dict", data := .dict #[] } : Heap).IsListIter s.heap.objs.size l 0 := ⟨_, u3 _ _ (u2 _ _ (by rw [← hH1]; exact Heap.get?_push_size _ rfl)), rfl, rfl⟩
  exact wpAny_pyIter_listiter hit (loop _ fin2)
end
example : True := by k_with_none; trivial
example : True := by
  k_with "mine enter0" => (
      refine' enter ?kX ?kT ?k6 ?k7 ?k8 ?k9 ?kB ?_ ?c2 ?c3 ?c4 ?c5
      (case kX => assumption)
      (case kT => exact Top.nolimit (by assumption))
      (case k6 => k_is)
      (case k7 => k_is)
      (case k8 => decide)
      (case k9 => first | exact BindsTo.of_eq rfl | exact kp_binds (by assumption) (fun _ => rfl))
      (case c5 => decide)
      (case kB => exact locs rfl)
      (case c2 => exact rfl)
      (case c3 => exact rfl)
      (case c4 => exact rfl))
  k_with "mine enterC0" => (
      refine' enterC ?kX ?kT ?k6 ?k7 ?k8 ?k9 ?kB ?kD ?_ ?c2 ?c3 ?c4
      (case kX => assumption)
      (case kT => exact Top.nolimit (by assumption))
      (case k6 => k_is)
      (case k7 => k_is)
      (case k8 => decide)
      (case k9 => first | exact BindsTo.of_eq rfl | exact kp_binds (by assumption) (fun _ => rfl))
      (case kB => exact rfl)
      (case kD => decide +kernel)
      (case c2 => exact rfl)
      (case c3 => exact rfl)
      (case c4 => exact rfl))
  k_with "mine enterH" => (
      (case k6 => k_is)
      (case k7 => k_is)
      (case k8 => decide)
      (case k9 => first | exact fun _ => BindsTo.of_eq rfl | exact fun X' => kp_binds X' (fun _ => rfl))
      (case kB => exact rfl)
      (case kD => decide +kernel)
      (case c2 => exact rfl)
      (case c3 => exact rfl)
      (case c4 => exact rfl))
  k_with "mine tl" => (with_reducible first | exact tl_tag | exact tl_tail | exact tl_attrib | exact tl_kids | exact tl_append | exact tl_makeelement | exact tl_itertext)
  k_with "mine fnset0" => (
      refine' fnset0 ?F ?N ?U ?hc ?hdc ?hB ?_
      (case F => k_asm)
      (case N => k_asm)
      (case U => k_updF)
      (case hc => rfl)
      (case hdc => intro c q; cases q)
      (case hB => walk_at "mine tl"))
  k_with "mine fnset1" => (
      refine' fnset1 ?F ?N ?hf ?U ?hD ?hc ?hdf ?hdc ?hB ?hw ?hsz ?_
      (case F => k_asm)
      (case N => k_asm)
      (case hf => k_mem)
      (case U => k_updF)
      (case hD => with_reducible assumption)
      (case hc => rfl)
      (case hdf => first | k_ne | omega)
      (case hdc => intro c q; cases q)
      (case hB => walk_at "mine tl")
      (case hw => within_ways)
      (case hsz => decide))
  k_with "mine ne" => (with_reducible first
      | exact Nat.ne_of_lt (by assumption)
      | exact Nat.ne_of_lt (And.left (by assumption))
      | exact Nat.ne_of_lt (And.left (And.right (by assumption)))
      | exact Nat.ne_of_lt (And.right (by assumption))
      | exact Nat.ne_of_lt (And.left (And.right (And.right (by assumption))))
      | exact Nat.ne_of_lt (And.right (And.right (by assumption)))
      | exact Nat.ne_of_lt (And.left (And.right (And.right (And.right (by assumption)))))
      | exact Nat.ne_of_lt (And.right (And.right (And.right (by assumption))))
      | exact Nat.ne_of_lt (And.left (And.right (And.right (And.right (And.right (by assumption))))))
      | exact Nat.ne_of_lt (And.right (And.right (And.right (And.right (by assumption)))))
      | exact Nat.ne_of_lt (And.left (And.right (And.right (And.right (And.right (And.right (by assumption)))))))
      | exact Nat.ne_of_lt (And.right (And.right (And.right (And.right (And.right (by assumption))))))
      | exact Nat.ne_of_lt (And.left (And.right (And.right (And.right (And.right (And.right (And.right (by assumption))))))))
      | exact Nat.ne_of_lt (And.right (And.right (And.right (And.right (And.right (And.right (by assumption)))))))
      | exact Nat.ne_of_lt (And.left (And.right (And.right (And.right (And.right (And.right (And.right (And.right (by assumption)))))))))
      | exact Nat.ne_of_lt (And.right (And.right (And.right (And.right (And.right (And.right (And.right (by assumption))))))))
      | exact Nat.ne_of_lt (And.left (And.right (And.right (And.right (And.right (And.right (And.right (And.right (And.right (by assumption))))))))))
      | exact Nat.ne_of_lt (And.right (And.right (And.right (And.right (And.right (And.right (And.right (And.right (by assumption)))))))))
      | exact Nat.ne_of_lt (And.left (And.right (And.right (And.right (And.right (And.right (And.right (And.right (And.right (And.right (by assumption)))))))))))
      | exact Nat.ne_of_lt (And.right (And.right (And.right (And.right (And.right (And.right (And.right (And.right (And.right (by assumption))))))))))
      | exact Nat.ne_of_gt (by assumption)
      | exact Nat.ne_of_gt (And.left (by assumption))
      | exact Nat.ne_of_gt (And.left (And.right (by assumption)))
      | exact Nat.ne_of_gt (And.right (by assumption))
      | exact Nat.ne_of_gt (And.left (And.right (And.right (by assumption))))
      | exact Nat.ne_of_gt (And.right (And.right (by assumption)))
      | exact Nat.ne_of_gt (And.left (And.right (And.right (And.right (by assumption)))))
      | exact Nat.ne_of_gt (And.right (And.right (And.right (by assumption))))
      | exact Nat.ne_of_gt (And.left (And.right (And.right (And.right (And.right (by assumption))))))
      | exact Nat.ne_of_gt (And.right (And.right (And.right (And.right (by assumption)))))
      | exact Nat.ne_of_gt (And.left (And.right (And.right (And.right (And.right (And.right (by assumption)))))))
      | exact Nat.ne_of_gt (And.right (And.right (And.right (And.right (And.right (by assumption))))))
      | exact Nat.ne_of_gt (And.left (And.right (And.right (And.right (And.right (And.right (And.right (by assumption))))))))
      | exact Nat.ne_of_gt (And.right (And.right (And.right (And.right (And.right (And.right (by assumption)))))))
      | exact Nat.ne_of_gt (And.left (And.right (And.right (And.right (And.right (And.right (And.right (And.right (by assumption)))))))))
      | exact Nat.ne_of_gt (And.right (And.right (And.right (And.right (And.right (And.right (And.right (by assumption))))))))
      | exact Nat.ne_of_gt (And.left (And.right (And.right (And.right (And.right (And.right (And.right (And.right (And.right (by assumption))))))))))
      | exact Nat.ne_of_gt (And.right (And.right (And.right (And.right (And.right (And.right (And.right (And.right (by assumption)))))))))
      | exact Nat.ne_of_gt (And.left (And.right (And.right (And.right (And.right (And.right (And.right (And.right (And.right (And.right (by assumption)))))))))))
      | exact Nat.ne_of_gt (And.right (And.right (And.right (And.right (And.right (And.right (And.right (And.right (And.right (by assumption)))))))))))
  trivial
theorem cd145 (P : Params) : codeHdIn (hd.heap_1 P) 145 143 = true := by kernel_rfl
theorem fn106 (P : Params) : ∃ o fd, (hd.heap_1 P).lookup 106 = some o ∧ o.data = .func fd := ⟨_, _, rfl, rfl⟩
abbrev tab1 (c : Addr) : Array Value := #[rawInt 120, rawInt 20, .ref c]
abbrev lamQ2 : Str := "_law_tape" ++ ".<locals>." ++ "<lambda>"
noncomputable def Tab1 (h : Heap) (c : Addr) : Prop := h.get? 143 = some (tabObj (tab1 c)) ∧ h.CodeRec (.ref c) lamQ2
theorem Tab1.keeps {h h' : Heap} {c : Addr} (x : Tab1 h c) (k : Kp h h') : Tab1 h' c := ⟨k _ _ x.1, x.2.keeps k⟩
theorem mut_tab0 {h : Heap} {a : Addr} (e : h.get? a = some (tabObj #[])) : Mut h a := ⟨_, e, .inr ⟨_, rfl, fun x t q => by cases q⟩⟩
theorem mut_tab1 {h : Heap} {a c : Addr} (e : h.get? a = some (tabObj (tab1 c))) : Mut h a := ⟨_, e, .inr ⟨_, rfl, fun x t q => by cases q⟩⟩
noncomputable def bytesOf (cs : List Int) : Array UInt8 := (cs.map fun n => n.toNat.toUInt8).toArray
theorem codes_len : ∀ (l : List Str), (∀ x ∈ l, x.length ≤ 3) → (l.flatMap codesOf).length ≤ 3 * l.length := by
  intro l
  induction l with
  | nil => intro _; exact Nat.le_refl _
  | cons a l ih =>
    intro hl
    have h1 := ih fun x hx => hl x (List.mem_cons_of_mem _ hx)
    have h2 : a.cps.size ≤ 3 := hl a List.mem_cons_self
    simp only [List.flatMap_cons, List.length_append, List.length_cons, codesOf, List.length_map, Array.length_toList] at h1 ⊢
    rw [Nat.mul_succ, Nat.add_comm]
    exact Nat.add_le_add h1 h2
theorem tape_spec1 {prog : Program} {w : World} {p loose mean mg mb} {s : Shared} {b₀ : Heap} {t ka : Addr} {lo : Nat} {tag : Str} {vl : Value} {vs : List Value} {ns : List Int} {K : Kids} {Q E : Value → Shared → Prop}
    (X : (hd.heap_1 w.params).In b₀) (T : Top p loose mean mg mb b₀) (k₀ : Kp b₀ s.heap) (h143 : s.heap.get? 143 = some (tabObj #[])) (n143 : b₀.get? 143 = none) (hg : s.gens = #[])
    (hTh : Th prog w s.heap t tag "" 1 vl ka) (hl : ListAt s.heap ka vs) (hK : KidsAt prog w ns s.heap lo vs K) (hdp : K.dep ≤ 3) (htz : (K.texts ns).length ≤ 300) (hsz : K.sz ≤ 300) (hvl : GoodTail vl)
    (hx3 : ∀ x ∈ K.texts ns ++ tailT vl, x.length ≤ 3) (hcb : ∀ n ∈ (K.texts ns ++ tailT vl).flatMap codesOf, 0 ≤ n ∧ n < 256)
    (ret : ∀ h' tk' tb c, (∀ b o, b ≠ 143 → s.heap.get? b = some o → h'.get? b = some o) → Tab1 h' c → Q (.bytes (bytesOf ((K.texts ns ++ tailT vl).flatMap codesOf)) tb) { s with heap := h', toks := tk' }) :
    wpAny (model prog w) (AX 480 2900) (call (.ref 146) [.ref t]) Q E s := by
  refine' enterH (hid := [(143, tabObj #[])]) X T k₀ (fun q hq => by rw [List.mem_singleton.mp hq]; exact ⟨h143, n143⟩) ?k6 ?k7 ?k8 ?k9 ?kB ?kD ?_ ?c2 ?c3 ?c4
  walk_at "mine enterH"
  intro g L₁ h₁ tk₁ cells₁ X₁ T₁ up dn hL F₁ N₁ Y₁
  k_cells Y₁
  simp only [List.cons_append, List.nil_append] at N₁
  (try dsimp only)
  have C₁ : CodeHd g 145 143 := codeHd_of_K X₁ (cd145 _)
  have l143 : (143 : Nat) < L₁ := by rw [hL]; exact Heap.lt_size h143
  rename_i oP dP
  k_steps
  rename_i lk _ lA _ oKc _ _ eKc fl cl ocl vcl tcl _ hF tkF FF NF ecl1 ecl2 lB lC
  have h_fl := (NF _ (.head _)).1
  have h_cl := (NF _ (.tail _ (.head _))).1
  have h_lk := (NF _ (.tail _ (.tail _ (.head _)))).1
  have h_cK := (NF _ (.tail _ (.tail _ (.tail _ (.head _))))).1
  have h_tb := (NF _ (.tail _ (.tail _ (.tail _ (.tail _ (.head _)))))).1
  have up' : Upd 143 s.heap hF := fun b o hb e => FF.keep _ _ (up b o e (fun hm => hb (List.mem_singleton.mp hm)))
  have k143 := (mut_tab0 h143)
  have hAp : AppendF prog w (only hF [fl, cl, L₁ + 1]) fl lk := appendF_of (only_get h_fl (by simp)) rfl rfl ⟨cl, ocl, vcl, tcl, rfl, only_get h_cl (by simp), ecl1, ecl2⟩ rfl rfl rfl (fun _ => rfl) rfl rfl rfl rfl (only_get h_cK (by simp)) eKc rfl
  have nG : NoLists (only hF [fl, cl, L₁ + 1]) := noLists_calm (mem3 ⟨_, h_fl, .inl ⟨_, rfl⟩⟩ ⟨_, h_cl, .inr (.inl ⟨_, _, _, ecl1, ecl2⟩)⟩ ⟨_, h_cK, .inr (.inr ⟨_, eKc⟩)⟩)
  have Lk : @Ne Nat L₁ lk := by omega
  refine wpAny_weaken (n := 500) (u := 3000) ?_ rfl (Nat.le_of_ble_eq_true rfl) rfl (Nat.le_of_ble_eq_true rfl)
  refine serial_spec (s := { s with heap := hF, toks := tkF }) (b₀ := g) (gw := only hF [fl, cl, L₁ + 1]) (xs := []) (ss := []) (lo := lo) (K := K) (ns := ns) (text := "") (times := 1) X₁ T₁ FF.keep (NF _ (.tail _ (.tail _ (.head _)))).2.2 hg (hTh.upd up' k143) (up'.list (by
      intro q
      obtain ⟨n, e⟩ := hl
      rw [q, h143] at e; cases e) hl) (hK.upd up' k143 fun kb xs lb _ q => by
      obtain ⟨n, e⟩ := lb
      rw [q, h143] at e; cases e) hdp (.inl rfl) (Nat.zero_le _) htz hsz hvl hAp ⟨_, _, only_get h_fl (by simp), rfl⟩ (fun b o e => only_of e) nG ⟨_, h_lk⟩ .nil (Nat.zero_le _) fun h₆ tk₆ ys u6 l6 y6 => ?_
  dsimp only
  have y6' : Strs ys (K.texts ns ++ tailT vl) := y6
  have n6 : h₆.Ns L₁ _ := FF.ns.at' fun o e => u6 _ o Lk e
  have c6 : h₆.get? (L₁ + 1) = some oKc := u6 _ _ (show @Ne Nat (L₁ + 1) lk by omega) h_cK
  have k6 : Kp g h₆ := fun b o e => u6 b o (fun q => by have := (NF _ (.tail _ (.tail _ (.head _)))).2.2; rw [← q] at this; rw [show g.get? b = none from this] at e; cases e) (FF.keep b o e)
  have bB : Bi h₆ "bytes" (.type "bytes") := (Bi.of X₁ T₁ (by k_is) (by decide +kernel) (by decide)).keeps k6
  have bO : Bi h₆ "ord" (.builtin "ord") := (Bi.of X₁ T₁ (by k_is) (by decide +kernel) (by decide)).keeps k6
  have tlen : (K.texts ns ++ tailT vl).length ≤ 301 := by
    rw [List.length_append]
    rcases hvl with rfl | ⟨x, t', rfl, _⟩ <;> simp [tailT] <;> omega
  refine wpAny_execs_cons (wpAny_Return_some (Call_Name1 ((Ev.builtin (v := .type "bytes") bB rfl rfl rfl rfl) { s with heap := h₆, toks := tk₆ } _ _ rfl fun u tk₇ e => ?_)))
  subst e
  refine PySem.callWith_type1 ?_
  refine comp2_codes (s := { s with heap := h₆, toks := tk₇ }) (ss := K.texts ns ++ tailT vl) rfl rfl rfl (by decide) rfl rfl rfl (fun _ => rfl) (fun _ => rfl) rfl rfl (by decide) (by decide) bO (Ev.cell c6 eKc rfl rfl rfl) l6 y6' (by rw [y6'.length]; omega) hx3 fun D h₇ tk₈ zs k7 lD l7 z7 => ?_
  refine call_bytes_ints l7.isList z7 hcb (by
    rw [z7.length, sizeLine_eq]
    have := codes_len _ hx3
    omega) rfl fun h₈ tb tk₉ k8 => ?_
  dsimp only
  have all : Upd 143 s.heap h₈ := fun b o hb e => k8 _ _ (k7 _ _ (u6 b o (fun q => by have h9 : @LT.lt Nat _ b s.heap.objs.size := Heap.lt_size e; rw [q] at h9; omega) (up' b o hb e)))
  have tb8 := k8 _ _ (k7 _ _ (u6 _ _ (show @Ne Nat 143 lk by omega) h_tb))
  exact ret h₈ tk₉ tb cl (fun b o hb e => all b o hb e) ⟨tb8, ⟨cl, ocl, vcl, tcl, rfl, k8 _ _ (k7 _ _ (u6 _ _ (show @Ne Nat cl lk by omega) h_cl)), ecl1, ecl2⟩⟩
theorem tape_spec2 {prog : Program} {w : World} {p loose mean mg mb} {s : Shared} {b₀ : Heap} {t ka : Addr} {lo : Nat} {tag : Str} {vl : Value} {vs : List Value} {ns : List Int} {K : Kids} {c : Addr} {Q E : Value → Shared → Prop}
    (X : (hd.heap_1 w.params).In b₀) (T : Top p loose mean mg mb b₀) (k₀ : Kp b₀ s.heap) (h143 : Tab1 s.heap c) (n143 : b₀.get? 143 = none) (hg : s.gens = #[])
    (hTh : Th prog w s.heap t tag "" 1 vl ka) (hl : ListAt s.heap ka vs) (hK : KidsAt prog w ns s.heap lo vs K) (hdp : K.dep ≤ 3) (htz : (K.texts ns).length ≤ 300) (hsz : K.sz ≤ 300) (hvl : GoodTail vl)
    (hx3 : ∀ x ∈ K.texts ns ++ tailT vl, x.length ≤ 3) (hcb : ∀ n ∈ (K.texts ns ++ tailT vl).flatMap codesOf, 0 ≤ n ∧ n < 256)
    (ret : ∀ h' tk' tb, Kp s.heap h' → Q (.bytes (bytesOf ((K.texts ns ++ tailT vl).flatMap codesOf)) tb) { s with heap := h', toks := tk' }) :
    wpAny (model prog w) (AX 480 2900) (call (.ref 146) [.ref t]) Q E s := by
  refine' enterH (hid := [(143, tabObj (tab1 c))]) X T k₀ (fun q hq => by rw [List.mem_singleton.mp hq]; exact ⟨h143.1, n143⟩) ?k6 ?k7 ?k8 ?k9 ?kB ?kD ?_ ?c2 ?c3 ?c4
  walk_at "mine enterH"
  intro g L₁ h₁ tk₁ cells₁ X₁ T₁ up dn hL F₁ N₁ Y₁
  k_cells Y₁
  simp only [List.cons_append, List.nil_append] at N₁
  (try dsimp only)
  have C₁ : CodeHd g 145 143 := codeHd_of_K X₁ (cd145 _)
  have l143 : (143 : Nat) < L₁ := by rw [hL]; exact Heap.lt_size h143.1
  rename_i oP dP
  k_steps
  rename_i lk _ lA _ oKc _ _ eKc fl _ hF tkF FF NF lB
  have h_fl := (NF _ (.head _)).1
  have h_lk := (NF _ (.tail _ (.head _))).1
  have h_cK := (NF _ (.tail _ (.tail _ (.head _)))).1
  have h_tb := (NF _ (.tail _ (.tail _ (.tail _ (.head _))))).1
  have hc143 : c ≠ 143 := codeRec_ne h143.2 h143.1 fun x t q => by cases q
  refine gg fun P hP => ?_
  obtain ⟨ocl, vcl, tcl, hcl, ecl1, ecl2⟩ := codeRec_to h143.2 fun o e => FF.keep _ _ (up _ _ e (fun hm => hc143 (List.mem_singleton.mp hm)))
  refine hP ?_
  clear hP
  have up' : Upd 143 s.heap hF := fun b o hb e => FF.keep _ _ (up b o e (fun hm => hb (List.mem_singleton.mp hm)))
  have k143 := (mut_tab1 h143.1)
  have hAp : AppendF prog w (only hF [fl, c, L₁ + 1]) fl lk := appendF_of (only_get h_fl (by simp)) rfl rfl ⟨c, ocl, vcl, tcl, rfl, only_get hcl (by simp), ecl1, ecl2⟩ rfl rfl rfl (fun _ => rfl) rfl rfl rfl rfl (only_get h_cK (by simp)) eKc rfl
  have nG : NoLists (only hF [fl, c, L₁ + 1]) := noLists_calm (mem3 ⟨_, h_fl, .inl ⟨_, rfl⟩⟩ ⟨_, hcl, .inr (.inl ⟨_, _, _, ecl1, ecl2⟩)⟩ ⟨_, h_cK, .inr (.inr ⟨_, eKc⟩)⟩)
  have Lk : @Ne Nat L₁ lk := by omega
  refine wpAny_weaken (n := 500) (u := 3000) ?_ rfl (Nat.le_of_ble_eq_true rfl) rfl (Nat.le_of_ble_eq_true rfl)
  refine serial_spec (s := { s with heap := hF, toks := tkF }) (b₀ := g) (gw := only hF [fl, c, L₁ + 1]) (xs := []) (ss := []) (lo := lo) (K := K) (ns := ns) (text := "") (times := 1) X₁ T₁ FF.keep (NF _ (.tail _ (.head _))).2.2 hg (hTh.upd up' k143) (up'.list (by
      intro q
      obtain ⟨n, e⟩ := hl
      rw [q, h143.1] at e; cases e) hl) (hK.upd up' k143 fun kb xs lb _ q => by
      obtain ⟨n, e⟩ := lb
      rw [q, h143.1] at e; cases e) hdp (.inl rfl) (Nat.zero_le _) htz hsz hvl hAp ⟨_, _, only_get h_fl (by simp), rfl⟩ (fun b o e => only_of e) nG ⟨_, h_lk⟩ .nil (Nat.zero_le _) fun h₆ tk₆ ys u6 l6 y6 => ?_
  dsimp only
  have y6' : Strs ys (K.texts ns ++ tailT vl) := y6
  have n6 : h₆.Ns L₁ _ := FF.ns.at' fun o e => u6 _ o Lk e
  have c6 : h₆.get? (L₁ + 1) = some oKc := u6 _ _ (show @Ne Nat (L₁ + 1) lk by omega) h_cK
  have k6 : Kp g h₆ := fun b o e => u6 b o (fun q => by have := (NF _ (.tail _ (.head _))).2.2; rw [← q] at this; rw [show g.get? b = none from this] at e; cases e) (FF.keep b o e)
  have bB : Bi h₆ "bytes" (.type "bytes") := (Bi.of X₁ T₁ (by k_is) (by decide +kernel) (by decide)).keeps k6
  have bO : Bi h₆ "ord" (.builtin "ord") := (Bi.of X₁ T₁ (by k_is) (by decide +kernel) (by decide)).keeps k6
  have tlen : (K.texts ns ++ tailT vl).length ≤ 301 := by
    rw [List.length_append]
    rcases hvl with rfl | ⟨x, t', rfl, _⟩ <;> simp [tailT] <;> omega
  refine wpAny_execs_cons (wpAny_Return_some (Call_Name1 ((Ev.builtin (v := .type "bytes") bB rfl rfl rfl rfl) { s with heap := h₆, toks := tk₆ } _ _ rfl fun u tk₇ e => ?_)))
  subst e
  refine PySem.callWith_type1 ?_
  refine comp2_codes (s := { s with heap := h₆, toks := tk₇ }) (ss := K.texts ns ++ tailT vl) rfl rfl rfl (by decide) rfl rfl rfl (fun _ => rfl) (fun _ => rfl) rfl rfl (by decide) (by decide) bO (Ev.cell c6 eKc rfl rfl rfl) l6 y6' (by rw [y6'.length]; omega) hx3 fun D h₇ tk₈ zs k7 lD l7 z7 => ?_
  refine call_bytes_ints l7.isList z7 hcb (by
    rw [z7.length, sizeLine_eq]
    have := codes_len _ hx3
    omega) rfl fun h₈ tb tk₉ k8 => ?_
  dsimp only
  have all : Upd 143 s.heap h₈ := fun b o hb e => k8 _ _ (k7 _ _ (u6 b o (fun q => by have h9 : @LT.lt Nat _ b s.heap.objs.size := Heap.lt_size e; rw [q] at h9; omega) (up' b o hb e)))
  have tb8 := k8 _ _ (k7 _ _ (u6 _ _ (show @Ne Nat 143 lk by omega) h_tb))
  exact ret h₈ tk₉ tb fun b o e => by
    by_cases hb : b = 143
    · subst hb; rw [h143.1] at e; cases e; exact tb8
    · exact all b o hb e
abbrev Mt := Nat → Nat → Int
noncomputable def idM : Mt := fun i j => if i = j then 1 else 0
noncomputable def mulM (M N : Mt) : Mt := fun i j => dot4 fun k => M i k * N k j
noncomputable def EqM (M N : Mt) : Prop := ∀ i j, i < 4 → j < 4 → M i j = N i j
namespace Kids
noncomputable def ok : Kids → Prop
  | nil => True
  | step i d j r => i < 4 ∧ d < 7 ∧ j < 4 ∧ i ≠ j ∧ r.ok
  | loop a r => a.ok ∧ r.ok
noncomputable def mat : Kids → Mt → Mt
  | nil, T => T
  | step i d j r, T => r.mat (stepE T i j ((d : Int) - 3))
  | loop a r, T => r.mat (a.mat (a.mat T))
noncomputable def matI : Sum (Nat × Nat × Nat) Kids → Mt → Mt
  | .inl x, T => stepE T x.1 x.2.2 ((x.2.1 : Int) - 3)
  | .inr a, T => a.mat (a.mat T)
noncomputable def matL : List (Sum (Nat × Nat × Nat) Kids) → Mt → Mt
  | [], T => T
  | x :: r, T => matL r (matI x T)
theorem mat_items : ∀ (K : Kids) (T : Mt), K.mat T = matL K.items T
  | nil, _ => rfl
  | step i d j r, T => mat_items r _
  | loop a r, T => mat_items r _
theorem matL_snoc : ∀ (l : List (Sum (Nat × Nat × Nat) Kids)) (x : Sum (Nat × Nat × Nat) Kids) (T : Mt), matL (l ++ [x]) T = matI x (matL l T)
  | [], _, _ => rfl
  | y :: r, x, T => matL_snoc r x _
theorem ok_step : ∀ {K : Kids} {x : Nat × Nat × Nat}, K.ok → .inl x ∈ K.items → x.1 < 4 ∧ x.2.1 < 7 ∧ x.2.2 < 4 ∧ x.1 ≠ x.2.2
  | nil, _, _, h => nomatch h
  | step i d j r, x, o, h => by
    rcases List.mem_cons.mp h with e | h
    · cases e; exact ⟨o.1, o.2.1, o.2.2.1, o.2.2.2.1⟩
    · exact ok_step (K := r) o.2.2.2.2 h
  | loop b r, a, o, h => by
    rcases List.mem_cons.mp h with e | h
    · cases e
    · exact ok_step (K := r) o.2 h
theorem ok_inner : ∀ {K a : Kids}, K.ok → .inr a ∈ K.items → a.ok
  | nil, _, _, h => nomatch h
  | step i d j r, x, o, h => by
    rcases List.mem_cons.mp h with e | h
    · cases e
    · exact ok_inner (K := r) o.2.2.2.2 h
  | loop b r, a, o, h => by
    rcases List.mem_cons.mp h with e | h
    · cases e; exact o.1
    · exact ok_inner (K := r) o.2 h
end Kids
theorem stepE_congr {M N : Mt} {a b : Nat} {c : Int} (hb : b < 4) (h : EqM M N) : EqM (stepE M a b c) (stepE N a b c) := fun i j hi hj => by
  unfold stepE
  rw [h i j hi hj, h b j hb hj]
theorem Kids.mat_congr : ∀ {K : Kids} {M N : Mt}, K.ok → EqM M N → EqM (K.mat M) (K.mat N)
  | .nil, _, _, _, h => h
  | .step i d j r, _, _, o, h => Kids.mat_congr (K := r) o.2.2.2.2 (stepE_congr o.2.2.1 h)
  | .loop a r, _, _, o, h => Kids.mat_congr (K := r) o.2 (Kids.mat_congr (K := a) o.1 (Kids.mat_congr (K := a) o.1 h))
theorem EqM.trans {M N P : Mt} (h : EqM M N) (h' : EqM N P) : EqM M P := fun i j hi hj => (h i j hi hj).trans (h' i j hi hj)
theorem mul_step {X T : Mt} {a b : Nat} {c : Int} : EqM (mulM (stepE X a b c) T) (stepE (mulM X T) a b c) := fun i j hi hj => by
  unfold mulM stepE dot4
  by_cases q : i = a
  · simp only [if_pos q]; grind
  · simp only [if_neg q, Int.add_zero]
theorem Kids.mul_mat : ∀ {K : Kids} {X T : Mt}, K.ok → EqM (mulM (K.mat X) T) (K.mat (mulM X T))
  | .nil, _, _, _ => fun _ _ _ _ => rfl
  | .step i d j r, X, T, o => (Kids.mul_mat (K := r) o.2.2.2.2).trans (Kids.mat_congr o.2.2.2.2 mul_step)
  | .loop a r, X, T, o => (Kids.mul_mat (K := r) o.2).trans (Kids.mat_congr o.2 ((Kids.mul_mat (K := a) o.1).trans (Kids.mat_congr o.1 (Kids.mul_mat (K := a) o.1))))
theorem idM_row {g : Nat → Int} {i : Nat} (hi : i < 4) : dot4 (fun k => idM i k * g k) = g i := by
  rw [← dot4_single (g := g) i hi]
  congr 1
  funext k
  unfold idM
  by_cases q : i = k
  · rw [if_pos q, if_pos q.symm, Int.one_mul]
  · rw [if_neg q, if_neg (Ne.symm q), Int.zero_mul]
theorem mul_id {T : Mt} : EqM (mulM idM T) T := fun i j hi _ => idM_row (g := fun k => T k j) hi
theorem Kids.mul_mat_id {K : Kids} {T : Mt} (o : K.ok) : EqM (mulM (K.mat idM) T) (K.mat T) := (Kids.mul_mat o).trans (Kids.mat_congr o mul_id)
theorem mulM_congr {M M' N N' : Mt} (h : EqM M M') (h' : EqM N N') : EqM (mulM M N) (mulM M' N') := fun i j hi hj => by
  unfold mulM dot4
  dsimp only
  rw [h i 0 hi (by decide), h i 1 hi (by decide), h i 2 hi (by decide), h i 3 hi (by decide), h' 0 j (by decide) hj, h' 1 j (by decide) hj, h' 2 j (by decide) hj, h' 3 j (by decide) hj]
/-- bounded entries -/
noncomputable def BdM (B : Nat) (M : Mt) : Prop := ∀ i j, i < 4 → j < 4 → (M i j).natAbs ≤ B
theorem BdM.congr {B : Nat} {M N : Mt} (h : EqM M N) (b : BdM B N) : BdM B M := fun i j hi hj => by rw [h i j hi hj]; exact b i j hi hj
theorem digit_abs : ∀ d : Nat, d < 7 → ((d : Int) - 3).natAbs ≤ 3 := by decide
theorem stepE_bd {M : Mt} {B a b d : Nat} (hb : b < 4) (hd : d < 7) (h : BdM B M) : BdM (4 * B) (stepE M a b ((d : Int) - 3)) := fun i j hi hj => by
  have h1 := h i j hi hj
  have h2 := h b j hb hj
  show (M i j + (if i = a then ((d : Int) - 3) * M b j else 0)).natAbs ≤ _
  by_cases q : i = a
  · rw [if_pos q, show 4 * B = B + 3 * B from (Nat.succ_mul 3 B).trans (Nat.add_comm _ _)]
    refine Nat.le_trans (Int.natAbs_add_le _ _) (Nat.add_le_add h1 ?_)
    rw [Int.natAbs_mul]
    exact Nat.mul_le_mul (digit_abs d hd) h2
  · rw [if_neg q, Int.add_zero]
    exact Nat.le_trans h1 (Nat.le_mul_of_pos_left _ (by decide))
theorem Kids.mat_bd (ns : List Int) : ∀ {K : Kids} {M : Mt} {B : Nat}, K.ok → BdM B M → BdM (4 ^ (K.texts ns).length * B) (K.mat M)
  | .nil, _, B, _, h => by simpa [Kids.texts, Kids.mat] using h
  | .step i d j r, _, B, o, h => by
    have := Kids.mat_bd ns (K := r) o.2.2.2.2 (stepE_bd (a := i) o.2.2.1 o.2.1 h)
    simp only [Kids.texts, List.length_cons, Kids.mat]
    rw [Nat.pow_succ, Nat.mul_assoc]
    exact this
  | .loop a r, _, B, o, h => by
    have := Kids.mat_bd ns (K := r) o.2 (Kids.mat_bd ns (K := a) o.1 (Kids.mat_bd ns (K := a) o.1 h))
    simp only [Kids.texts, List.length_append, Kids.mat]
    rw [show 4 ^ ((a.texts ns).length + (a.texts ns).length + (r.texts ns).length) * B = 4 ^ (r.texts ns).length * (4 ^ (a.texts ns).length * (4 ^ (a.texts ns).length * B)) by rw [Nat.pow_add, Nat.pow_add]; simp only [Nat.mul_assoc, Nat.mul_comm, Nat.mul_left_comm]]
    exact this
theorem bits_small {a : Int} (h : a.natAbs < 2 ^ 60) : Builtin.Int.intBits a ≤ 64 := by
  unfold Builtin.Int.intBits
  split
  · exact Nat.zero_le _
  · rename_i q
    have hne : a.natAbs ≠ 0 := fun z => q (by simpa using z)
    have := (Nat.log2_lt hne).mpr h
    omega
theorem MatAt.congr {h : Heap} {v : Value} {M N : Mt} (x : MatAt h v M) (e : EqM M N) : MatAt h v N := let ⟨a, ys, e1, l, n, r⟩ := x; ⟨a, ys, e1, l, n, fun i hi => let ⟨b, zs, f1, f2, f3, f4⟩ := r i hi; ⟨b, zs, f1, f2, f3, fun j hj => let ⟨t, q⟩ := f4 j hj; ⟨t, q.trans (by rw [e i j hi hj])⟩⟩⟩
/-- `y = [elt for x in range(n)]`, x a cell -/
theorem assign_comp_cell {prog : Program} {w : World} {A : Around} {E : Value → Shared → Prop} {s : Shared} {elt iter : Expr} {x : Str} {px : Pos} {scope : Scope} {pos : Pos} {env : Env} {cl : List (Str × Addr)} {n : Nat} {h₀ : Heap} {G : Nat → Value → Heap → Prop} {y : Str} {py spos : Pos} {m₀ : Str → Option Value} {Q : Flow → Shared → Prop}
    (hsw : swapsWith (.ListComp elt [⟨.Name x px, iter, [], 0⟩] scope pos) (some (.Name y py)) spos.line env = pure true) (hy : env.kindOf y = some .local) (hp : (env.scope.kind == .class || (env.scope.kind == .module && env.locals != env.globals)) = false) (hns₀ : s.heap.Ns env.locals m₀) (nL₀ : h₀.get? env.locals = none)
    (hh : A.handled = none) (hn : n ≤ sizeLine) (hsm : Builtin.Range.small 0 n 1 = true) (hrs : Builtin.Range.rangeSize 0 n 1 = ((n : Nat) : Int)) (hk₀ : Kp h₀ s.heap)
    (hclos : closureFor scope env = pure cl) (hkind : scope.kind = .function) (hnames : ∀ y ∈ scope.names, y.2 = .local → scope.names.lookup y.1 = some .local)
    (hx : (relabel scope env).names.lookup x = some .cell) (hcf : ∀ k, cellsFrom k scope.names cl = (x, k) :: cl) (hpc : ∀ h, pushCells h scope.names = h.push (cellO none))
    (hiter : wpAny (model prog w) A (eval iter env) (fun xv s₁ => ∃ r t u v h tk, xv = .ref r ∧ s₁ = { s with heap := h, toks := tk } ∧ Kp s.heap h ∧ s.heap.objs.size ≤ h.objs.size ∧ IsRange h r 0 n 1 t u v) E s)
    (helt : ∀ (i : Nat) C c m h t tk, i < n → s.heap.objs.size ≤ C → s.heap.objs.size ≤ c → Fr s.heap C h m → News s.heap C h [(c, cellO (some (.int i t)))] → wpAny (model prog w) A (eval elt (compEnvC scope ((x, c) :: cl) C env)) (fun y s' => ∃ h' tk', s' = { s with heap := h', toks := tk' } ∧ Kp h h' ∧ ∀ g, Sup h₀ h h' g → G i y g) (fun _ _ => False) { s with heap := h, toks := tk })
    (hQ : ∀ D h tk ys, (∀ b o, b ≠ env.locals → s.heap.get? b = some o → h.get? b = some o) → h.Ns env.locals (fun z => if z = y then some (.ref D) else m₀ z) → s.heap.objs.size ≤ D → h.get? D = some (lstO ys) → ys.length = n → (∀ g, Sup h₀ s.heap h g → ∀ j, j < n → G j (ys.getD j .none) g) → Q .next { s with heap := h, toks := tk })
    (hs : ∀ x, foldedSetIterable iter env x = pure x := by intro _; rfl) :
    wpAny (model prog w) A (exec (.Assign [.Name y py] (.ListComp elt [⟨.Name x px, iter, [], 0⟩] scope pos) spos) env) Q E s := by
  rw [exec_Assign_Name_used _ _ _ _ hsw]
  refine wpAny_bind (wpAny_standAt (wpAny_bind ?_))
  show wpAny _ A (do let _ ← comprehension (.ListComp elt [⟨.Name x px, iter, [], 0⟩] scope pos) scope env _ (newList []) false (eval iter env) (some (assign (.Name y py) env))) _ _ s
  refine wpAny_bind (wpAny_mono (wpAny_comprehension_free (use := some (assign (.Name y py) env)) (Q := fun _ s' => Q .next s') rfl hs hclos hkind hnames (wpAny_mono hiter (fun xv s₁ h₁ => ?_) fun _ _ e => e)) (fun _ s' hq => wpAny_pure (wpAny_pure hq)) fun _ _ e => e)
  refine gg fun P hP => ?_
  obtain ⟨r, t, u, v, h, tk, rfl, rfl, hk, hle, hr⟩ := h₁
  refine hP ?_
  clear hP
  refine wpAny_pyIter_range hr hsm ?_
  rw [hrs]
  refine wpAny_newObj_type (data := .seq ([] : List Value).toArray) (dict := none) ?_ (hd := by show (0 : Nat) ≤ _; exact Nat.zero_le _)
  refine compEnv_new ?_
  rw [hcf, hpc]
  dsimp only
  generalize hH1 : h.push { cls := .type "range_iterator", data := .fields #[rawInt 0, rawInt ((n : Nat) : Int), rawInt 1] } = H1
  generalize hH2 : H1.push { cls := .type "list", dict := none, data := .seq ([] : List Value).toArray } = H2
  have z1 : H1.objs.size = h.objs.size + 1 := by rw [← hH1, Heap.size_push]
  have z2 : H2.objs.size = h.objs.size + 2 := by rw [← hH2, Heap.size_push, z1]
  have u1 : ∀ b o, h.get? b = some o → H1.get? b = some o := fun b o e => hH1 ▸ Heap.get?_push_of_some _ e
  have u2 : ∀ b o, H1.get? b = some o → H2.get? b = some o := fun b o e => hH2 ▸ Heap.get?_push_of_some _ e
  generalize hH3 : H2.push { cls := .type "dict", data := .dict #[] } = H3
  have z3 : H3.objs.size = h.objs.size + 3 := by rw [← hH3, Heap.size_push, z2]
  have u3 : ∀ b o, H2.get? b = some o → H3.get? b = some o := fun b o e => hH3 ▸ Heap.get?_push_of_some _ e
  have u4 : ∀ b o, H3.get? b = some o → (H3.push (cellO none)).get? b = some o := fun b o e => Heap.get?_push_of_some _ e
  have hcC : H2.objs.size + 1 = H3.objs.size := by omega
  rw [hcC]
  have loop : ∀ (R : Result → Shared → Prop), (∀ h' tk ys, Kp s.heap h' → h'.get? H1.objs.size = some (lstO ys) → ys.length = n → (∃ m, h'.Ns H2.objs.size m) →
      (∀ g, (∀ b o, b ≠ h.objs.size → b ≠ H1.objs.size → b ≠ H3.objs.size → b ≠ H2.objs.size → h'.get? b = some o → (s.heap.get? b = none ∨ h₀.get? b ≠ none) → g.get? b = some o) → ∀ j, j < n → G j (ys.getD j .none) g) → R (.ok .next) { s with heap := h', toks := tk }) →
      codeAny (model prog w) A (.compLoop (.ListComp elt [⟨.Name x px, iter, [], 0⟩] scope pos) 0 (.ref h.objs.size) (.ref H1.objs.size) (compEnvC scope ((x, H3.objs.size) :: cl) H2.objs.size env)) R { s with heap := H3.push (cellO none), toks := tk } := fun R hR =>
    comp_loop (s := s) (h₀ := h₀) (n := n) (I := h.objs.size) (D := H1.objs.size) (C := H2.objs.size) (T := H3.objs.size) (G := G)
      (St := fun g => (∃ m, g.Ns H2.objs.size m) ∧ ∃ v, g.get? H3.objs.size = some (cellO v)) (Bd := fun v g => (∃ m, g.Ns H2.objs.size m) ∧ g.get? H3.objs.size = some (cellO (some v))) hh hn hk₀ hle (by omega) (by omega) (by omega) (by omega) (by omega) (by omega) (by omega) (by omega)
      (fun v g ⟨m, e⟩ => ⟨m, _, e⟩) (fun g e => e.1) (fun g g' ⟨⟨m, e⟩, v, q⟩ k => ⟨⟨m, e.at' fun o q => k _ o (Nat.ne_of_gt (by omega)) (Nat.ne_of_gt (by omega)) q⟩, v, k _ _ (Nat.ne_of_gt (by omega)) (Nat.ne_of_gt (by omega)) q⟩) (fun g ⟨m, v, e⟩ q => by rw [e] at q; cases q)
      (fun v g tk Q E ⟨⟨m, e⟩, v₀, e'⟩ q => store_cell hkind hx (by simp [compEnvC]) e' (fun g₂ n₂ s₂ => q g₂ _ ⟨⟨m, e.sameBut s₂ (show H2.objs.size ≠ H3.objs.size from Nat.ne_of_lt (by omega))⟩, n₂⟩ s₂))
      (fun i g t tk hi k ⟨⟨m, e⟩, hm⟩ => helt i H2.objs.size H3.objs.size m g t tk hi (by omega) (by omega) ⟨e, k, by omega⟩ (fun p hp => by
        rw [List.mem_singleton.mp hp]
        exact ⟨hm, Nat.ne_of_gt (by show H2.objs.size < H3.objs.size; omega), fresh_none (show s.heap.objs.size ≤ H3.objs.size by omega)⟩))
      (fun b o e => u4 _ _ (u3 _ _ (u2 _ _ (u1 _ _ (hk b o e))))) (u4 _ _ (u3 _ _ (u2 _ _ (by rw [← hH1]; simpa using Heap.get?_push_size h rfl)))) (u4 _ _ (u3 _ _ (by rw [← hH2]; exact Heap.get?_push_size _ rfl))) ⟨⟨_, (hH3 ▸ Heap.Ns.new ..  : H3.Ns H2.objs.size _).keeps u4⟩, none, Heap.get?_push_size _ rfl⟩ hR
  have hLlt : @LT.lt Nat _ env.locals s.heap.objs.size := hns₀.lt
  have fin : ∀ (h' : Heap) (tk' : Nat) (ys : List Value), Kp s.heap h' → h'.get? H1.objs.size = some (lstO ys) → ys.length = n → (∃ m, h'.Ns H2.objs.size m) → (∀ g, (∀ b o, b ≠ h.objs.size → b ≠ H1.objs.size → b ≠ H3.objs.size → b ≠ H2.objs.size → h'.get? b = some o → (s.heap.get? b = none ∨ h₀.get? b ≠ none) → g.get? b = some o) → ∀ j, j < n → G j (ys.getD j .none) g) →
      compPost (model prog w) A E (some (assign (.Name y py) env)) (fun _ s' => Q .next s') (.ref H1.objs.size) H2.objs.size (.ok .next) { s with heap := h', toks := tk' } := by
    rintro h' tk' ys k1 hD hyl ⟨m, hns⟩ hg
    show wpAny _ A (assign (.Name y py) env (.ref H1.objs.size)) _ _ _
    refine wpAny_assign_Name (wpAny_storeName_local hy (hns₀.keeps k1) (fun h₂ hn₂ hs₂ => ?_) hp)
    have hLC : @Ne Nat H2.objs.size env.locals := Nat.ne_of_gt (by omega)
    refine ⟨m, hns.sameBut hs₂ hLC, fun h'' hs'' => ?_⟩
    refine hQ _ h'' _ ys (fun b o hb e => hs''.extBut b o (fun (q : b = H2.objs.size) => absurd (Heap.lt_size e) (by rw [q]; exact Nat.not_lt.mpr (by omega))) (hs₂.extBut b o hb (k1 b o e))) (hn₂.sameBut hs'' hLC.symm) (by omega)
      (hs''.extBut _ _ (show @Ne Nat H1.objs.size H2.objs.size by omega) (hs₂.extBut _ _ (show @Ne Nat H1.objs.size env.locals by omega) hD)) hyl fun g sg j hj => hg g (fun b o b1 b2 b3 b4 e d => ?_) j hj
    have hbL : b ≠ env.locals := by
      rintro rfl
      refine gg fun P hP => ?_
      obtain ⟨oL, _, _, eL, _⟩ := hns₀
      refine hP ?_
      clear hP
      rcases d with d | d
      · rw [eL] at d; cases d
      · exact d nL₀
    exact sg b o (hs''.extBut b o b4 (hs₂.extBut b o hbL e)) d
  refine codeAny_compStart_list (loop _ fin) ?_
  have hit : ({ s with heap := H3.push (cellO none), toks := tk } : Shared).heap.get? h.objs.size = some _ := u4 _ _ (u3 _ _ (u2 _ _ (by rw [← hH1]; simpa using Heap.get?_push_size h rfl)))
  exact wpAny_pyIter_rangeiter (show IsRangeIter _ _ 0 n 1 from hit) (loop _ fin)
section
variable {prog : Program} {w : World} {A : Around} {env : Env} {E : Value → Shared → Prop} {s : Shared}
theorem call3 {f e1 e2 e3 : Expr} {pos : Pos} {a : Addr} {u1 u2 u3 : Value} {Q : Value → Shared → Prop} (hf : Ev prog w A env f s.heap (fun u => u = .ref a)) (h1 : Ev prog w A env e1 s.heap (fun u => u = u1)) (h2 : Ev prog w A env e2 s.heap (fun u => u = u2)) (h3 : Ev prog w A env e3 s.heap (fun u => u = u3)) (hfn : FnO s.heap a)
    (h : ∀ tk, wpAny (model prog w) A (call (.ref a) [u1, u2, u3]) Q E { s with toks := tk })
    (he : eval (.Call f [e1, e2, e3] [] pos) env = (do callWith pos (← eval f env) [] (backTo pos (starEach [e1, e2, e3] env)) (backToKw pos (keywordEach [] env))) := by rfl)
    (hs : backTo pos (starEach [e1, e2, e3] env) = [(false, eval e1 env), (false, eval e2 env), (false, eval e3 env)] := by rfl) :
    wpAny (model prog w) A (eval (.Call f [e1, e2, e3] [] pos) env) Q E s := by
  obtain ⟨ob, fd, hob, hdat⟩ := hfn
  refine PyProof.Rows.Call_ (hf s _ _ rfl fun u tk e => ?_) he
  subst e
  rw [hs]
  refine Calls.callWith_function (o := ob) (fd := fd) (Calls.evalArgs_plain (Calls.spliced_cons (h1 { s with toks := tk } _ _ rfl fun u tk₃ e => Calls.spliced_cons (h2 { s with toks := tk₃ } _ _ rfl fun u' tk₄ e' => Calls.spliced_cons (h3 { s with toks := tk₄ } _ _ rfl fun u'' tk₅ e'' => Calls.spliced_nil ?_)))))
  subst e e' e''
  exact ⟨⟨hob, hdat⟩, h tk₅⟩
/-- `a == 'x'` for texts, as a test -/
theorem test_eqstr {l : Expr} {x y : Str} {k : Nat} {p1 pos : Pos} {t : Tok} {whole : Sem Value} {Q : Bool → Shared → Prop} (hl : Ev prog w A env l s.heap (fun u => u = .str x t)) (h : ∀ tk, Q (x.cps.toList == y.cps.toList) { s with toks := tk })
    (hm : behindInMarks .Eq (.Constant (.str y) k p1) = false := by with_unfolding_all rfl) :
    wpAny (model prog w) A (isTrue (.Compare l [.Eq] [.Constant (.str y) k p1] pos) env whole) Q E s := by
  refine wpAny_isTrue_Compare1 (hl s _ _ rfl fun u tk e => ?_) hm
  subst e
  refine wpAny_Constant_str ?_
  refine P.eq_str ?_
  exact wpAny_truthy_bool (h _)
end
theorem MatAt.but {h h' : Heap} {v : Value} {M : Mt} {I L : Addr} (x : MatAt h v M) (hI : ∀ o, h.get? I = some o → ∃ vs, o.data = .fields vs) (hL : ∀ o, h.get? L = some o → ∃ es n, o.data = .dict es n)
    (k : ∀ b o, I ≠ b → b ≠ L → h.get? b = some o → h'.get? b = some o) : MatAt h' v M := by
  have lst : ∀ {a : Addr} {ys : List Value}, h.IsList a ys.toArray → h'.IsList a ys.toArray := by
    rintro a ys ⟨o, e, c, n, d⟩
    refine ⟨o, k a o ?_ ?_ e, c, n, d⟩
    · rintro rfl; obtain ⟨vs, z⟩ := hI _ e; rw [d] at z; cases z
    · rintro rfl; obtain ⟨es, m, z⟩ := hL _ e; rw [d] at z; cases z
  obtain ⟨a, ys, e, l, n, r⟩ := x
  refine ⟨a, ys, e, lst l, n, fun i hi => ?_⟩
  obtain ⟨b, zs, f1, f2, f3, f4⟩ := r i hi
  exact ⟨b, zs, f1, lst f2, f3, f4⟩
theorem fn163 (P : Params) : ∃ o fd, (hd.heap_1 P).lookup 163 = some o ∧ o.data = .func fd := ⟨_, _, rfl, rfl⟩
theorem fn158 (P : Params) : ∃ o fd, (hd.heap_1 P).lookup 158 = some o ∧ o.data = .func fd := ⟨_, _, rfl, rfl⟩
theorem fn168 (P : Params) : ∃ o fd, (hd.heap_1 P).lookup 168 = some o ∧ o.data = .func fd := ⟨_, _, rfl, rfl⟩
/-- four rising names, letters -/
structure Names (ns : List Int) : Prop where
  len : ns.length = 4
  rise : Rising ns
  lo : ∀ n ∈ ns, 65 ≤ n
  hi : ∀ n ∈ ns, n ≤ 92
theorem Names.idx {ns : List Int} (N : Names ns) {i : Nat} (hi : i < 4) : ns.idxOf (ns.getD i 0) = i := by
  have hl := N.len
  have e : ns.getD i 0 = ns[i]'(by omega) := by rw [List.getD_eq_getElem?_getD, List.getElem?_eq_getElem (by omega)]; rfl
  have nd : ns.Nodup := by
    refine List.pairwise_iff_getElem.mpr fun a b ha hb hab q => ?_
    have h := N.rise a b hab hb
    rw [List.getD_eq_getElem?_getD, List.getD_eq_getElem?_getD, List.getElem?_eq_getElem ha, List.getElem?_eq_getElem hb, q] at h
    simp at h
  rw [e]
  exact nd.idxOf_getElem i (by omega)
theorem Names.nat {ns : List Int} (N : Names ns) {i : Nat} (hi : i < 4) : (((ns.getD i 0).toNat : Nat) : Int) = ns.getD i 0 ∧ (ns.getD i 0).toNat < 200 ∧ ns.getD i 0 ∈ ns := by
  have hm : ns.getD i 0 ∈ ns := getD_mem (by have := N.len; omega)
  have h1 := N.lo _ hm
  have h2 := N.hi _ hm
  exact ⟨by omega, by omega, hm⟩
/-- _law_step for a step's text -/
theorem step_spec' {prog : Program} {w : World} {p loose mean mg mb} {s : Shared} {a b : Addr} {vs : List Value} {ns : List Int} {tx : Tok} {i d j : Nat} {M : Mt} {Q E : Value → Shared → Prop}
    (X : (hd.heap_1 w.params).In s.heap) (T : Top p loose mean mg mb s.heap) (hl : IntL s.heap b vs ns) (N : Names ns) (hi : i < 4) (hd : d < 7) (hj : j < 4) (hM : MatAt s.heap (.ref a) M)
    (ret : ∀ r h' tk', Kp s.heap h' → MatAt h' (.ref r) (stepE M i j ((d : Int) - 3)) → Q (.ref r) { s with heap := h', toks := tk' }) :
    wpAny (model prog w) (AX 700 5000) (call (.ref 163) [.ref a, .str (stText ns i d j) tx, .ref b]) Q E s := by
  obtain ⟨i1, i2, i3⟩ := N.nat hi
  obtain ⟨j1, j2, j3⟩ := N.nat hj
  refine step_spec (x := (ns.getD i 0).toNat) (y := (ns.getD j 0).toNat) X T hl N.len i2 j2 hd (by rw [i1]; exact i3) (by rw [j1]; exact j3) hM fun r h' tk' k m => ?_
  rw [i1, j1, N.idx hi, N.idx hj] at m
  exact ret r h' tk' k m
/-- a sheet's tail: none, or a step -/
noncomputable def TailV (ns : List Int) : Option (Nat × Nat × Nat) → Value → Prop
  | none, v => v = .none
  | some x, v => (∃ t, v = .str (stText ns x.1 x.2.1 x.2.2) t) ∧ x.1 < 4 ∧ x.2.1 < 7 ∧ x.2.2 < 4 ∧ x.1 ≠ x.2.2
noncomputable def matT : Option (Nat × Nat × Nat) → Mt → Mt
  | none, M => M
  | some x, M => stepE M x.1 x.2.2 ((x.2.1 : Int) - 3)
noncomputable def TableC (prog : Program) (w : World) (p : Program) (loose : List Str) (mean : ExcName → Option Value) (mg mb : Str → Option Value) (ns : List Int) (nb : Addr) (nvs : List Value) (d n u : Nat) : Prop :=
  ∀ (s : Shared) (t ka : Addr) (lo : Nat) (vs : List Value) (tag text : Str) (times : Int) (vl : Value) (tl : Option (Nat × Nat × Nat)) (K : Kids) (Q E : Value → Shared → Prop), (hd.heap_1 w.params).In s.heap → Top p loose mean mg mb s.heap → IntL s.heap nb nvs ns →
    Th prog w s.heap t tag text times vl ka → ListAt s.heap ka vs → KidsAt prog w ns s.heap lo vs K → K.dep ≤ d → K.ok → (K.texts ns).length ≤ 20 → K.sz ≤ 300 → TailV ns tl vl →
    (∀ r h' tk', Kp s.heap h' → MatAt h' (.ref r) (matT tl (K.mat idM)) → Q (.ref r) { s with heap := h', toks := tk' }) → wpAny (model prog w) (AX n u) (call (.ref 168) [.ref t, .ref nb]) Q E s
theorem table_placeholder : True := trivial
theorem table_step {prog : Program} {w : World} {p : Program} {loose : List Str} {mean : ExcName → Option Value} {mg mb : Str → Option Value} {ns : List Int} {nb : Addr} {nvs : List Value} {d n u : Nat} (N : Names ns) (hn : n ≤ 600) (hu : u ≤ 4000)
    (IH : ∀ d', d' < d → TableC prog w p loose mean mg mb ns nb nvs d' (n + 10) (u + 20)) : TableC prog w p loose mean mg mb ns nb nvs d n u := by
  intro s t ka lo vs tag text times vl tl K Q E X T hNm hTh hl hK hd hok htz hsz hvl ret
  have bR : Bi s.heap "range" (.type "range") := Bi.of X T (by k_is) boot_range (by decide)
  have g1 : Gl s.heap "_law_step" (.ref 163) := Gl.of X T (by k_is)
  have g2 : Gl s.heap "_law_times" (.ref 158) := Gl.of X T (by k_is)
  have g3 : Gl s.heap "_law_table" (.ref 168) := Gl.of X T (by k_is)
  refine gg fun P hP => ?_
  obtain ⟨g, da, tx, tn, sS, kg, ng, dA⟩ := hTh
  obtain ⟨mm, fa, fi, hF, m1, m2, m3, m4, m5, m6, m7, hAp, hIt, hfa, hfi⟩ := sS.m
  refine hP ?_
  clear hP
  refine' enter X (Top.nolimit T) ?k6 ?k7 ?k8 ?k9 ?kB ?_ ?c2 ?c3 ?c4 ?c5
  (case k6 => k_is)
  (case k7 => k_is)
  (case k8 => show n < 1000; omega)
  (case k9 => exact BindsTo.of_eq rfl)
  (case c5 => decide)
  (case kB => exact locs rfl)
  (case c2 => exact rfl)
  (case c3 => exact rfl)
  (case c4 => exact rfl)
  intro L h₁ tk₁ hL F₁ N₁
  have k₁ := F₁.keep
  have n1 := F₁.ns
  have lL : s.heap.objs.size ≤ L := Nat.le_of_eq hL.symm
  have nL : s.heap.get? L = none := fresh_none lL
  -- the table of ones
  refine wpAny_execs_cons (assign_comp_cell (s := { s with heap := h₁, toks := tk₁ }) (n := 4) (h₀ := s.heap) (m₀ := _) (G := fun i v g => RowAt g v (idM i)) rfl rfl rfl n1 nL rfl (by decide) (by decide) (by decide) k₁ rfl rfl (by decide) rfl (fun _ => rfl) (fun _ => rfl) ?_ ?_ ?_)
  · exact Ev_rangeC (bR.keeps k₁) rfl rfl rfl rfl
  · intro i C c m h₂ t₂ tk hi hC hc F₂ N₂
    have k₂ : Kp s.heap h₂ := fun b o e => F₂.keep b o (k₁ b o e)
    have cr := (N₂ _ (.head _)).1
    refine comp_local (s := { s with heap := h₂, toks := tk }) (n := 4) (h₀ := s.heap) (G := fun j v g => ∃ t, v = .int (idM i j) t) rfl (by decide) (by decide) (by decide) k₂ rfl rfl (by decide) rfl (fun _ => rfl) (fun _ => rfl) ?_ ?_ ?_
    · exact Ev_rangeC (bR.keeps k₂) rfl rfl rfl rfl
    · intro j C₄ m₄ h₄ t₄ tk₄ hj hC₄ F₄ hm₄
      refine (Ev.ifeq (h := h₄) (a := (i : Int)) (b := (j : Int)) (P := fun v => ∃ t, v = .int (idM i j) t) ?_ ?_ (fun q => ?_) (fun q => ?_)) _ _ _ rfl fun v tk ⟨t, e⟩ => ⟨_, _, rfl, fun _ _ e => e, fun _ _ => ⟨t, e⟩⟩
      · exact (Ev.cell (F₄.keep _ _ cr) rfl rfl rfl rfl).mono fun v e => ⟨_, e⟩
      · exact (Ev.local F₄.ns hm₄ rfl rfl).mono fun v e => ⟨_, e⟩
      · have : i = j := by omega
        rw [show idM i j = 1 by unfold idM; rw [if_pos this]]
        exact Ev.int
      · have : i ≠ j := by omega
        rw [show idM i j = 0 by unfold idM; rw [if_neg this]]
        exact Ev.int
    · intro D h' tk ys k hD e hl hg
      exact ⟨_, _, rfl, k, row_made hD e hl hg⟩
  intro D h₂ tk₂ ys k₂ n2 lD eD hyl hg
  have kk₂ : Kp s.heap h₂ := fun b o e => k₂ b o (Nat.ne_of_lt (Nat.lt_of_lt_of_le (Heap.lt_size e) lL)) (k₁ b o e)
  have hM₂ : MatAt h₂ (.ref D) idM := mat_made lD eD hyl hg _ Sup.refl
  dsimp only
  have e1 : (fun z => if z = ("table" : Str) then some (Value.ref D) else _) "thing" = some (.ref t) := rfl
  have sz2 : s.heap.objs.size ≤ h₂.objs.size := Nat.le_of_lt (Nat.lt_of_le_of_lt lL n2.lt)
  obtain ⟨J, hJ⟩ : ∃ J : Nat → (Str → Option Value) → Heap → Prop, ∀ i m h, J i m h ↔ (Kp s.heap h ∧ m "thing" = some (.ref t) ∧ m "names" = some (.ref nb) ∧ ∃ D M, m "table" = some (.ref D) ∧ MatAt h (.ref D) M ∧ EqM M (Kids.matL (K.items.take i) idM) ∧ (∀ h', (∀ b o, h₂.objs.size ≠ b → b ≠ L → h.get? b = some o → h'.get? b = some o) → MatAt h' (.ref D) M)) := ⟨_, fun _ _ _ => Iff.rfl⟩
  refine wpAny_execs_cons (for_list (s := { s with heap := h₂, toks := tk₂ }) (l := ka) (xs := vs) J
    rfl rfl rfl (Ev.attr (Ev.local n2 rfl rfl rfl) (hF.keeps fun b o e => kk₂ b o (kg b o e)) m4 True.intro tl_kids) ?_ n2 ?_ ?_ ?_ ?_ ?_)
  · have := K.items_sz
    rw [hK.length]
    omega
  · intro i m h qq0
    exact hl.keeps ((hJ _ _ _).mp qq0).1
  · intro i m h h' qq0 kk
    refine gg fun P hP => ?_
    obtain ⟨k, a1, a2, D', M, a3, a4, a5, a6⟩ := (hJ _ _ _).mp qq0
    refine hP ?_
    clear hP
    exact (hJ _ _ _).mpr ⟨fun b o e => kk b o (Nat.ne_of_gt (Nat.lt_of_lt_of_le (Heap.lt_size e) sz2)) (Nat.ne_of_lt (Nat.lt_of_lt_of_le (Heap.lt_size e) lL)) (k b o e), a1, a2, D', M, a3, a6 h' kk, a5, fun h'' kk' => a6 h'' fun b o b1 b2 e => kk' b o b1 b2 (kk b o b1 b2 e)⟩
  · exact (hJ _ _ _).mpr ⟨kk₂, rfl, rfl, D, idM, rfl, hM₂, fun _ _ _ _ => rfl, fun h' kk => hM₂.but (fun o e => by rw [fresh_none (Nat.le_refl _)] at e; cases e) (fun o e => by
      refine gg fun P hP => ?_
      obtain ⟨o', es, n, e', d, _⟩ := n2
      refine hP ?_
      clear hP
      rw [show h₂.get? L = some o' from e'] at e; cases e; exact ⟨es, n, d⟩) kk⟩
  · intro i v m h tk it hv qq0 hn hit qq1
    refine gg fun P hP => ?_
    obtain ⟨k, a1, a2, D', M, a3, a4, a5, a6⟩ := (hJ _ _ _).mp qq0
    obtain ⟨itv, hitd⟩ := qq1
    obtain ⟨item, hi1, hi2⟩ := (hK.keeps k).get hv
    refine hP ?_
    clear hP
    have hmem : item ∈ K.items := List.mem_of_getElem? hi1
    have tk1 : K.items.take (i + 1) = K.items.take i ++ [item] := by rw [List.take_add_one, hi1]; rfl
    have fin : ∀ (h' : Heap) (m' : Str → Option Value) (r : Addr) (M' : Mt), Kp h h' → h'.get? h₂.objs.size = some it → h'.Ns L m' → MatAt h' (.ref r) M' → (∀ b o, h'.get? b = some o → True) →
        (∀ h'', (∀ b o, h₂.objs.size ≠ b → b ≠ L → h'.get? b = some o → h''.get? b = some o) → MatAt h'' (.ref r) M') := fun h' m' r M' _ e n' x _ h'' kk => x.but (fun o e' => by rw [e] at e'; cases e'; exact ⟨_, hitd⟩) (fun o e' => by
      refine gg fun P hP => ?_
      obtain ⟨o', es, q, e'', d, _⟩ := n'
      refine hP ?_
      clear hP
      rw [show h'.get? L = some o' from e''] at e'; cases e'; exact ⟨es, q, d⟩) kk
    have lt_IL : @Ne Nat h₂.objs.size L := Nat.ne_of_gt (show L < h₂.objs.size from n2.lt)
    cases item with
    | inl x =>
      refine gg fun P hP => ?_
      obtain ⟨tt, kka, rfl, _, ⟨g', da', tx', tn', sS', kg', ng', dA'⟩, la'⟩ := hi2
      obtain ⟨mm', fa', fi', hF', ⟨tt', q1⟩, q2, q3, q4, q5, q6, q7, _, _, hfa', hfi'⟩ := sS'.m
      obtain ⟨x1, x2, x3, x4⟩ := Kids.ok_step hok hmem
      refine hP ?_
      clear hP
      have eT : (fun y => if y = ("kid" : Str) then some (Value.ref tt) else m y) "table" = some (.ref D') := by show (if _ then _ else m "table") = _; rw [if_neg (by decide)]; exact a3
      have eN : (fun y => if y = ("kid" : Str) then some (Value.ref tt) else m y) "names" = some (.ref nb) := by show (if _ then _ else m "names") = _; rw [if_neg (by decide)]; exact a2
      have eH : (fun y => if y = ("kid" : Str) then some (Value.ref tt) else m y) "thing" = some (.ref t) := by show (if _ then _ else m "thing") = _; rw [if_neg (by decide)]; exact a1
      generalize hmk : (fun y => if y = ("kid" : Str) then some (Value.ref tt) else m y) = mk at hn eT eN eH
      have eV : mk "kid" = some (.ref tt) := by rw [← hmk]; rfl
      refine wpAny_execs_cons (wpAny_If (test_eqstr (s := { s with heap := h, toks := tk }) (Ev.attr (Ev.local hn eV rfl rfl) (hF'.keeps kg') q1 True.intro tl_tag) fun tk₃ => ?_))
      rw [show ((Str.ofString "step").cps.toList == (Str.ofString "step").cps.toList) = true by decide +kernel]
      simp only [if_true]
      refine wpAny_execs_cons (wpAny_Assign_Name (call3 (s := { s with heap := h, toks := tk₃ }) (u1 := .ref D') (u2 := .str (stText ns x.1 x.2.1 x.2.2) tx') (u3 := .ref nb) (Ev.global (g1.keeps k) rfl rfl rfl) (Ev.local hn eT rfl rfl) (Ev.dsub (Ev.attr (Ev.local hn eV rfl rfl) (hF'.keeps kg') q3 True.intro tl_attrib) dA' rfl) (Ev.local hn eN rfl rfl) (fnO (X.keeps k) (fn163 _)) fun tk₄ => ?_))
      refine wpAny_weaken (n := 700) (u := 5000) ?_ rfl (show n + 1 ≤ 700 by omega) rfl (show u + 3 ≤ 5000 by omega)
      refine step_spec' (s := { s with heap := h, toks := tk₄ }) (X.keeps k) (T.keeps k) (hNm.keeps k) N x1 x2 x3 a4 fun r h₅ tk₅ k₅ m₅ => ?_
      refine wpAny_storeName_local rfl (hn.keeps k₅) (fun h₆ n6 s6 => ?_) rfl
      have it5 : h₅.get? h₂.objs.size = some it := k₅ _ _ hit
      have m₆ : MatAt h₆ (.ref r) (stepE M x.1 x.2.2 ((x.2.1 : Int) - 3)) := (fin h₅ _ r _ k₅ it5 (hn.keeps k₅) m₅ (fun _ _ _ => trivial)) h₆ fun b o b1 b2 e => s6.extBut b o b2 e
      have it6 : h₆.get? h₂.objs.size = some it := s6.extBut _ _ lt_IL it5
      refine wpAny_execs_nil ?_
      refine wpAny_execs_nil ⟨rfl, h₆, _, _, rfl, it6, n6, (hJ _ _ _).mpr ⟨fun b o e => s6.extBut b o (Nat.ne_of_lt (Nat.lt_of_lt_of_le (Heap.lt_size e) lL)) (k₅ b o (k b o e)), ?_, ?_, r, _, by simp, m₆, ?_, ?_⟩⟩
      · show (if _ then _ else mk "thing") = _
        rw [if_neg (by decide)]; exact eH
      · show (if _ then _ else mk "names") = _
        rw [if_neg (by decide)]; exact eN
      · rw [tk1, Kids.matL_snoc]
        exact stepE_congr x3 a5
      · exact fun h'' kk => m₆.but (fun o e' => by rw [it6] at e'; cases e'; exact ⟨_, hitd⟩) (fun o e' => by
          refine gg fun P hP => ?_
          obtain ⟨o', es, q, e'', d, _⟩ := n6
          refine hP ?_
          clear hP
          rw [show h₆.get? L = some o' from e''] at e'; cases e'; exact ⟨es, q, d⟩) kk
    | inr a =>
      refine gg fun P hP => ?_
      obtain ⟨tt, kka, ws, rfl, _, hTh', la', qa⟩ := hi2
      refine hP ?_
      clear hP
      have hTh'' := hTh'
      refine gg fun P hP => ?_
      obtain ⟨g', da', tx', tn', sS', kg', ng', dA'⟩ := hTh'
      obtain ⟨mm', fa', fi', hF', ⟨tt', q1⟩, q2, q3, q4, q5, q6, q7, _, _, hfa', hfi'⟩ := sS'.m
      refine hP ?_
      clear hP
      have oka := Kids.ok_inner hok hmem
      have dep := Kids.dep_inner hmem
      have txl := Kids.texts_inner ns hmem
      have szl := Kids.sz_inner hmem
      have eT : (fun y => if y = ("kid" : Str) then some (Value.ref tt) else m y) "table" = some (.ref D') := by show (if _ then _ else m "table") = _; rw [if_neg (by decide)]; exact a3
      have eN : (fun y => if y = ("kid" : Str) then some (Value.ref tt) else m y) "names" = some (.ref nb) := by show (if _ then _ else m "names") = _; rw [if_neg (by decide)]; exact a2
      have eH : (fun y => if y = ("kid" : Str) then some (Value.ref tt) else m y) "thing" = some (.ref t) := by show (if _ then _ else m "thing") = _; rw [if_neg (by decide)]; exact a1
      generalize hmk : (fun y => if y = ("kid" : Str) then some (Value.ref tt) else m y) = mk at hn eT eN eH
      have eV : mk "kid" = some (.ref tt) := by rw [← hmk]; rfl
      refine wpAny_execs_cons (wpAny_If (test_eqstr (s := { s with heap := h, toks := tk }) (Ev.attr (Ev.local hn eV rfl rfl) (hF'.keeps kg') q1 True.intro tl_tag) fun tk₃ => ?_))
      rw [show ((Str.ofString "loop").cps.toList == (Str.ofString "step").cps.toList) = false by decide +kernel]
      simp only [Bool.false_eq_true, if_false]
      refine wpAny_execs_cons (wpAny_Assign_Name (call2 (s := { s with heap := h, toks := tk₃ }) (P2 := fun v => v = .ref nb) (u1 := .ref tt) (Ev.global (g3.keeps k) rfl rfl rfl) (Ev.local hn eV rfl rfl) (Ev.local hn eN rfl rfl) (fnO (X.keeps k) (fn168 _)) fun u2 tk₄ e => ?_))
      subst e
      refine wpAny_weaken (n := n + 10) (u := u + 20) ?_ rfl (show n + 1 ≤ n + 10 by omega) rfl (show u + 3 ≤ u + 20 by omega)
      refine IH a.dep (by omega) { s with heap := h, toks := tk₄ } tt kka lo ws _ _ _ _ none a _ _ (X.keeps k) (T.keeps k) (hNm.keeps k) hTh'' la' qa (Nat.le_refl _) oka (by omega) (by omega) rfl fun r h₅ tk₅ k₅ m₅ => ?_
      replace m₅ : MatAt h₅ (.ref r) (a.mat idM) := m₅
      have ks5 : Kp s.heap h₅ := fun b o e => k₅ b o (k b o e)
      refine wpAny_storeName_local rfl (hn.keeps k₅) (fun h₆ n6 s6 => ?_) rfl
      have it5 : h₅.get? h₂.objs.size = some it := k₅ _ _ hit
      have it6 : h₆.get? h₂.objs.size = some it := s6.extBut _ _ lt_IL it5
      have m₆ : MatAt h₆ (.ref r) (a.mat idM) := (fin h₅ _ r _ k₅ it5 (hn.keeps k₅) m₅ (fun _ _ _ => trivial)) h₆ fun b o b1 b2 e => s6.extBut b o b2 e
      have t₆ : MatAt h₆ (.ref D') M := (fin h₅ _ D' _ k₅ it5 (hn.keeps k₅) (a4.keeps k₅) (fun _ _ _ => trivial)) h₆ fun b o b1 b2 e => s6.extBut b o b2 e
      have ks6 : Kp s.heap h₆ := fun b o e => s6.extBut b o (Nat.ne_of_lt (Nat.lt_of_lt_of_le (Heap.lt_size e) lL)) (ks5 b o e)
      have bd1 : BdM (4 ^ (a.texts ns).length) (a.mat idM) := by
        have := Kids.mat_bd ns (K := a) (M := idM) (B := 1) oka (fun i j _ _ => by unfold idM; split <;> simp)
        simpa using this
      have small : ∀ i k, i < 4 → k < 4 → Builtin.Int.intBits (a.mat idM i k) ≤ 64 := fun i k hi hk => bits_small (Nat.lt_of_le_of_lt (bd1 i k hi hk) (by
        have : 4 ^ (a.texts ns).length ≤ 4 ^ 20 := Nat.pow_le_pow_right (by decide) (by omega)
        exact Nat.lt_of_le_of_lt this (by decide)))
      dsimp only
      refine wpAny_execs_cons (wpAny_Assign_Name (call2m (s := { s with heap := h₆, toks := _ }) (u1 := .ref r) (Ev.global (g2.keeps ks6) rfl rfl rfl) (Ev.local n6 (by show (if _ then _ else _) = _; rw [if_pos rfl]) rfl rfl) (fnO (X.keeps ks6) (fn158 _)) fun tk₆ => ?_))
      refine call2 (s := { s with heap := h₆, toks := tk₆ }) (P2 := fun v => v = .ref D') (u1 := .ref r) (Ev.global (g2.keeps ks6) rfl rfl rfl) (Ev.local n6 (by show (if _ then _ else _) = _; rw [if_pos rfl]) rfl rfl) (Ev.local n6 (by show (if _ then _ else mk "table") = _; rw [if_neg (by decide)]; exact eT) rfl rfl) (fnO (X.keeps ks6) (fn158 _)) fun u2 tk₇ e => ?_
      subst e
      refine wpAny_weaken (n := 700) (u := 5000) ?_ rfl (show n + 1 ≤ 700 by omega) rfl (show u + 3 ≤ 5000 by omega)
      refine times_spec (s := { s with heap := h₆, toks := tk₇ }) (X.keeps ks6) (T.keeps ks6) m₆ t₆ (fun i k j hi hk _ => IntMulOk.of_left (small i k hi hk)) fun r₂ h₇ tk₈ k₇ m₇ => ?_
      have ks7 : Kp s.heap h₇ := fun b o e => k₇ b o (ks6 b o e)
      refine ⟨k₇, ?_⟩
      refine wpAny_weaken (n := 700) (u := 5000) ?_ rfl (show n + 1 ≤ 700 by omega) rfl (show u + 3 ≤ 5000 by omega)
      refine times_spec (s := { s with heap := h₇, toks := tk₈ }) (X.keeps ks7) (T.keeps ks7) (m₆.keeps k₇) m₇ (fun i k j hi hk _ => IntMulOk.of_left (small i k hi hk)) fun r₃ h₈ tk₉ k₈ m₈ => ?_
      have ks8 : Kp s.heap h₈ := fun b o e => k₈ b o (ks7 b o e)
      have k68 : Kp h₆ h₈ := fun b o e => k₈ b o (k₇ b o e)
      refine wpAny_storeName_local rfl (n6.keeps k68) (fun h₉ n9 s9 => ?_) rfl
      have it8 : h₈.get? h₂.objs.size = some it := k68 _ _ it6
      have it9 : h₉.get? h₂.objs.size = some it := s9.extBut _ _ lt_IL it8
      have m₉ : MatAt h₉ (.ref r₃) (mulM (a.mat idM) (mulM (a.mat idM) M)) := m₈.but (I := h₂.objs.size) (L := L) (fun o e' => by rw [it8] at e'; cases e'; exact ⟨_, hitd⟩) (fun o e' => by
          refine gg fun P hP => ?_
          obtain ⟨o', es, q, e'', d, _⟩ := n6.keeps k68
          refine hP ?_
          clear hP
          rw [show h₈.get? L = some o' from e''] at e'; cases e'; exact ⟨es, q, d⟩) fun b o b1 b2 e => s9.extBut b o b2 e
      refine wpAny_execs_nil ?_
      refine wpAny_execs_nil ⟨rfl, h₉, _, _, rfl, it9, n9, (hJ _ _ _).mpr ⟨fun b o e => s9.extBut b o (Nat.ne_of_lt (Nat.lt_of_lt_of_le (Heap.lt_size e) lL)) (ks8 b o e), ?_, ?_, r₃, _, by simp, m₉, ?_, ?_⟩⟩
      · show (if _ then _ else if _ then _ else mk "thing") = _
        rw [if_neg (by decide), if_neg (by decide)]; exact eH
      · show (if _ then _ else if _ then _ else mk "names") = _
        rw [if_neg (by decide), if_neg (by decide)]; exact eN
      · rw [tk1, Kids.matL_snoc]
        exact (Kids.mul_mat_id oka).trans (Kids.mat_congr oka ((Kids.mul_mat_id oka).trans (Kids.mat_congr oka a5)))
      · exact fun h'' kk => m₉.but (fun o e' => by rw [it9] at e'; cases e'; exact ⟨_, hitd⟩) (fun o e' => by
          refine gg fun P hP => ?_
          obtain ⟨o', es, q, e'', d, _⟩ := n9
          refine hP ?_
          clear hP
          rw [show h₉.get? L = some o' from e''] at e'; cases e'; exact ⟨es, q, d⟩) kk
  · intro m h tk qq0 hn
    refine gg fun P hP => ?_
    obtain ⟨k, a1, a2, D', M, a3, a4, a5, a6⟩ := (hJ _ _ _).mp qq0
    refine hP ?_
    clear hP
    rw [hK.length, List.take_length, ← Kids.mat_items] at a5
    have plainT : PlainV vl := by
      cases tl with
      | none => rw [show vl = .none from hvl]; trivial
      | some x => obtain ⟨⟨t', rfl⟩, _⟩ := hvl; trivial
    dsimp only
    refine wpAny_execs_cons (wpAny_Return_some (wpAny_IfExp (wpAny_isTrue_value ((Ev.attr (Ev.local hn a1 rfl rfl) (hF.keeps fun b o e => k b o (kg b o e)) m2 plainT tl_tail) { s with heap := h, toks := tk } _ _ rfl fun u tk₃ e => ?_))))
    subst u
    cases tl with
    | none =>
      obtain rfl : vl = .none := hvl
      refine wpAny_of_eq (a := false) rfl ?_
      simp only [Bool.false_eq_true, if_false]
      refine Ev.go (s := s) (Ev.local (h := h) hn a3 rfl rfl) fun tk₄ => ?_
      exact ret D' h tk₄ k (a4.congr a5)
    | some x =>
      refine gg fun P hP => ?_
      obtain ⟨⟨t', rfl⟩, o1, o2, o3, o4⟩ := hvl
      refine hP ?_
      clear hP
      refine PySem.P.truthy_str (by show ¬ ((3 : Nat) : Int) ≥ _; omega) ?_
      rw [show (((stText ns x.1 x.2.1 x.2.2).length : Int) != 0) = true from rfl]
      simp only [if_true]
      refine call3 (s := { s with heap := h, toks := tk₃ + 1 + 1 }) (u1 := .ref D') (u2 := .str (stText ns x.1 x.2.1 x.2.2) t') (u3 := .ref nb) (Ev.global (g1.keeps k) rfl rfl rfl) (Ev.local hn a3 rfl rfl) (Ev.attr (Ev.local hn a1 rfl rfl) (hF.keeps fun b o e => k b o (kg b o e)) m2 True.intro tl_tail) (Ev.local hn a2 rfl rfl) (fnO (X.keeps k) (fn163 _)) fun tk₄ => ?_
      refine wpAny_weaken (n := 700) (u := 5000) ?_ rfl (show n + 1 ≤ 700 by omega) rfl (show u + 3 ≤ 5000 by omega)
      refine step_spec' (s := { s with heap := h, toks := tk₄ }) (X.keeps k) (T.keeps k) (hNm.keeps k) N o1 o2 o3 a4 fun r h₅ tk₅ k₅ m₅ => ?_
      exact ret r h₅ tk₅ (fun b o e => k₅ b o (k b o e)) (m₅.congr (stepE_congr o3 a5))
theorem table_all {prog : Program} {w : World} {p : Program} {loose : List Str} {mean : ExcName → Option Value} {mg mb : Str → Option Value} {ns : List Int} {nb : Addr} {nvs : List Value} (N : Names ns) :
    ∀ d n u, n + 10 * d ≤ 600 → u + 20 * d ≤ 4000 → TableC prog w p loose mean mg mb ns nb nvs d n u := by
  intro d
  induction d using Nat.strongRecOn with
  | _ d IH => exact fun n u h1 h2 => table_step N (Nat.le_trans (Nat.le_add_right _ _) h1) (Nat.le_trans (Nat.le_add_right _ _) h2) fun d' hd' => IH d' hd' _ _ (step_room h1 hd') (step_room h2 hd')
example : True := by k_with_none; trivial
example : True := by
  k_with "mine enter0" => (
      refine' enter ?kX ?kT ?k6 ?k7 ?k8 ?k9 ?kB ?_ ?c2 ?c3 ?c4 ?c5
      (case kX => assumption)
      (case kT => exact Top.nolimit (by assumption))
      (case k6 => k_is)
      (case k7 => k_is)
      (case k8 => decide)
      (case k9 => first | exact BindsTo.of_eq rfl | exact kp_binds (by assumption) (fun _ => rfl))
      (case c5 => decide)
      (case kB => exact locs rfl)
      (case c2 => exact rfl)
      (case c3 => exact rfl)
      (case c4 => exact rfl))
  k_with "mine enterC0" => (
      refine' enterC ?kX ?kT ?k6 ?k7 ?k8 ?k9 ?kB ?kD ?_ ?c2 ?c3 ?c4
      (case kX => assumption)
      (case kT => exact Top.nolimit (by assumption))
      (case k6 => k_is)
      (case k7 => k_is)
      (case k8 => decide)
      (case k9 => first | exact BindsTo.of_eq rfl | exact kp_binds (by assumption) (fun _ => rfl))
      (case kB => exact rfl)
      (case kD => decide +kernel)
      (case c2 => exact rfl)
      (case c3 => exact rfl)
      (case c4 => exact rfl))
  k_with "mine enterH" => (
      (case k6 => k_is)
      (case k7 => k_is)
      (case k8 => decide)
      (case k9 => first | exact fun _ => BindsTo.of_eq rfl | exact fun X' => kp_binds X' (fun _ => rfl))
      (case kB => exact rfl)
      (case kD => decide +kernel)
      (case c2 => exact rfl)
      (case c3 => exact rfl)
      (case c4 => exact rfl))
  k_with "mine tl" => (with_reducible first | exact tl_tag | exact tl_tail | exact tl_attrib | exact tl_kids | exact tl_append | exact tl_makeelement | exact tl_itertext)
  k_with "mine fnset0" => (
      refine' fnset0 ?F ?N ?U ?hc ?hdc ?hB ?_
      (case F => k_asm)
      (case N => k_asm)
      (case U => k_updF)
      (case hc => rfl)
      (case hdc => intro c q; cases q)
      (case hB => walk_at "mine tl"))
  k_with "mine fnset1" => (
      refine' fnset1 ?F ?N ?hf ?U ?hD ?hc ?hdf ?hdc ?hB ?hw ?hsz ?_
      (case F => k_asm)
      (case N => k_asm)
      (case hf => k_mem)
      (case U => k_updF)
      (case hD => with_reducible assumption)
      (case hc => rfl)
      (case hdf => first | k_ne | omega)
      (case hdc => intro c q; cases q)
      (case hB => walk_at "mine tl")
      (case hw => within_ways)
      (case hsz => decide))
  k_with "mine ne" => (with_reducible first
      | exact Nat.ne_of_lt (by assumption)
      | exact Nat.ne_of_lt (And.left (by assumption))
      | exact Nat.ne_of_lt (And.left (And.right (by assumption)))
      | exact Nat.ne_of_lt (And.right (by assumption))
      | exact Nat.ne_of_lt (And.left (And.right (And.right (by assumption))))
      | exact Nat.ne_of_lt (And.right (And.right (by assumption)))
      | exact Nat.ne_of_lt (And.left (And.right (And.right (And.right (by assumption)))))
      | exact Nat.ne_of_lt (And.right (And.right (And.right (by assumption))))
      | exact Nat.ne_of_lt (And.left (And.right (And.right (And.right (And.right (by assumption))))))
      | exact Nat.ne_of_lt (And.right (And.right (And.right (And.right (by assumption)))))
      | exact Nat.ne_of_lt (And.left (And.right (And.right (And.right (And.right (And.right (by assumption)))))))
      | exact Nat.ne_of_lt (And.right (And.right (And.right (And.right (And.right (by assumption))))))
      | exact Nat.ne_of_lt (And.left (And.right (And.right (And.right (And.right (And.right (And.right (by assumption))))))))
      | exact Nat.ne_of_lt (And.right (And.right (And.right (And.right (And.right (And.right (by assumption)))))))
      | exact Nat.ne_of_lt (And.left (And.right (And.right (And.right (And.right (And.right (And.right (And.right (by assumption)))))))))
      | exact Nat.ne_of_lt (And.right (And.right (And.right (And.right (And.right (And.right (And.right (by assumption))))))))
      | exact Nat.ne_of_lt (And.left (And.right (And.right (And.right (And.right (And.right (And.right (And.right (And.right (by assumption))))))))))
      | exact Nat.ne_of_lt (And.right (And.right (And.right (And.right (And.right (And.right (And.right (And.right (by assumption)))))))))
      | exact Nat.ne_of_lt (And.left (And.right (And.right (And.right (And.right (And.right (And.right (And.right (And.right (And.right (by assumption)))))))))))
      | exact Nat.ne_of_lt (And.right (And.right (And.right (And.right (And.right (And.right (And.right (And.right (And.right (by assumption))))))))))
      | exact Nat.ne_of_gt (by assumption)
      | exact Nat.ne_of_gt (And.left (by assumption))
      | exact Nat.ne_of_gt (And.left (And.right (by assumption)))
      | exact Nat.ne_of_gt (And.right (by assumption))
      | exact Nat.ne_of_gt (And.left (And.right (And.right (by assumption))))
      | exact Nat.ne_of_gt (And.right (And.right (by assumption)))
      | exact Nat.ne_of_gt (And.left (And.right (And.right (And.right (by assumption)))))
      | exact Nat.ne_of_gt (And.right (And.right (And.right (by assumption))))
      | exact Nat.ne_of_gt (And.left (And.right (And.right (And.right (And.right (by assumption))))))
      | exact Nat.ne_of_gt (And.right (And.right (And.right (And.right (by assumption)))))
      | exact Nat.ne_of_gt (And.left (And.right (And.right (And.right (And.right (And.right (by assumption)))))))
      | exact Nat.ne_of_gt (And.right (And.right (And.right (And.right (And.right (by assumption))))))
      | exact Nat.ne_of_gt (And.left (And.right (And.right (And.right (And.right (And.right (And.right (by assumption))))))))
      | exact Nat.ne_of_gt (And.right (And.right (And.right (And.right (And.right (And.right (by assumption)))))))
      | exact Nat.ne_of_gt (And.left (And.right (And.right (And.right (And.right (And.right (And.right (And.right (by assumption)))))))))
      | exact Nat.ne_of_gt (And.right (And.right (And.right (And.right (And.right (And.right (And.right (by assumption))))))))
      | exact Nat.ne_of_gt (And.left (And.right (And.right (And.right (And.right (And.right (And.right (And.right (And.right (by assumption))))))))))
      | exact Nat.ne_of_gt (And.right (And.right (And.right (And.right (And.right (And.right (And.right (And.right (by assumption)))))))))
      | exact Nat.ne_of_gt (And.left (And.right (And.right (And.right (And.right (And.right (And.right (And.right (And.right (And.right (by assumption)))))))))))
      | exact Nat.ne_of_gt (And.right (And.right (And.right (And.right (And.right (And.right (And.right (And.right (And.right (by assumption)))))))))))
  trivial
theorem bl_idx {ns : List Int} (N : Names ns) {i r : Nat} {x : Int} (hi : i < 4) (hx : x = ns.getD i 0) (hr : r ≤ ns.length) (h1 : ∀ k : Nat, k < r → ns.getD k 0 < x) (h2 : ∀ k : Nat, r ≤ k → k < ns.length → x ≤ ns.getD k 0) : r = i := by
  have hl := N.len
  rcases Nat.lt_trichotomy r i with q | q | q
  · have := h2 r (Nat.le_refl _) (by omega)
    have := N.rise r i q (by omega)
    omega
  · exact q
  · have := h1 i q
    omega
theorem br_idx {ns : List Int} (N : Names ns) {i r : Nat} {x : Int} (hi : i < 4) (hx : x = ns.getD i 0) (hr : r ≤ ns.length) (h1 : ∀ k : Nat, k < r → ns.getD k 0 ≤ x) (h2 : ∀ k : Nat, r ≤ k → k < ns.length → x < ns.getD k 0) : r = i + 1 := by
  have hl := N.len
  rcases Nat.lt_trichotomy r (i + 1) with q | q | q
  · have := h2 i (by omega) (by omega)
    omega
  · exact q
  · have := h1 (i + 1) q
    have := N.rise i (i + 1) (by omega) (by omega)
    omega
theorem br_idx' {ns : List Int} (N : Names ns) {i r : Nat} {x : Int} (hi : i < 4) (hx : x = ns.getD i 0 - 1) (hr : r ≤ ns.length) (h1 : ∀ k : Nat, k < r → ns.getD k 0 ≤ x) (h2 : ∀ k : Nat, r ≤ k → k < ns.length → x < ns.getD k 0) : r = i := by
  have hl := N.len
  rcases Nat.lt_trichotomy r i with q | q | q
  · have := h2 r (Nat.le_refl _) (by omega)
    have := N.rise r i q (by omega)
    omega
  · exact q
  · have := h1 i q
    omega
theorem bl_idx' {ns : List Int} (N : Names ns) {i r : Nat} {x : Int} (hi : i < 4) (hx : x = ns.getD i 0 + 1) (hr : r ≤ ns.length) (h1 : ∀ k : Nat, k < r → ns.getD k 0 < x) (h2 : ∀ k : Nat, r ≤ k → k < ns.length → x ≤ ns.getD k 0) : r = i + 1 := by
  have hl := N.len
  rcases Nat.lt_trichotomy r (i + 1) with q | q | q
  · have := h2 i (by omega) (by omega)
    omega
  · exact q
  · have := h1 (i + 1) q
    have := N.rise i (i + 1) (by omega) (by omega)
    omega
/-- a step as it is read off the tape -/
abbrev Stp := Nat × Nat × Nat
noncomputable def StpOk (x : Stp) : Prop := x.1 < 4 ∧ x.2.1 < 7 ∧ x.2.2 < 4
noncomputable def tapeC (ns : List Int) (l : List Stp) : List Int := l.flatMap fun x => [ns.getD x.1 0, 48 + (x.2.1 : Int), ns.getD x.2.2 0]
theorem tapeC_length (ns : List Int) : ∀ l : List Stp, (tapeC ns l).length = 3 * l.length
  | [] => rfl
  | x :: l => by have := tapeC_length ns l; simp only [tapeC, List.flatMap_cons, List.length_append, List.length_cons, List.length_nil] at this ⊢; omega
theorem tapeC_get (ns : List Int) : ∀ (l : List Stp) (i : Nat) (x : Stp), l[i]? = some x → (tapeC ns l).getD (3 * i) 0 = ns.getD x.1 0 ∧ (tapeC ns l).getD (3 * i + 1) 0 = 48 + (x.2.1 : Int) ∧ (tapeC ns l).getD (3 * i + 2) 0 = ns.getD x.2.2 0
  | [], i, x, h => by simp at h
  | y :: l, 0, x, h => by
    cases h
    exact ⟨rfl, rfl, rfl⟩
  | y :: l, i + 1, x, h => by
    have := tapeC_get ns l i x (by simpa using h)
    have e : ∀ k, (tapeC ns (y :: l)).getD (3 * (i + 1) + k) 0 = (tapeC ns l).getD (3 * i + k) 0 := fun k => by
      rw [show 3 * (i + 1) + k = 3 * i + k + 3 by omega]
      rfl
    exact ⟨(e 0).trans this.1, (e 1).trans this.2.1, (e 2).trans this.2.2⟩
/-- one step laid on a row -/
noncomputable def rowStep (sg : Int) (v : List Int) (x : Stp) : List Int := v.set x.1 (v.getD x.1 0 + sg * ((x.2.1 : Int) - 3) * v.getD x.2.2 0)
theorem rowStep_len (sg : Int) : ∀ (l : List Stp) (v : List Int), (l.foldl (rowStep sg) v).length = v.length
  | [], _ => rfl
  | x :: l, v => by rw [List.foldl_cons, rowStep_len sg l]; simp [rowStep]
theorem run_end {h₀ h₃ h9 : Heap} {L I D : Addr} {oI : Obj} {own nw : List (Addr × Obj)} {m9 : Str → Option Value} {V : List Value} {U G : List Int} {c : Nat} {s₁ s₂ : Shared} {tk : Nat} {tp op nm : Value}
    (hi9 : IntsAre V U) (F9 : Fr h₀ L h9 m9) (N9 : News h₀ L h9 nw) (hm : (D, W.listOf V.toArray c) ∈ nw) (ht : (I, oI) ∈ nw) (hit : h₃.get? I = some oI) (a2 : ∀ p ∈ own, p.1 ∈ [I]) (a3 : ∀ p ∈ own, h₃.get? p.1 = some p.2) (hDI : @Ne Nat D I) (hG : G = U)
    (e1 : m9 "tape" = some tp) (e2 : m9 "opposite" = some op) (e3 : m9 "names" = some nm) (e4 : m9 "row" = some (.ref D)) (e5 : s₂ = { s₁ with heap := h9, toks := tk }) :
    LoopStepU h₀ L [I] own (fun m news => ∃ vals c, news = [(D, W.listOf (List.toArray vals) c)] ∧ IntsAre vals G ∧ m "tape" = some tp ∧ m "opposite" = some op ∧ m "names" = some nm ∧ m "row" = some (.ref D)) s₁ .next s₂ := by
  subst e5 hG
  refine LoopStepU.intro (news₂ := [(D, W.listOf (List.toArray V) c)]) F9 (fun p hp => ?_) (fun p hp => by rw [List.mem_singleton.mp hp]; simpa using hDI) ⟨V, c, rfl, hi9, e1, e2, e3, e4⟩
  rcases List.mem_append.mp hp with q | q
  · obtain ⟨pa, po⟩ := p
    have z1 : pa = I := List.mem_singleton.mp (a2 _ q)
    have z2 : h₃.get? pa = some po := a3 _ q
    rw [z1] at z2
    have z3 := Option.some.inj (z2.symm.trans hit)
    rw [z1, z3]
    exact N9 _ ht
  · rw [List.mem_singleton.mp q]
    exact N9 _ hm
theorem fits_nat {x : Nat} (h : x ≤ 10000) : Builtin.Range.rangeFitsLong (x : Int) = true := by
  unfold Builtin.Range.rangeFitsLong
  rw [Bool.and_eq_true, decide_eq_true_eq, decide_eq_true_eq]
  exact ⟨Int.le_trans (by decide) (Int.natCast_nonneg x), Int.lt_of_le_of_lt (Int.ofNat_le.mpr h) (by decide)⟩
theorem small_nat {b c n : Nat} (h1 : b ≤ 1000) (h2 : 1 ≤ c) (h3 : c ≤ 1000) (hr : Builtin.Range.rangeSize 0 (b : Int) (c : Int) = (n : Int)) (h4 : n ≤ 1000) : Builtin.Range.small 0 (b : Int) (c : Int) = true := by
  have e : (b : Int) + ((c : Int) - 1) = ((b + (c - 1) : Nat) : Int) := by rw [Int.natCast_add, Int.ofNat_sub h2]; rfl
  have t : ∀ {x : Nat}, x ≤ 1000 → x ≤ 10000 := fun q => Nat.le_trans q (by decide)
  unfold Builtin.Range.small
  rw [hr, if_pos (show (c : Int) > 0 from Int.ofNat_lt.mpr h2), e, show Builtin.Range.rangeFitsLong 0 = true by decide, fits_nat (t h1), fits_nat (t h3), fits_nat (t h4),
    fits_nat (Nat.le_trans (Nat.add_le_add h1 (Nat.le_trans (Nat.sub_le _ _) h3)) (by decide)), Bool.or_true]
  rfl
/-- what is wanted behind a step, under a name -/
theorem gq {α : Type} {M : Model} {A : Around} {t : Sem α} {Q : α → Shared → Prop} {E : Value → Shared → Prop} {s : Shared} (h : ∀ Q' : α → Shared → Prop, (∀ v s', Q v s' → Q' v s') → wpAny M A t Q' E s) : wpAny M A t Q E s := h Q fun _ _ x => x
theorem loopAtV_mk {prog : Program} {w : World} {A : Around} {h₀ : Heap} {env : Env} {x : Str} {body : List Stmt} {Q : Flow → Shared → Prop} {E : Value → Shared → Prop} {s₂ : Shared} (I : Addr) (fp wr : List Addr) (n : Nat) {P : Nat → Value → Prop} {St : Nat → Heap → Prop} {m : Str → Option Value} (news : List (Addr × Obj)) (J : Nat → (Str → Option Value) → List (Addr × Obj) → Prop)
    (W : Walks prog w A I fp wr n P St) (h1 : env.locals ∉ fp) (h2 : ∀ b ∈ wr, h₀.get? b = none) (h3 : ∀ p ∈ news, p.1 ∉ wr) (h4 : St 0 s₂.heap) (F : Fr h₀ env.locals s₂.heap m) (N : News h₀ env.locals s₂.heap news) (h0 : J 0 m news)
    (step : ∀ i v m₁ news₁ s₁ own, (∃ h tk, s₁ = { s₂ with heap := h, toks := tk }) → i < n → P i v → J i m₁ news₁ → (∀ p ∈ news₁, p.1 ∉ wr) → (∀ p ∈ own, p.1 ∈ fp) → (∀ p ∈ own, s₁.heap.get? p.1 = some p.2) → (∀ b ∈ fp, h₀.get? b = none → ∀ o, s₁.heap.get? b = some o → (b, o) ∈ own) → St (i + 1) s₁.heap →
      Fr h₀ env.locals s₁.heap (fun y => if y = x then some v else m₁ y) → News h₀ env.locals s₁.heap (own ++ news₁) →
      wpAny (model prog w) A (execs body env) (LoopStepV h₀ env.locals wr own (J (i + 1)) s₁ (fun v s' => Q (.ret v) s') fun s' => Q .next s') E s₁)
    (done : ∀ h' tk m' news', Fr h₀ env.locals h' m' → News h₀ env.locals h' news' → (∀ p ∈ news', p.1 ∉ wr) → J n m' news' → Q .next { s₂ with heap := h', toks := tk }) : LoopAtV prog w A h₀ env x body Q E (.ref I) s₂ :=
  ⟨I, fp, wr, n, P, St, m, news, J, rfl, W, h1, h2, h3, h4, F, N, h0, step, done⟩
theorem run_spec {prog : Program} {w : World} {p loose mean mg mb} {s : Shared} {nb a : Addr} {nvs vs : List Value} {ns xs : List Int} {l : List Stp} {b : Array UInt8} {tb : Tok} {opp : Bool} {Q E : Value → Shared → Prop}
    (X : (hd.heap_1 w.params).In s.heap) (T : Top p loose mean mg mb s.heap) (hNm : IntL s.heap nb nvs ns) (N : Names ns) (hl : s.heap.IsList a vs.toArray) (hi : IntsAre vs xs) (hxl : xs.length = 4) (hok : ∀ x ∈ l, StpOk x) (hll : l.length ≤ 30) (hb : KBw.bInts b = tapeC ns l)
    (ret : ∀ (D : Addr) (vals : List Value) (h' : Heap) (tk' : Nat), Kp s.heap h' → s.heap.get? D = none → h'.IsList D vals.toArray → IntsAre vals (l.foldl (rowStep (if opp then -1 else 1)) xs) → Q (.ref D) { s with heap := h', toks := tk' }) :
    wpAny (model prog w) (AX 600 4000) (call (.ref 153) [.bytes b tb, .bool opp, .ref a, .ref nb]) Q E s := by
  have hcl : (tapeC ns l).length = 3 * l.length := tapeC_length ns l
  have hnl := N.len
  k_with "mine call" => (first
    | (refine wpAny_weaken (n := 700) (u := 5000) ?_ rfl (Nat.le_of_ble_eq_true rfl) rfl (Nat.le_of_ble_eq_true rfl)
       refine bisect_left_spec (X.keeps (Fr.keep (by assumption))) (T.keeps (Fr.keep (by assumption))) (hNm.keeps (Fr.keep (by assumption))).isList hNm.1 (by omega) N.rise ?_
       intro r' t' h' tk' k' hr' hr1' hr2'
       simp only [j0, j1, j2] at hr1' hr2'
       with_reducible first | (have e' := bl_idx N o1 rfl hr' hr1' hr2'; subst e') | (have e' := bl_idx' N o3 rfl hr' hr1' hr2'; subst e')
       clear hr' hr1' hr2'
       have F' := Fr.keeps (by assumption) k'
       have N' := News.grown (by assumption) k'
       dsimp only)
    | (refine wpAny_weaken (n := 700) (u := 5000) ?_ rfl (Nat.le_of_ble_eq_true rfl) rfl (Nat.le_of_ble_eq_true rfl)
       refine bisect_right_spec (X.keeps (Fr.keep (by assumption))) (T.keeps (Fr.keep (by assumption))) (hNm.keeps (Fr.keep (by assumption))).isList hNm.1 (by omega) N.rise ?_
       intro r' t' h' tk' k' hr' hr1' hr2'
       simp only [j0, j1, j2] at hr1' hr2'
       with_reducible first | (have e' := br_idx N o3 rfl hr' hr1' hr2'; subst e') | (have e' := br_idx' N o1 rfl hr' hr1' hr2'; subst e')
       clear hr' hr1' hr2'
       have F' := Fr.keeps (by assumption) k'
       have N' := News.grown (by assumption) k'
       dsimp only)
    | (refine wpAny_weaken (n := 700) (u := 5000) ?_ rfl (Nat.le_of_ble_eq_true rfl) rfl (Nat.le_of_ble_eq_true rfl)
       refine sub_spec (X.keeps (Fr.keep (by assumption))) (T.keeps (Fr.keep (by assumption))) ?_
       intro t' h' tk' k'
       have F' := Fr.keeps (by assumption) k'
       have N' := News.grown (by assumption) k'
       dsimp only)
    | (refine wpAny_weaken (n := 700) (u := 5000) ?_ rfl (Nat.le_of_ble_eq_true rfl) rfl (Nat.le_of_ble_eq_true rfl)
       refine neg_spec (X.keeps (Fr.keep (by assumption))) (T.keeps (Fr.keep (by assumption))) ?_
       intro t' h' tk' k'
       have F' := Fr.keeps (by assumption) k'
       have N' := News.grown (by assumption) k'
       dsimp only)
    | (refine wpAny_weaken (n := 700) (u := 5000) ?_ rfl (Nat.le_of_ble_eq_true rfl) rfl (Nat.le_of_ble_eq_true rfl)
       refine add_spec (X.keeps (Fr.keep (by assumption))) (T.keeps (Fr.keep (by assumption))) ?_
       intro t' h' tk' k'
       have F' := Fr.keeps (by assumption) k'
       have N' := News.grown (by assumption) k'
       dsimp only)
    | (refine wpAny_weaken (n := 700) (u := 5000) ?_ rfl (Nat.le_of_ble_eq_true rfl) rfl (Nat.le_of_ble_eq_true rfl)
       refine mul_spec (X.keeps (Fr.keep (by assumption))) (T.keeps (Fr.keep (by assumption))) (by omega) (by omega) ?_
       intro t' h' tk' k'
       have F' := Fr.keeps (by assumption) k'
       have N' := News.grown (by assumption) k'
       dsimp only))
  walk_at "mine enter"
  k_steps
  rename_i L₁ _ _ hL₁ D₁ cn _ _ h₁ F₁ N₁ h₂ tk₂ t₁ t₂ t₃ hr F₂ N₂ k₂
  have hrs : Builtin.Range.rangeSize 0 ((tapeC ns l).length : Int) 3 = ((l.length : Nat) : Int) := by
    rw [hcl, rangeSize_pos (by decide) (by omega)]
    rw [show (((3 * l.length : Nat) : Int) + 3 - 1) = 2 + (l.length : Int) * 3 by push_cast; omega, Int.add_mul_ediv_right _ _ (by decide)]
    simp
  have hsm : Builtin.Range.small 0 ((tapeC ns l).length : Int) 3 = true := small_nat (c := 3) (by rw [hcl]; exact Nat.le_trans (Nat.mul_le_mul_left 3 hll) (by decide)) (by decide) (by decide) hrs (Nat.le_trans hll (by decide))
  refine wpAny_pyIter_range hr hsm ?_
  rw [hrs]
  have hLlt : L₁ < h₂.objs.size := F₂.ns.lt
  have hD := N₂ _ (.head _)
  have hDI : @Ne Nat D₁ h₂.objs.size := Nat.ne_of_lt (Heap.lt_size hD.1)
  have nI : s.heap.get? h₂.objs.size = none := fresh_none (Nat.le_of_lt (by rw [← hL₁]; exact hLlt))
  have up : ∀ {o : Obj} {b : Addr} {o' : Obj}, h₂.get? b = some o' → (h₂.push o).get? b = some o' := fun e => Heap.get?_push_of_some _ e
  dsimp only
  refine loopAtV_mk h₂.objs.size [h₂.objs.size] [h₂.objs.size] l.length [(D₁, W.listOf vs.toArray cn)]
    (fun i m news => ∃ vals c, news = [(D₁, W.listOf (List.toArray vals) c)] ∧ IntsAre vals ((l.take i).foldl (rowStep (if opp then -1 else 1)) xs) ∧ m "tape" = some (.bytes b tb) ∧ m "opposite" = some (.bool opp) ∧ m "names" = some (.ref nb) ∧ m "row" = some (.ref D₁))
    (Walks.range rfl h₂.objs.size 0 3 l.length) ?_ ?_ ?_ ?_ (F₂.push _) (fun p hp => ⟨up (N₂ p hp).1, (N₂ p hp).2⟩) ⟨vs, cn, rfl, by simpa using hi, rfl, rfl, rfl, rfl⟩ ?_ ?_
  · intro q
    exact Nat.ne_of_lt hLlt (List.mem_singleton.mp q)
  · intro b' hb'
    rw [List.mem_singleton.mp hb']; exact nI
  · intro p' hp'
    rw [List.mem_singleton.mp hp']
    simpa using hDI
  · show IsRangeIter _ _ _ _ _
    simpa using Heap.get?_push_size h₂ rfl
  · rintro i v m₁ news₁ s₁ own hs₁ hlt ⟨tv, rfl⟩ ⟨vals, c, rfl, hv, e1, e2, e3, e4⟩ a1 a2 a3 a4 st F₃ N₃
    obtain ⟨h₃, tk₃, rfl⟩ := hs₁
    dsimp only at a3 a4 st F₃ N₃
    obtain ⟨x, hx⟩ : ∃ x, l[i]? = some x := ⟨l[i], List.getElem?_eq_getElem hlt⟩
    obtain ⟨o1, o2, o3⟩ := hok x (List.mem_of_getElem? hx)
    obtain ⟨q1, q2, q3⟩ := tapeC_get ns l i x hx
    have hit : h₃.get? h₂.objs.size = some _ := st
    have N₄ : News s.heap L₁ h₃ [(h₂.objs.size, _), (D₁, W.listOf (List.toArray vals) c)] := fun p hp => by
      rcases List.mem_cons.mp hp with rfl | hp
      · exact ⟨hit, Nat.ne_of_gt hLlt, nI⟩
      · exact N₃ p (List.mem_append_right _ hp)
    clear N₃ N₂ N₁ F₂ F₁
    have at0 : 0 + (i : Int) * 3 = ((3 * i : Nat) : Int) := by rw [Int.zero_add, Int.natCast_mul, Int.mul_comm]; rfl
    have j0 : (tapeC ns l).getD (0 + (i : Int) * 3).toNat 0 = ns.getD x.1 0 := by rw [at0]; exact q1
    have j1 : (tapeC ns l).getD (0 + (i : Int) * 3 + 1).toNat 0 = 48 + (x.2.1 : Int) := by rw [at0]; exact q2
    have j2 : (tapeC ns l).getD (0 + (i : Int) * 3 + 2).toNat 0 = ns.getD x.2.2 0 := by rw [at0]; exact q3
    have ed : ((x.2.2 : Int) + 1 - 1).toNat = x.2.2 := by rw [Int.add_sub_cancel, Int.toNat_natCast]
    have eg : (48 + (x.2.1 : Int) - 51) = x.2.1 - 3 := by omega
    have hcl4 := rowStep_len (if opp then -1 else 1) (l.take i) xs
    rw [hxl] at hcl4
    generalize hcur : (l.take i).foldl (rowStep (if opp then -1 else 1)) xs = cur at hv hcl4
    have hvl := hv.length
    replace F₃ := Frp (Frp (Frp (Frp F₃ "row" (v := .ref D₁) (by show (if _ then _ else m₁ "row") = _; rw [if_neg (by decide)]; exact e4)) "names" (v := .ref nb) (by show (if _ then _ else if _ then _ else m₁ "names") = _; rw [if_neg (by decide), if_neg (by decide)]; exact e3))
      "opposite" (v := .bool opp) (by show (if _ then _ else if _ then _ else if _ then _ else m₁ "opposite") = _; rw [if_neg (by decide), if_neg (by decide), if_neg (by decide)]; exact e2))
      "tape" (v := .bytes b tb) (by show (if _ then _ else if _ then _ else if _ then _ else if _ then _ else m₁ "tape") = _; rw [if_neg (by decide), if_neg (by decide), if_neg (by decide), if_neg (by decide)]; exact e1)
    refine wpAny_execs_cons (gq fun Q₁ hQ₁ => ?_)
    k_steps
    all_goals (
      refine hQ₁ _ _ ?_
      clear hQ₁ Q₁
      dsimp only
      refine wpAny_execs_cons (gq fun Q₂ hQ₂ => ?_)
      k_steps)
    all_goals (
      refine hQ₂ _ _ ?_
      clear hQ₂ Q₂
      dsimp only
      refine wpAny_execs_cons (gq fun Q₃ hQ₃ => ?_)
      k_steps)
    all_goals (
      refine hQ₃ _ _ ?_
      clear hQ₃ Q₃
      dsimp only
      k_steps)
    all_goals (
      rename_i h9 F9 N9 hi9 hl9 hs9
      have hstep : (l.take (i + 1)).foldl (rowStep (if opp then -1 else 1)) xs = rowStep (if opp then -1 else 1) cur x := by
        rw [List.take_succ, hx, List.foldl_append, hcur]; rfl
      refine run_end hi9 F9 N9 (by first | exact .tail _ (.tail _ (.head _)) | exact .tail _ (.tail _ (.tail _ (.head _)))) (by first | exact .tail _ (.head _) | exact .tail _ (.tail _ (.head _))) hit a2 a3 hDI ?_ rfl rfl rfl rfl rfl
      rw [hstep]
      simp only [rowStep, j1, Int.toNat_natCast, ed, eg]
      have hop : opp = false ∨ opp = true := by cases opp <;> simp
      first
        | (have hopp : opp = false := by with_reducible assumption
           simp [hopp]
           done)
        | (have hopp : opp = true := by with_reducible assumption
           simp [hopp]
           done)
        | trace_state)
  · rintro h' tk' m' news' F' N' a1 ⟨vals, c, rfl, hv, e1, e2, e3, e4⟩
    rw [List.take_of_length_le (Nat.le_refl _)] at hv
    replace F' := Frp F' "row" (v := .ref D₁) e4
    have N9 := N' (D₁, W.listOf (List.toArray vals) c) (.head _)
    have K9 := Fr.keep F'
    k_steps
    exact ret D₁ vals _ _ K9 N9.2.2 ⟨W.listOf vals.toArray c, N9.1, rfl, ⟨c, rfl⟩⟩ hv
theorem ba_mro : mroOf (.type "bytearray") = pure [.type "bytearray", .type "object"] := by rw [mroOf_type]; kernel_rfl
theorem ba_lookup_new : typeLookup (.type "bytearray") "__new__" = pure (some (.builtin "bytearray.__new__")) := by rw [typeLookup_type, builtinLookup_eq_fast]; kernel_rfl
theorem ba_slot_init : Slot "bytearray" "__init__" "bytearray.__init__" :=
  .of (owner := "bytearray") (n := "__init__") (by rw [typeLookup_type, builtinLookup_eq_fast]; kernel_rfl) (by decide +kernel) (by decide +kernel) (by decide +kernel)
    (by first | exact .inl (by decide +kernel) | exact .inr (by decide +kernel)) (by rw [isSubtype_type]; kernel_rfl)
theorem ba_slot_set : Slot "bytearray" "__setitem__" "bytearray.__setitem__" :=
  .of (owner := "bytearray") (n := "__setitem__") (by rw [typeLookup_type, builtinLookup_eq_fast]; kernel_rfl) (by decide +kernel) (by decide +kernel) (by decide +kernel)
    (by first | exact .inl (by decide +kernel) | exact .inr (by decide +kernel)) (by rw [isSubtype_type]; kernel_rfl)
theorem ba_called : TypeCalled "bytearray" "bytearray.__new__" "bytearray.__init__" :=
  ⟨by decide +kernel, by decide +kernel, ⟨_, _, ba_mro⟩, madeBy_type ba_mro ba_lookup_new (by decide +kernel), by decide +kernel, by rw [isSubtype_type]; kernel_rfl, ba_slot_init⟩
theorem ba_typeCall (a : Value) : checkTypeCall "bytearray" ⟨[a], []⟩ = pure () := by kernel_rfl
theorem ba_newCall (a : Value) : checkBuiltinCall "bytearray.__new__" ⟨[.type "bytearray", a], []⟩ = pure () := by kernel_rfl
theorem ba_plain : plainId "bytearray.__new__" = true := by decide +kernel
theorem ba_entry_new : entryFor table "bytearray.__new__" = some Builtin.«list.__new__» := entryFor_alias (id' := "list.__new__") (by kernel_rfl) (by first | rfl | decide +kernel) (by decide +kernel) (by kernel_rfl)
theorem ba_entry_init : entryFor table "bytearray.__init__" = some Builtin.«bytearray.__init__» := by first | exact entryFor_of_fast (by kernel_rfl) | exact entryFor_of_tree (by kernel_rfl)
theorem ba_entry_set : entryFor table "bytearray.__setitem__" = some Builtin.«bytearray.__setitem__» := by first | exact entryFor_of_fast (by kernel_rfl) | exact entryFor_of_tree (by kernel_rfl)
set_option maxRecDepth 1000000 in
theorem ba_owner : ("bytearray.__new__".splitOn ".__new__").headD "" = "bytearray" := by simp +decide [String.splitOn, String.splitOnAux]
theorem ba_sub : isSubtype (.type "bytearray") (.type "bytearray") = pure true := by rw [isSubtype_type]; kernel_rfl
theorem ba_bind (v : Value) : Builtin.Bytes.bindOptional "bytearray.__init__" "bytearray" ["source", "encoding", "errors"] [v] [] = pure [some v, none, none] := by kernel_rfl
theorem ba_release : typeLookup (.type "bytearray") "__release_buffer__" = pure (some (.builtin "bytearray.__release_buffer__")) := by rw [typeLookup_type, builtinLookup_eq_fast]; kernel_rfl
theorem ba_argsInit (a b : Value) : argsOk "bytearray.__init__" ⟨[a, b], []⟩ := by kernel_rfl
section
variable {prog : Program} {w : World} {A : Around} {E : Value → Shared → Prop} {s : Shared}
theorem ba_new (a : Value) {Q₁ : Value → Shared → Prop}
    (h : Q₁ (.ref s.heap.objs.size) { s with heap := s.heap.push { cls := .type "bytearray", data := .bytearray #[] } }) :
    codeAny (model prog w) A (.call (.builtin "bytearray.__new__") ⟨[.type "bytearray", a], []⟩) (wants Q₁ E) s := by
  refine codeAny_of_tree ?_
  show wpAny _ A.in1 (do checkBuiltinCall "bytearray.__new__" ⟨[.type "bytearray", a], []⟩; again (.builtin "bytearray.__new__" ⟨[.type "bytearray", a], []⟩)) _ _ s
  refine wpAny_bind (wpAny_of_eq (ba_newCall a) (wpAny_pure ⟨plainId_quiet ba_plain _, codeAny_builtin_stack ba_entry_new rfl fun p st => ?_⟩))
  rw [Around.under_plainId ba_plain _]
  have hsub := ba_sub
  have hown := ba_owner
  obtain ⟨hp, g, d, tk, os⟩ := s
  simp only [hown]
  wp_walk
  exact h
theorem sType {T newId initId : String} {Bi : Builtin} {args : List Value} {Q Q₁ : Value → Shared → Prop} (ft : TypeCalled T newId initId)
    (hct : checkTypeCall T ⟨args, []⟩ = pure ()) (entryI : entryFor table initId = some Bi) (hnd : ∀ a, noDec (.builtin initId a))
    (hnew : codeAny (model prog w) A.in1 (.call (.builtin newId) ⟨.type T :: args, []⟩) (wants Q₁ E) s)
    (hnext : ∀ obj s₁, Q₁ obj s₁ → s₁.TypeIs obj T ∧ argsOk initId ⟨obj :: args, []⟩ ∧
      wpS (model prog w) A.in1.in1 (Bi ⟨obj :: args, []⟩) (fun fin s' => fin = .done (.ret .none) ∧ Q obj s') E s₁) :
    wpS (model prog w) A (call (.type T) args) Q E s := by
  obtain ⟨c, tl, hmro⟩ := ft.mro
  have hmade := ft.made
  have hsub := ft.sub
  refine S.call (S.of_tree (fun _ _ => rfl) (S.any ?_))
  show wpAny _ _ (callAny (.type T) _) _ _ _
  refine wpAny_pure ⟨Code.quiet_builtin _ (by decide +kernel), S.builtin (fun _ _ => rfl) F.entry_type_call ?_⟩
  rw [Around.under_plain (weight_type_call_type T args []) rfl]
  have h1 := ft.notType
  have h2 := ft.canCreate
  unfold Builtin.«type.__call__»
  dsimp only
  refine S.iteF h1 ?_
  refine S.iteF h2 ?_
  refine S.bindA (wpAny_of_eq hct ?_)
  refine S.bindA (wpAny_of_eq hmro ?_)
  refine S.iteF rfl ?_
  refine S.bindA (wpAny_of_eq hmade ?_)
  refine S.bindA (wpAny_pure ?_)
  refine S.bindA (wpAny_holding (wpAny_call (codeAny_mono hnew fun r s₁ hr => ?_)))
  cases r with
  | error e => exact hr
  | ok fl =>
    cases fl with
    | ret obj =>
      obtain ⟨hT, hok, hsi⟩ := hnext _ _ hr
      refine S.bindA (wpAny_isInstance hT hsub ?_)
      refine S.iteF rfl ?_
      refine S.bind (S.holding ?_)
      unfold callSpecial?
      refine S.bindA (wpAny_specialOf hT ft.init.lookup ?_)
      dsimp only
      refine S.holding (S.bindA (wpAny_of_eq (ft.init.bind obj) ?_))
      dsimp only
      refine S.bind (S.call (S.of_tree (fun _ _ => rfl) (S.any ?_)))
      show wpAny _ _ (do checkBuiltinCall initId ⟨obj :: args, []⟩; again (.builtin initId ⟨obj :: args, []⟩)) _ _ s₁
      refine wpAny_bind (ft.init.check _ _ _ _ _ _ _ _ hT hok (wpAny_pure ⟨plainId_quiet ft.init.plain _, S.builtin (hnd _) entryI ?_⟩))
      rw [Around.under_plainId ft.init.plain _]
      refine S.mono hsi ?_ fun _ _ h => h
      rintro fin s₂ ⟨rfl, hq⟩
      refine S.pure ?_
      dsimp only
      refine S.iteF rfl ?_
      exact S.pure hq
    | _ => exact hr.elim
end
theorem ba_index_int : typeLookup (.type "int") "__index__" = pure (some (.builtin "int.__index__")) := by rw [typeLookup_type, builtinLookup_eq_fast]; kernel_rfl
/-- a bytearray -/
noncomputable def baO (b : Array UInt8) : Obj := { cls := .type "bytearray", data := .bytearray b }
section
variable {prog : Program} {w : World} {A : Around} {E : Value → Shared → Prop} {s : Shared}
theorem ba_write {D : Addr} {b : Array UInt8} {f : Array UInt8 → Array UInt8} {Q : Unit → Shared → Prop} (hD : s.heap.get? D = some (baO b)) (hz : (f b).size ≤ sizeLine)
    (h : ∀ h', h'.get? D = some (baO (f b)) → h'.objs.size = s.heap.objs.size → Upd D s.heap h' → Q () { s with heap := h' }) : wpAny (model prog w) A (Builtin.Bytes.write (.ref D) f) Q E s := by
  show wpAny _ _ (updateBytearray D f) _ _ _
  unfold updateBytearray
  refine wpAny_bind (wpAny_load hD ?_)
  show wpAny _ _ (update D (Obj.mapBytearray f) >>= fun _ => lookBehind D) _ _ _
  refine wpAny_bind (wpAny_update hD ?_)
  have h₂ : (s.heap.update D (Obj.mapBytearray f)).get? D = some (baO (f b)) := Heap.get?_update_self (Obj.mapBytearray f) hD rfl
  refine wpAny_lookBehind h₂ ?_ (h _ h₂ (Heap.size_update ..) fun b o hb e => (Heap.get?_update_other _ _ (Ne.symm hb)).trans e)
  show (if (f b).size > sizeLine then some "bytearray:memory" else none) = none
  rw [if_neg (Nat.not_lt.mpr hz)]
theorem ba_typeIs {D : Addr} {b : Array UInt8} (hD : s.heap.get? D = some (baO b)) : s.TypeIs (.ref D) "bytearray" := ⟨_, hD, rfl⟩
theorem ba_ownRelease {D : Addr} {b : Array UInt8} {Q : Bool → Shared → Prop} (hD : s.heap.get? D = some (baO b)) (h : Q false s) : wpAny (model prog w) A (Builtin.Bytes.ownRelease (.ref D)) Q E s := by
  unfold Builtin.Bytes.ownRelease Builtin.Bytes.slotIsOwn
  refine wpAny_bind (wpAny_bind (wpAny_specialOf (ba_typeIs hD) ba_release ?_))
  dsimp only
  have e1 : ("bytearray.__release_buffer__".endsWith ("." ++ "__release_buffer__")) = true := by decide +kernel
  have e2 : ("bytearray.__release_buffer__".dropRight ("__release_buffer__".length + 1)) = "bytearray" := by decide +kernel
  rw [e1, e2]
  refine bm_if_false rfl ?_
  exact wpAny_isInstance (ba_typeIs hD) ba_sub (wpAny_pure h)
theorem ba_noDec (a : Args) : noDec (.builtin "bytearray.__init__" a) := fun v p => by
  have e : Builtin.Bytes.decodersThatHold.contains "bytearray.__init__" = false := by decide +kernel
  obtain ⟨pos, kw⟩ := a
  rcases pos with _ | ⟨x, _ | ⟨y, r⟩⟩
  · rfl
  · show (Builtin.Bytes.sameRef x v && Builtin.Bytes.decodersThatHold.contains "bytearray.__init__") = false
    rw [e, Bool.and_false]
  · show (Builtin.Bytes.sameRef x v && Builtin.Bytes.decodersThatHold.contains "bytearray.__init__") = false
    rw [e, Bool.and_false]
theorem ba_asStr (k : Int) (t : Tok) : asStr? (.int k t) = Pure.pure none := by with_unfolding_all rfl
theorem ba_init {D : Addr} {n : Nat} {t : Tok} {Q : Fin → Shared → Prop} (hg : A.guards = some []) (hD : s.heap.get? D = some (baO #[])) (hn : n ≤ 1000)
    (h : ∀ h', h'.get? D = some (baO (Array.replicate n 0)) → h'.objs.size = s.heap.objs.size → Upd D s.heap h' → Q (.done (.ret .none)) { s with heap := h' }) :
    wpS (model prog w) A (Builtin.«bytearray.__init__» ⟨[.ref D, .int n t], []⟩) Q E s := by
  unfold Builtin.«bytearray.__init__»
  dsimp only
  refine S.bindA (ba_ownRelease hD ?_)
  refine S.iteF rfl ?_
  refine S.bindA (wpAny_of_eq (ba_bind _) ?_)
  dsimp only
  refine S.bindA (wpAny_of_eq (a := ()) rfl ?_)
  refine S.bindA (wpAny_of_eq (a := ()) rfl ?_)
  refine S.bind ?_
  show wpS _ _ (Builtin.Bytes.exported (.ref D) >>= _) _ _ _
  refine S.bind (S.isExported ?_)
  show wpS _ _ (Builtin.Bytes.exportsOf (.ref D) >>= fun x => Pure.pure (decide (x > 0))) _ _ _
  refine S.bindA ?_
  show wpAny _ _ (load D >>= _) _ _ _
  refine wpAny_bind (wpAny_load hD ?_)
  refine wpAny_pure (S.pure ?_)
  refine S.any ?_
  refine bm_if_false rfl ?_
  refine wpAny_bind ?_
  generalize hf : (fun _ : Array UInt8 => (#[] : Array UInt8)) = f
  have hz : (f #[]).size ≤ sizeLine := by subst hf; exact Nat.zero_le _
  refine ba_write hD hz fun h₁ d₁ z₁ u₁ => ?_
  replace d₁ : h₁.get? D = some (baO #[]) := by subst hf; exact d₁
  refine wpAny_bind ?_
  rw [ba_asStr]
  refine wpAny_pure ?_
  rw [if_neg (show ¬ ((none : Option Str).isSome = true) from Bool.false_ne_true)]
  rw [if_neg (show ¬ ((none : Option Value).isSome = true) from Bool.false_ne_true)]
  refine wpAny_bind ?_
  rw [if_neg (show ¬ ((none : Option Value).isSome = true) from Bool.false_ne_true)]
  refine wpAny_pure ?_
  refine wpAny_bind ?_
  have hT : ({ s with heap := h₁ } : Shared).TypeIs (.int (n : Int) t) "int" := by trivial
  have hi : typeLookup (.type "int") (Str.ofString "__index__") = Pure.pure (some (.builtin "int.__index__")) := ba_index_int
  with_reducible refine wpAny_specialOf hT hi ?_
  rw [if_pos (show ((some (Value.builtin "int.__index__") : Option Value).isSome = true) from rfl)]
  refine wpAny_bind ?_
  refine wpAny_attempt ?_
  rw [show asIndex (.int (n : Int) t) = Pure.pure (n : Int) from by with_unfolding_all rfl]
  refine wpAny_pure ?_
  dsimp only
  have e1 : Builtin.Bytes.fitsIndex (n : Int) = true := by unfold Builtin.Bytes.fitsIndex; simp only [Bool.and_eq_true, decide_eq_true_eq]; omega
  have e2 : ((n : Int) == 2 ^ 63 - 1) = false := by rw [beq_eq_false_iff_ne]; omega
  have e3 : Builtin.Bytes.tooLong (n : Int).toNat = false := by
    unfold Builtin.Bytes.tooLong
    rw [decide_eq_false_iff_not, Int.toNat_natCast]
    have : (1000 : Nat) ≤ sizeLine := by decide
    omega
  rw [e1, if_neg (show ¬ ((!true) = true) from Bool.false_ne_true)]
  rw [if_neg (show ¬ (n : Int) < 0 by omega)]
  rw [e2, if_neg Bool.false_ne_true]
  rw [e3, if_neg Bool.false_ne_true]
  refine wpAny_bind ?_
  refine wpAny_rule ?_
  by_cases h0 : (n : Int) > 0
  · rw [if_pos h0]
    refine wpAny_bind ?_
    have hz2 : ((fun _ : Array UInt8 => Array.replicate (n : Int).toNat (0 : UInt8)) #[]).size ≤ sizeLine := by
      have : (1000 : Nat) ≤ sizeLine := by decide
      simp only [Array.size_replicate, Int.toNat_natCast]; omega
    with_reducible refine ba_write (s := { s with heap := h₁ }) d₁ hz2 fun h₂ d₂ z₂ u₂ => ?_
    refine wpAny_pure (h h₂ ?_ (z₂.trans z₁) fun b o hb e => u₂ b o hb (u₁ b o hb e))
    simpa using d₂
  · rw [if_neg h0]
    have : n = 0 := by omega
    subst this
    exact wpAny_pure (h h₁ d₁ z₁ u₁)
theorem ba_call {n : Nat} {t : Tok} {Q : Value → Shared → Prop} (hg : A.guards = some []) (hn : n ≤ 1000)
    (h : ∀ h', h'.get? s.heap.objs.size = some (baO (Array.replicate n 0)) → h'.objs.size = s.heap.objs.size + 1 → Kp s.heap h' → Q (.ref s.heap.objs.size) { s with heap := h' }) :
    wpS (model prog w) A (call (.type "bytearray") [.int n t]) Q E s := by
  refine sType (Q₁ := fun obj s₁ => obj = .ref s.heap.objs.size ∧ s₁ = { s with heap := s.heap.push (baO #[]) }) ba_called (ba_typeCall _) ba_entry_init ba_noDec (ba_new _ ⟨rfl, rfl⟩) ?_
  rintro obj s₁ ⟨rfl, rfl⟩
  have hD : (s.heap.push (baO #[])).get? s.heap.objs.size = some (baO #[]) := Heap.get?_push_size _ rfl
  refine ⟨ba_typeIs hD, ba_argsInit _ _, ba_init (s := { s with heap := s.heap.push (baO #[]) }) (A := A.in1.in1) hg hD hn fun h' d z u => ⟨rfl, h h' d (z.trans (Heap.size_push ..)) fun b o e => ?_⟩⟩
  exact u b o (Nat.ne_of_lt (Heap.lt_size e)) (Heap.get?_push_of_some _ e)
end
theorem ba_bytes_none : typeLookup (.type "bytearray") "__bytes__" = pure none := by rw [typeLookup_type, builtinLookup_eq_fast]; kernel_rfl
theorem ba_index_none : typeLookup (.type "bytearray") "__index__" = pure none := by rw [typeLookup_type, builtinLookup_eq_fast]; kernel_rfl
theorem ba_buffer : typeLookup (.type "bytearray") "__buffer__" = pure (some (.builtin "bytearray.__buffer__")) := by rw [typeLookup_type, builtinLookup_eq_fast]; kernel_rfl
theorem ba_argsSet (a b c : Value) : argsOk "bytearray.__setitem__" ⟨[a, b, c], []⟩ := by kernel_rfl
section
variable {prog : Program} {w : World} {A : Around} {E : Value → Shared → Prop} {s : Shared}
theorem ba_setItem {D : Addr} {b : Array UInt8} {k x : Int} {t u : Tok} {Q : Unit → Shared → Prop} (hD : s.heap.get? D = some (baO b)) (hz : b.size ≤ 1000) (k0 : 0 ≤ k) (k1 : k < b.size) (x0 : 0 ≤ x) (x1 : x < 256)
    (h : ∀ h', h'.get? D = some (baO (b.setIfInBounds k.toNat x.toNat.toUInt8)) → h'.objs.size = s.heap.objs.size → Upd D s.heap h' → Q () { s with heap := h' }) :
    wpAny (model prog w) A (setItem (.ref D) (.int k t) (.int x u)) Q E s := by
  have hT := ba_typeIs hD
  unfold setItem
  try with_reducible refine wpAny_holding ?_
  first | refine wpAny_bind (wpAny_pure ?_) | skip
  refine wpAny_bind (wpAny_sequenceKey hT (by decide) ?_)
  refine wpAny_bind (wpAny_callSpecial?_slot (name := Str.ofString "__setitem__") hT ba_slot_set
    (wpAny_call_entry ba_slot_set hT ba_entry_set ?_ (ba_argsSet _ _ _)))
  unfold Builtin.«bytearray.__setitem__»
  dsimp only
  have e1 : Builtin.Bytes.fitsIndex k = true := by unfold Builtin.Bytes.fitsIndex; simp only [Bool.and_eq_true, decide_eq_true_eq]; omega
  have e2 : seqIndex? k b.size = some k.toNat := by
    unfold seqIndex?
    rw [if_neg (show ¬ k < 0 by omega)]
    rw [if_pos (show (decide (0 ≤ k) && decide (k < (b.size : Int))) = true by simp only [Bool.and_eq_true, decide_eq_true_eq]; omega)]
  rw [if_neg (show ¬ ((![].isEmpty) = true) from Bool.false_ne_true)]
  refine wpAny_bind ?_
  unfold Builtin.Bytes.subscript?
  refine wpAny_bind ?_
  have hTk : s.TypeIs (.int k t) "int" := by trivial
  with_reducible refine wpAny_specialOf hTk ba_index_int ?_
  rw [if_neg (show ¬ ((some (Value.builtin "int.__index__") : Option Value).isNone = true) from Bool.false_ne_true)]
  rw [show asIndex (.int k t) = Pure.pure k from by with_unfolding_all rfl]
  refine wpAny_bind ?_
  refine wpAny_pure ?_
  dsimp only
  rw [e1, if_neg (show ¬ ((!true) = true) from Bool.false_ne_true)]
  refine wpAny_pure ?_
  dsimp only
  refine wpAny_bind ?_
  unfold Builtin.Bytes.byteValue
  rw [show asIndex (.int x u) = Pure.pure x from by with_unfolding_all rfl]
  refine wpAny_bind ?_
  refine wpAny_pure ?_
  rw [if_neg (show ¬ ((decide (x < 0) || decide (x ≥ 256)) = true) by simp only [Bool.or_eq_true, decide_eq_true_eq]; omega)]
  refine wpAny_pure ?_
  refine wpAny_bind ?_
  unfold Builtin.Bytes.payload Builtin.Bytes.payload?
  refine wpAny_bind ?_
  refine wpAny_bind ?_
  with_reducible refine wpAny_load hD ?_
  refine wpAny_pure ?_
  refine wpAny_pure ?_
  rw [e2]
  dsimp only
  refine wpAny_bind ?_
  have hz2 : ((fun y : Array UInt8 => y.setIfInBounds k.toNat x.toNat.toUInt8) b).size ≤ sizeLine := by
    have : (1000 : Nat) ≤ sizeLine := by decide
    simp only [Array.size_setIfInBounds]; omega
  with_reducible refine ba_write hD hz2 fun h₂ d₂ z₂ u₂ => ?_
  refine wpAny_pure ⟨_, rfl, ?_⟩
  exact wpAny_pure (h h₂ d₂ z₂ u₂)
theorem ba_bytesNew {D : Addr} {b : Array UInt8} {Q : Value → Shared → Prop} (hD : s.heap.get? D = some (baO b)) (hz : b.size ≤ 1000) (h : ∀ t tk, Q (.bytes b t) { s with toks := tk }) :
    codeAny (model prog w) A (.call (.builtin "bytes.__new__") ⟨[.type "bytes", .ref D], []⟩) (wants Q E) s := by
  refine codeAny_of_tree ?_
  show wpAny _ A.in1 (do checkBuiltinCall "bytes.__new__" ⟨[.type "bytes", .ref D], []⟩; again (.builtin "bytes.__new__" ⟨[.type "bytes", .ref D], []⟩)) _ _ s
  refine wpAny_bind (wpAny_of_eq (F.bm_newCall _) (wpAny_pure ⟨plainId_quiet F.bm_plain _, codeAny_builtin F.bm_entry ?_⟩))
  rw [Around.under_plainId F.bm_plain _]
  have hT := ba_typeIs hD
  unfold Builtin.«bytes.__new__»
  refine wpAny_bind (wpAny_of_eq (a := true) rfl ?_)
  refine bm_if_false rfl ?_
  refine wpAny_bind (wpAny_of_eq F.bm_sub ?_)
  refine bm_if_false rfl ?_
  refine wpAny_bind (wpAny_of_eq (F.bm_bind _) ?_)
  refine wpAny_bind (wpAny_of_eq (a := ()) rfl ?_)
  refine wpAny_bind (wpAny_of_eq (a := ()) rfl ?_)
  refine bm_if_false rfl ?_
  refine wpAny_bind (wpAny_specialOf hT ba_bytes_none ?_)
  refine wpAny_bind (wpAny_bind ?_)
  show wpAny _ _ (load D >>= _) _ _ _
  refine wpAny_bind (wpAny_load hD ?_)
  refine wpAny_pure (wpAny_pure ?_)
  refine bm_if_false rfl ?_
  refine wpAny_bind (wpAny_specialOf hT ba_index_none ?_)
  refine bm_if_true rfl ?_
  first
    | show wpAny _ _ (Builtin.Bytes.buffer? "bytes.__new__" (.ref D) true >>= _) _ _ _
    | (refine wpAny_bind ?_; show wpAny _ _ (Builtin.Bytes.buffer? "bytes.__new__" (.ref D) true >>= _) _ _ _)
  refine wpAny_bind ?_
  unfold Builtin.Bytes.buffer?
  refine wpAny_bind (wpAny_specialOf hT ba_buffer ?_)
  dsimp only
  unfold Builtin.Bytes.slotIsOwn
  refine wpAny_bind (wpAny_bind (wpAny_specialOf hT ba_buffer ?_))
  dsimp only
  have e1 : ("bytearray.__buffer__".endsWith ("." ++ "__buffer__")) = true := by decide +kernel
  have e2 : ("bytearray.__buffer__".dropRight ("__buffer__".length + 1)) = "bytearray" := by decide +kernel
  rw [e1, e2]
  refine bm_if_false rfl ?_
  refine wpAny_isInstance hT ba_sub ?_
  refine bm_if_false rfl ?_
  refine wpAny_bind (wpAny_specialOf hT ba_buffer ?_)
  refine wpAny_bind (ba_ownRelease hD ?_)
  refine bm_if_false rfl ?_
  unfold Builtin.Bytes.payload Builtin.Bytes.payload?
  refine wpAny_bind ?_
  refine wpAny_bind ?_
  refine wpAny_bind ?_
  with_reducible refine wpAny_load hD ?_
  refine wpAny_pure ?_
  refine wpAny_pure ?_
  refine wpAny_pure ?_
  dsimp only
  refine wpAny_bind (wpAny_rule ?_)
  refine wpAny_bind (wpAny_mkBytes ?_ (by have : (1000 : Nat) ≤ sizeLine := by decide
                                          omega))
  show wpAny _ _ (if (Value.type "bytes" == Value.type "bytes") = true then _ else _) _ _ _
  refine bm_if_true (by decide) ?_
  first
    | exact wpAny_pure (h _ _)
    | exact wpAny_bind (wpAny_pure (wpAny_pure (h _ _)))
theorem ba_bytes {D : Addr} {b : Array UInt8} {Q : Value → Shared → Prop} (hD : s.heap.get? D = some (baO b)) (hz : b.size ≤ 1000) (h : ∀ t tk, Q (.bytes b t) { s with toks := tk }) :
    wpAny (model prog w) A (call (.type "bytes") [.ref D]) Q E s := by
  refine callType_codes (Q₁ := fun obj s₁ => s₁.TypeIs obj "bytes" ∧ Q obj s₁) F.bm_called (F.bm_typeCall _) F.entry_object_init
    (ba_bytesNew hD hz fun t k => ⟨PySem.W.typeIs_bytes _ _ _, h t k⟩) fun obj s₁ h₁ => ?_
  exact ⟨h₁.1, F.args_object_init_2 obj _, object_init_meets F.bm_called.init.lookup F.bm_called.made (by decide) prog w A.in1 _ s₁ ⟨h₁.1, rfl, h₁.2⟩⟩
end
/-- entering a def, over the contexts without a decoder -/
theorem sEnter {prog : Program} {w : World} {A : Around} {s : Shared} {K : Frag} {Q : Value → Shared → Prop} {E : Value → Shared → Prop}
    {name qual : Str} {params : Arguments} {body : List Stmt} {scope : Scope} {dV kV doc pm cdv ct oc : Value} {an od : Option Addr} {osl : Array (Option Value)} {f : Addr} {vs : List Value} {kw : List (Str × Value)} {binds : List (Str × Value)}
    (X : K.In s.heap) (hlim : s.heap.NoLimit)
    (ho : K.lookup f = some ⟨oc, od, .func (fnOf name qual params body scope dV kV doc pm an cdv ct), osl⟩) (hcd : codeIn K cdv qual = true) (hroom : A.depth < recursionLimit)
    (hbind : BindsTo s (fnOf name qual params body scope dV kV doc pm an cdv ct) ⟨vs, kw⟩ binds)
    (hkind : (binds.all fun y => scope.names.lookup y.1 == some .local || scope.names.lookup y.1 == some .cell) = true)
    (hnd : ((cellsFrom 0 scope.names []).map (·.1)).Nodup)
    (h : ∀ L h₁ tk cells, L = s.heap.objs.size → Fr s.heap L h₁ (bindL (envOfC qual scope L f cdv).kindOf binds fun _ => none) → News s.heap L h₁ cells →
      CellsAre (bindC (envOfC qual scope L f cdv).kindOf binds fun _ => none) (cellsFrom (L + 1) scope.names []) cells →
      wpS (model prog w) (A.deeper (envOfC qual scope L f cdv)) (execs body (envOfC qual scope L f cdv))
        (fun fl s' => Q (match fl with | .ret v => v | _ => .none) s') (fun _ _ => False)
        { s with heap := h₁, toks := tk })
    (hco : scope.isCoroutine = false) (hgen : scope.isGenerator = false) (hk : scope.kind = .function) : wpS (model prog w) A (call (.ref f) vs kw) Q E s := by
  refine S.call ?_
  refine S.call_function (fd := fnOf name qual params body scope dV kV doc pm an cdv ct) hroom (X _ _ ho) rfl hco hgen rfl (codeRec_of X hcd) (hbind _ _ _ _ ?_)
  refine wpAny_newFunctionEnv_cells hk (kindsX hkind _) fun env' he s' x => ?_
  subst he
  refine ⟨hlim.keeps x.toInCall.keep, S.func ?_⟩
  obtain ⟨h₁, tk, rfl, _⟩ := x.done
  have hk₁ := x.toInCall.keep
  obtain ⟨cells, NC, Y⟩ := Cl.news (h₀ := s.heap) (Nat.le_refl _) fun n c hm => ⟨x.cell n c (lookup_of_mem_nodup (cellsFrom_names scope.names 0 (s.heap.objs.size + 1) [] [] rfl ▸ hnd) hm), x.above n c hm⟩
  exact S.mono (h s.heap.objs.size h₁ tk cells rfl ⟨x.toInCall.ns, hk₁, Nat.le_refl _⟩ NC Y) (fun fl s' hl => hl) fun _ _ y => y.elim
section
variable {prog : Program} {w : World} {A : Around} {env : Env}
theorem Ev.isub {l r : Expr} {pos : Pos} {h : Heap} {a b : Int} (hl : Ev prog w A env l h (fun u => ∃ t, u = .int a t)) (hr : Ev prog w A env r h (fun u => ∃ t, u = .int b t)) :
    Ev prog w A env (.BinOp l .Sub r pos) h (fun u => ∃ t, u = .int (a - b) t) := fun s Q E hh k => by
  refine wpAny_BinOp (hl s _ _ hh fun o tk ⟨t, e⟩ => ?_)
  subst e
  refine hr { s with toks := tk } _ _ hh fun x tk₂ ⟨t₂, e⟩ => ?_
  subst e
  exact AutoIntOps.sub_0 (k _ _ ⟨_, rfl⟩)
theorem Ev.lenB {e : Expr} {p₁ pos : Pos} {h : Heap} {b : Array UInt8} {tb : Tok} (bi : Bi h "len" (.builtin "len")) (hg : env.globals = mainGlobals) (hb : env.builtins = builtinsNs) (hk : env.scope.kind = .function) (hx : env.kindOf "len" = some .globalImplicit)
    (he : Ev prog w A env e h (fun u => u = .bytes b tb)) (hz : b.size ≤ 1000) (hs : starEach [e] env = [(false, eval e env)] := by rfl) :
    Ev prog w A env (.Call (.Name "len" p₁) [e] [] pos) h (fun u => ∃ t, u = .int (b.size : Nat) t) := fun s Q E hh k => by
  subst hh
  refine Call_Name1 ((Ev.builtin (v := .builtin "len") bi hg hb hk hx) s _ _ rfl fun v tk e => ?_) hs
  subst e
  refine PySem.callWith_builtin1 (he { s with toks := tk } _ _ rfl fun v tk₂ e => ?_)
  subst e
  exact len_bytes (by omega) (k _ _ ⟨_, rfl⟩)
theorem Ev.bsub {value slice : Expr} {pos : Pos} {h : Heap} {b : Array UInt8} {tb : Tok} {i : Nat} (hv : Ev prog w A env value h (fun u => u = .bytes b tb)) (hs : Ev prog w A env slice h (fun u => ∃ t, u = .int (i : Int) t)) (hi : i < b.size) (hz : b.size ≤ 1000)
    (hs' : ∀ o i, subscripted slice false o i = operate [o, i] (getItem o i) := by intro _ _; with_unfolding_all rfl) :
    Ev prog w A env (.Subscript value slice pos) h (fun u => ∃ t, u = .int ((b.getD i 0).toNat : Nat) t) := fun s Q E hh k => by
  refine Subscript_ (hv s _ _ hh fun o tk e => ?_)
  subst e
  refine hs { s with toks := tk } _ _ hh fun x tk₂ ⟨t, e⟩ => ?_
  subst e
  subst hh
  have := getItem_bytes (prog := prog) (w := w) (A := A) (E := E) (s := { s with toks := tk₂ }) (t := tb) (u := t) (l := b.toList) (i := (i : Int)) (Q := Q) (by simpa using (show b.size ≤ 1099511627776 by omega)) (by omega) (by simpa using hi) ?_
  · refine tail_any (PySem.W.typeIs_bytes _ _ _) FB.slot_bytes_getitem.lookup ?_ (hs' _ _)
    simpa using this
  · have e : (b.toList.getD (i : Int).toNat 0) = b.getD i 0 := by
      rw [Int.toNat_natCast, List.getD_eq_getElem?_getD]
      simp [Array.getElem?_eq_getElem hi]
    rw [e]
    exact k _ _ ⟨_, rfl⟩
/-- `for x in range(..)`, whatever the body does -/
theorem for_range {E : Value → Shared → Prop} {s : Shared} {x : Str} {px pos : Pos} {iter : Expr} {body : List Stmt} {Q : Flow → Shared → Prop} {m₀ : Str → Option Value} {n : Nat} {a b c : Int}
    (J : Nat → (Str → Option Value) → Heap → Prop)
    (hh : A.handled = none) (hx : env.kindOf x = some .local) (hp : (env.scope.kind == .class || (env.scope.kind == .module && env.locals != env.globals)) = false)
    (hiter : ∀ (Q' : Value → Shared → Prop), (∀ r t u v h tk, Kp s.heap h → s.heap.objs.size ≤ h.objs.size → IsRange h r a b c t u v → Q' (.ref r) { s with heap := h, toks := tk }) → wpAny (model prog w) A (eval iter env) Q' E s)
    (hsm : Builtin.Range.small a b c = true) (hrs : Builtin.Range.rangeSize a b c = ((n : Nat) : Int)) (hns : s.heap.Ns env.locals m₀)
    (stable : ∀ i m h h', J i m h → (∀ b o, b < s.heap.objs.size → b ≠ env.locals → h.get? b = some o → h'.get? b = some o) → J i m h')
    (h0 : J 0 m₀ s.heap)
    (step : ∀ i t m h tk I it, i < n → J i m h → h.Ns env.locals (fun y => if y = x then some (.int (a + (i : Nat) * c) t) else m y) → s.heap.objs.size ≤ I → h.get? I = some it → it.cls = .type "range_iterator" →
      wpAny (model prog w) A (execs body env) (fun fl s' => fl = .next ∧ ∃ h' tk' m', s' = { s with heap := h', toks := tk' } ∧ h'.get? I = some it ∧ h'.Ns env.locals m' ∧ J (i + 1) m' h') (fun _ _ => False) { s with heap := h, toks := tk })
    (done : ∀ m h tk, J n m h → h.Ns env.locals m → Q .next { s with heap := h, toks := tk })
    (hs : ∀ x, foldedSetIterable iter env x = pure x := by intro _; rfl) :
    wpAny (model prog w) A (exec (.For (.Name x px) iter body [] pos) env) Q E s := by
  refine wpAny_For (hiter _ fun r t u v h tk k l hr => ?_) hs
  refine wpAny_pyIter_range hr hsm ?_
  rw [hrs]
  dsimp only
  generalize hH : h.push { cls := .type "range_iterator", data := .fields #[rawInt a, rawInt ((n : Nat) : Int), rawInt c] } = H
  have up : ∀ b o, h.get? b = some o → H.get? b = some o := fun b o e => hH ▸ Heap.get?_push_of_some _ e
  have hIL : @Ne Nat h.objs.size env.locals := Nat.ne_of_gt (Nat.lt_of_lt_of_le hns.lt l)
  have hI : IsRangeIter H h.objs.size (a + ((0 : Nat) : Int) * c) ((n : Int) - ((0 : Nat) : Int)) c := by
    rw [← hH]
    simpa using Heap.get?_push_size h rfl
  refine for_walk (s := { s with heap := H, toks := tk }) (n := n) (I := h.objs.size) (P := fun i v => ∃ t, v = .int (a + (i : Nat) * c) t) (St := fun i h' => IsRangeIter h' h.objs.size (a + (i : Nat) * c) ((n : Int) - (i : Nat)) c) (m₀ := m₀) J hx hp hIL ?_ ?_ ?_ ?_ hI ((hns.keeps k).keeps up) (stable _ _ _ _ h0 fun b o _ _ e => up b o (k b o e)) ?_ ?_
  · intro i s' Q' E' hi st m hj kk
    refine wpAny_pyNext_range_item st (by omega) fun h₂ hit₂ hs₂ => kk _ h₂ _ ⟨_, rfl⟩ ?_ fun b o hb e => hs₂.extBut b o hb e
    have e1 : a + ((i + 1 : Nat) : Int) * c = a + (i : Nat) * c + c := by rw [show ((i + 1 : Nat) : Int) = (i : Int) + 1 by push_cast; rfl, Int.add_mul]; omega
    have e2 : (n : Int) - ((i + 1 : Nat) : Int) = (n : Int) - (i : Nat) - 1 := by push_cast; omega
    show IsRangeIter _ _ _ _ _
    rw [e1, e2]
    exact hit₂
  · intro s' Q' E' st m hj kk
    exact wpAny_pyNext_range_end hh st (by omega) fun h₂ he₂ => kk h₂ _ fun b o hb e => he₂ b o hb e
  · intro i h₁ h₂ st kk
    exact kk _ st
  · intro i m h₁ h₂ hj kk
    exact stable i m h₁ h₂ hj fun b o hb hL e => kk b o (Nat.ne_of_lt (Nat.lt_of_lt_of_le hb l)) hL e
  · rintro i v m h₁ tk' hi ⟨t, rfl⟩ hj hn st
    refine wpAny_mono (step i t m h₁ tk' _ _ hi hj hn l st rfl) (fun fl s' ⟨q, h', tk₂, m', q1, q2, q3, q4⟩ => ⟨q, h', tk₂, m', q1, fun o' e' => by rw [show h₁.get? h.objs.size = _ from st] at e'; cases e'; exact q2, q3, q4⟩) fun _ _ q => q
  · intro m h₁ tk' hj hn
    exact done m h₁ tk' hj hn
end
theorem S.weaken {α : Type} {M : Model} {A : Around} {t : Sem α} {Q : α → Shared → Prop} {E : Value → Shared → Prop} {s : Shared} {n u : Nat} (h : wpS M (AX n u) t Q E s) (h1 : A.handled = none) (h2 : A.depth ≤ n) (h3 : A.guards = some []) (h4 : A.units ≤ u) :
    wpS M A t Q E s := fun Γ p hΓ =>
  h Γ p ⟨hΓ.1.trans h1, Nat.le_trans hΓ.2.1 h2, fun l hl => by (cases hl), fun g hg => hΓ.2.2.2.1 g (h3.trans hg), Nat.le_trans hΓ.2.2.2.2 h4⟩
section
variable {prog : Program} {w : World} {A : Around} {env : Env} {E : Value → Shared → Prop} {s : Shared}
theorem sCallT1 {f e : Expr} {pos : Pos} {T : String} {k : Int} {Q : Value → Shared → Prop} (hf : Ev prog w A env f s.heap (fun u => u = .type T)) (he : Ev prog w A env e s.heap (fun u => ∃ t, u = .int k t))
    (h : ∀ t tk, wpS (model prog w) A (call (.type T) [.int k t]) Q E { s with toks := tk })
    (hev : eval (.Call f [e] [] pos) env = (do callWith pos (← eval f env) [] (backTo pos (starEach [e] env)) (backToKw pos (keywordEach [] env))) := by rfl)
    (hs : backTo pos (starEach [e] env) = [(false, eval e env)] := by rfl) :
    wpS (model prog w) A (eval (.Call f [e] [] pos) env) Q E s := by
  rw [hev]
  refine S.bindA (hf s _ _ rfl fun u tk e => ?_)
  subst e
  rw [hs]
  show wpS _ _ (callWith pos (.type T) [] [(false, eval e env)] []) _ _ _
  unfold callWith
  refine S.bindA (wpAny_holding (Calls.evalArgs_plain (Calls.spliced_cons (he { s with toks := tk } _ _ rfl fun u tk₂ ⟨t, e⟩ => Calls.spliced_nil ?_))))
  subst e
  refine S.bindA (wpAny_standAt ?_)
  simp only [List.any_cons, List.any_nil, Bool.or_false]
  refine S.bindA (wpAny_pure ?_)
  refine S.bind (S.mono (h t tk₂) (fun r s₂ hr => ?_) fun _ _ x => x)
  exact S.bindA (wpAny_holding (wpAny_point (S.pure hr)))
end
theorem swap_place {wd i j i' j' : Nat} (hj : j < wd) (hj' : j' < wd) (e : i * wd + (wd - 1 - j) = i' * wd + (wd - 1 - j')) : i = i' ∧ j = j' := by
  have hw : 0 < wd := Nat.lt_of_le_of_lt (Nat.zero_le _) hj
  have lt : ∀ j, wd - 1 - j < wd := fun j => Nat.lt_of_le_of_lt (Nat.sub_le _ _) (Nat.sub_one_lt (Nat.ne_of_gt hw))
  have dv : ∀ i j, (i * wd + (wd - 1 - j)) / wd = i := fun i j => by rw [Nat.mul_comm, Nat.mul_add_div hw, Nat.div_eq_of_lt (lt j)]; rfl
  have h1 : i = i' := by rw [← dv i j, e, dv]
  refine ⟨h1, ?_⟩
  rw [h1] at e
  have h2 := Nat.add_left_cancel e
  rw [← Nat.sub_sub_self (Nat.le_sub_one_of_lt hj), h2, Nat.sub_sub_self (Nat.le_sub_one_of_lt hj')]
theorem swap_lt {wd q i j : Nat} (hi : i < q) (hj : j < wd) : i * wd + j < q * wd :=
  Nat.lt_of_lt_of_le (Nat.add_lt_add_left hj _) (Nat.succ_mul i wd ▸ Nat.mul_le_mul_right _ hi)
/-- turned about by wd, as far as the first i blocks and j bytes of the next -/
noncomputable def SwTo (b r : Array UInt8) (wd i j : Nat) : Prop := ∀ i' j', (i' < i ∧ j' < wd) ∨ (i' = i ∧ j' < j) → r.getD (i' * wd + (wd - 1 - j')) 0 = b.getD (i' * wd + j') 0
theorem SwTo.set {b r : Array UInt8} {wd i j : Nat} {v : UInt8} (h : SwTo b r wd i j) (hj : j < wd) (hv : v = b.getD (i * wd + j) 0) (hl : i * wd + (wd - 1 - j) < r.size) : SwTo b (r.setIfInBounds (i * wd + (wd - 1 - j)) v) wd i (j + 1) := by
  intro i' j' c
  have hj' : j' < wd := c.elim (fun c => c.2) fun c => Nat.lt_of_lt_of_le c.2 hj
  by_cases e : i' = i ∧ j' = j
  · rw [e.1, e.2, ← hv]
    simp [Array.getD_eq_getD_getElem?, hl]
  · have hne : i * wd + (wd - 1 - j) ≠ i' * wd + (wd - 1 - j') := fun q => e ⟨(swap_place hj hj' q).1.symm, (swap_place hj hj' q).2.symm⟩
    rw [← h i' j' (c.imp id fun c => ⟨c.1, Nat.lt_of_le_of_ne (Nat.le_of_lt_succ c.2) fun q => e ⟨c.1, q⟩⟩)]
    simp [Array.getD_eq_getD_getElem?, Array.getElem?_setIfInBounds, hne]
theorem SwTo.next {b r : Array UInt8} {wd i : Nat} (h : SwTo b r wd i wd) : SwTo b r wd (i + 1) 0 := fun i' j' c => h i' j' (c.elim (fun c => (Nat.lt_or_eq_of_le (Nat.le_of_lt_succ c.1)).imp (fun q => ⟨q, c.2⟩) fun q => ⟨q, c.2⟩) fun c => absurd c.2 (Nat.not_lt_zero _))
theorem sw_zero (b r : Array UInt8) (wd : Nat) : SwTo b r wd 0 0 := fun i' j' c => by omega
theorem callT3 {prog : Program} {w : World} {A : Around} {env : Env} {E : Value → Shared → Prop} {s : Shared} {f e1 e2 e3 : Expr} {pos : Pos} {T : String} {P1 P2 P3 : Value → Prop} {Q : Value → Shared → Prop} (hf : Ev prog w A env f s.heap (fun u => u = .type T)) (h1 : Ev prog w A env e1 s.heap P1) (h2 : Ev prog w A env e2 s.heap P2) (h3 : Ev prog w A env e3 s.heap P3)
    (h : ∀ v1 v2 v3 tk, P1 v1 → P2 v2 → P3 v3 → wpAny (model prog w) A (call (.type T) [v1, v2, v3]) Q E { s with toks := tk })
    (he : eval (.Call f [e1, e2, e3] [] pos) env = (do callWith pos (← eval f env) [] (backTo pos (starEach [e1, e2, e3] env)) (backToKw pos (keywordEach [] env))) := by rfl)
    (hs : backTo pos (starEach [e1, e2, e3] env) = [(false, eval e1 env), (false, eval e2 env), (false, eval e3 env)] := by rfl) :
    wpAny (model prog w) A (eval (.Call f [e1, e2, e3] [] pos) env) Q E s := by
  refine PyProof.Rows.Call_ (hf s _ _ rfl fun u tk e => ?_) he
  subst e
  rw [hs]
  exact PySem.callWith_type rfl (Calls.evalArgs_plain (Calls.spliced_cons (h1 { s with toks := tk } _ _ rfl fun u tk₃ e => Calls.spliced_cons (h2 { s with toks := tk₃ } _ _ rfl fun u' tk₄ e' => Calls.spliced_cons (h3 { s with toks := tk₄ } _ _ rfl fun u'' tk₅ e'' => Calls.spliced_nil (h u u' u'' tk₅ e e' e''))))))
theorem swap_spec {prog : Program} {w : World} {p loose mean mg mb} {s : Shared} {b : Array UInt8} {tb tw : Tok} {wd q : Nat} {Q E : Value → Shared → Prop}
    (X : (hd.heap_1 w.params).In s.heap) (T : Top p loose mean mg mb s.heap) (hsz : b.size = q * wd) (hw : 1 ≤ wd) (hw2 : wd ≤ 1000) (hz : b.size ≤ 1000)
    (ret : ∀ (r : Array UInt8) (t : Tok) (h' : Heap) (tk' : Nat), Kp s.heap h' → r.size = b.size → (∀ i j, i < q → j < wd → r.getD (i * wd + (wd - 1 - j)) 0 = b.getD (i * wd + j) 0) → Q (.bytes r t) { s with heap := h', toks := tk' }) :
    wpS (model prog w) (AX 700 5000) (call (.ref 21) [.bytes b tb, .int (wd : Nat) tw]) Q E s := by
  have bR : Bi s.heap "range" (.type "range") := Bi.of X T (by k_is) boot_range (by decide)
  have bL : Bi s.heap "len" (.builtin "len") := Bi.of X T (by k_is) (by first | exact boot_len | rfl) (by decide)
  have bA : Bi s.heap "bytearray" (.type "bytearray") := Bi.of X T (by k_is) (by rfl) (by decide)
  have bB : Bi s.heap "bytes" (.type "bytes") := Bi.of X T (by k_is) (by rfl) (by decide)
  refine' sEnter X (Top.nolimit T) ?k6 ?k7 ?k8 ?k9 ?kB ?kD ?_ ?c2 ?c3 ?c4
  (case k6 => k_is)
  (case k7 => k_is)
  (case k8 => decide)
  (case k9 => exact BindsTo.of_eq rfl)
  (case kB => exact rfl)
  (case kD => decide +kernel)
  (case c2 => exact rfl)
  (case c3 => exact rfl)
  (case c4 => exact rfl)
  intro L h₁ tk₁ cells hL F₁ N₁ Y
  have k₁ := F₁.keep
  refine gg fun P hP => ?_
  obtain ⟨m₁, n1, e1, e2⟩ : ∃ m₁, h₁.Ns L m₁ ∧ m₁ "data" = some (.bytes b tb) ∧ m₁ "width" = some (.int (wd : Nat) tw) := ⟨_, F₁.ns, rfl, rfl⟩
  refine hP ?_
  clear hP
  clear N₁ Y F₁
  have lL : s.heap.objs.size ≤ L := Nat.le_of_eq hL.symm
  refine S.execs_cons (S.Assign_Name ?_)
  refine sCallT1 (s := { s with heap := h₁, toks := tk₁ }) (Ev.builtin (bA.keeps k₁) rfl rfl rfl rfl) (Ev.lenB (bL.keeps k₁) rfl rfl rfl rfl (Ev.local n1 e1 rfl rfl) hz) fun t₂ tk₂ => ?_
  refine ba_call (n := b.size) rfl hz fun h₂ d₂ z₂ k₂ => ?_
  dsimp only at d₂ z₂ k₂
  refine wpAny_storeName_local rfl (n1.keeps k₂) (fun h₃ n3 s3 => ?_) rfl
  refine S.any ?_
  have hDL : @Ne Nat h₁.objs.size L := Nat.ne_of_gt (show L < h₁.objs.size from n1.lt)
  generalize hD : h₁.objs.size = D at *
  have d₃ : h₃.get? D = some (baO (Array.replicate b.size 0)) := s3.extBut _ _ hDL d₂
  have hlD : s.heap.objs.size ≤ D := Nat.le_of_lt (Nat.lt_of_le_of_lt lL (hD ▸ n1.lt))
  have k₃ : Kp s.heap h₃ := fun b' o e => s3.extBut _ _ (Nat.ne_of_lt (Nat.lt_of_lt_of_le (Heap.lt_size e) lL)) (k₂ _ _ (k₁ _ _ e))
  have hD3 : D < h₃.objs.size := Heap.lt_size d₃
  have hqw : q ≤ q * wd := Nat.le_mul_of_pos_right _ hw
  have hrs1 : Builtin.Range.rangeSize 0 ((b.size : Nat) : Int) (wd : Nat) = ((q : Nat) : Int) := by
    rw [rangeSize_pos (by omega) (by omega), hsz]
    push_cast
    rw [show ((q : Int) * (wd : Int) + wd - 1) = ((wd : Int) - 1) + q * wd by omega, Int.add_mul_ediv_right _ _ (by omega), Int.ediv_eq_zero_of_lt (by omega) (by omega)]
    omega
  have hrs2 : Builtin.Range.rangeSize 0 ((wd : Nat) : Int) 1 = ((wd : Nat) : Int) := by
    rw [rangeSize_pos (by omega) (by omega)]
    simp
  have hsm1 : Builtin.Range.small 0 ((b.size : Nat) : Int) (wd : Nat) = true := small_nat hz hw hw2 hrs1 (Nat.le_trans hqw (hsz ▸ hz))
  have hsm2 : Builtin.Range.small 0 ((wd : Nat) : Int) 1 = true := small_nat (c := 1) hw2 (by decide) (by decide) hrs2 hw2
  refine wpAny_execs_cons ?_
  show wpAny _ _ _ _ _ { s with heap := h₃, toks := tk₂ + 1 }
  generalize tk₂ + 1 = tk₃
  refine gg fun P hP => ?_
  obtain ⟨m₃, n3', f1, f2, f3⟩ : ∃ m₃ : Str → Option Value, h₃.Ns L m₃ ∧ m₃ "data" = some (.bytes b tb) ∧ m₃ "width" = some (.int (wd : Nat) tw) ∧ m₃ "swapped_data" = some (.ref D) := by
    refine ⟨_, n3, ?_, ?_, ?_⟩
    · rw [if_neg (by decide)]; exact e1
    · rw [if_neg (by decide)]; exact e2
    · rw [if_pos rfl]
  refine hP ?_
  clear hP
  clear n3
  obtain ⟨J, hJ⟩ : ∃ J : Nat → (Str → Option Value) → Heap → Prop, ∀ i m h, J i m h ↔ (Kp s.heap h ∧ m "data" = some (.bytes b tb) ∧ m "width" = some (.int (wd : Nat) tw) ∧ m "swapped_data" = some (.ref D) ∧ ∃ r, h.get? D = some (baO r) ∧ r.size = b.size ∧ SwTo b r wd i 0) := ⟨_, fun _ _ _ => Iff.rfl⟩
  refine for_range (s := { s with heap := h₃, toks := tk₃ }) (n := q) (a := 0) (b := ((b.size : Nat) : Int)) (c := (wd : Nat)) J
    rfl rfl rfl ?_ hsm1 hrs1 n3' ?_ ?_ ?_ ?_
  · intro Q' hQ
    refine callT3 (s := { s with heap := h₃, toks := tk₃ }) (Ev.builtin (v := .type "range") (bR.keeps k₃) rfl rfl rfl rfl) Ev.int (Ev.lenB (bL.keeps k₃) rfl rfl rfl rfl (Ev.local n3' f1 rfl rfl) hz) (Ev.local n3' f2 rfl rfl) fun u u' u'' tk₄ ⟨t5, e5⟩ ⟨t6, e6⟩ e7 => ?_
    subst e5 e6 e7
    refine call_range_3 (by omega) (hQ _ _ _ _ _ _ (fun _ _ e => Heap.get?_push_of_some _ e) ?_ (Heap.get?_push_size _ rfl)) ?_
    · rw [Heap.size_push]; exact Nat.le_succ _
    · exact Or.inl (PyProof.noPylong_small (by omega))
  · intro i m h h' qq0 kk
    refine gg fun P hP => ?_
    obtain ⟨a0, a1, a2, a3, r, a4, a5, a6⟩ := (hJ _ _ _).mp qq0
    refine hP ?_
    clear hP
    exact (hJ _ _ _).mpr ⟨fun b' o e => kk b' o (Nat.lt_of_lt_of_le (Heap.lt_size e) (Nat.le_of_lt (Nat.lt_of_le_of_lt hlD hD3))) (Nat.ne_of_lt (Nat.lt_of_lt_of_le (Heap.lt_size e) lL)) (a0 b' o e), a1, a2, a3, r, kk D _ hD3 hDL a4, a5, a6⟩
  · exact (hJ _ _ _).mpr ⟨k₃, f1, f2, f3, _, d₃, by simp, sw_zero _ _ _⟩
  · intro i t m h tk I it hi qq0 hn hI hit hitc
    refine gg fun P hP => ?_
    obtain ⟨a0, a1, a2, a3, r, a4, a5, a6⟩ := (hJ _ _ _).mp qq0
    refine hP ?_
    clear hP
    have hDI : @Ne Nat D I := Nat.ne_of_lt (Nat.lt_of_lt_of_le hD3 hI)
    have hIL : @Ne Nat I L := Nat.ne_of_gt (show L < I from Nat.lt_of_lt_of_le n3'.lt hI)
    refine gg fun P hP => ?_
    obtain ⟨m', hm', c1, c2, c3, c4⟩ : ∃ m' : Str → Option Value, h.Ns L m' ∧ m' "data" = some (.bytes b tb) ∧ m' "width" = some (.int (wd : Nat) tw) ∧ m' "swapped_data" = some (.ref D) ∧ m' "i" = some (.int ((i * wd : Nat) : Int) t) := by
      refine ⟨_, hn, ?_, ?_, ?_, ?_⟩
      · rw [if_neg (by decide)]; exact a1
      · rw [if_neg (by decide)]; exact a2
      · rw [if_neg (by decide)]; exact a3
      · rw [if_pos rfl]; push_cast; rw [Int.zero_add]
    refine hP ?_
    clear hP
    clear hn
    have hDh : D < h.objs.size := Heap.lt_size a4
    have hIh : I < h.objs.size := Heap.lt_size hit
    refine wpAny_execs_cons ?_
    obtain ⟨J₂, hJ₂⟩ : ∃ J : Nat → (Str → Option Value) → Heap → Prop, ∀ j m h, J j m h ↔ (Kp s.heap h ∧ m "data" = some (.bytes b tb) ∧ m "width" = some (.int (wd : Nat) tw) ∧ m "swapped_data" = some (.ref D) ∧ m "i" = some (.int ((i * wd : Nat) : Int) t) ∧ h.get? I = some it ∧ ∃ r, h.get? D = some (baO r) ∧ r.size = b.size ∧ SwTo b r wd i j) := ⟨_, fun _ _ _ => Iff.rfl⟩
    refine for_range (s := { s with heap := h, toks := tk }) (n := wd) (a := 0) (b := (wd : Nat)) (c := 1) J₂
      rfl rfl rfl ?_ hsm2 hrs2 hm' ?_ ?_ ?_ ?_
    · intro Q' hQ
      refine Call_Name1 ((Ev.go (s := s) (Ev.builtin (v := .type "range") (bR.keeps a0) rfl rfl rfl rfl) fun tk₄ => ?_))
      refine PySem.callWith_type1 ((Ev.go (s := s) (Ev.local hm' c2 rfl rfl) fun tk₅ => ?_))
      refine call_range_1 (hQ _ _ _ _ _ _ (fun _ _ e => Heap.get?_push_of_some _ e) ?_ (Heap.get?_push_size _ rfl))
      rw [Heap.size_push]; exact Nat.le_succ _
    · intro j m h' h'' qq0 kk
      refine gg fun P hP => ?_
      obtain ⟨b0, b1, b2, b3, b4, b5, r, b6, b7, b8⟩ := (hJ₂ _ _ _).mp qq0
      refine hP ?_
      clear hP
      exact (hJ₂ _ _ _).mpr ⟨fun b' o e => kk b' o (Nat.lt_of_lt_of_le (Heap.lt_size e) (Nat.le_of_lt (Nat.lt_of_le_of_lt hlD hDh))) (Nat.ne_of_lt (Nat.lt_of_lt_of_le (Heap.lt_size e) lL)) (b0 b' o e), b1, b2, b3, b4, kk I _ hIh hIL b5, r, kk D _ hDh hDL b6, b7, b8⟩
    · exact (hJ₂ _ _ _).mpr ⟨a0, c1, c2, c3, c4, hit, r, a4, a5, a6⟩
    · intro j tj m h' tk' I' it' hj qq0 hn' hI' hit' hitc'
      refine gg fun P hP => ?_
      obtain ⟨b0, b1, b2, b3, b4, b5, r, b6, b7, b8⟩ := (hJ₂ _ _ _).mp qq0
      refine hP ?_
      clear hP
      have hij := swap_lt (wd := wd) hi hj
      have hij' := swap_lt (wd := wd) (j := wd - 1 - j) hi (by omega)
      refine gg fun P hP => ?_
      obtain ⟨m'', hm'', g1, g2, g3, g4, g5⟩ : ∃ m' : Str → Option Value, h'.Ns L m' ∧ m' "data" = some (.bytes b tb) ∧ m' "width" = some (.int (wd : Nat) tw) ∧ m' "swapped_data" = some (.ref D) ∧ m' "i" = some (.int ((i * wd : Nat) : Int) t) ∧ m' "j" = some (.int (j : Int) tj) := by
        refine ⟨_, hn', ?_, ?_, ?_, ?_, ?_⟩
        · rw [if_neg (by decide)]; exact b1
        · rw [if_neg (by decide)]; exact b2
        · rw [if_neg (by decide)]; exact b3
        · rw [if_neg (by decide)]; exact b4
        · rw [if_pos rfl]; simp
      refine hP ?_
      clear hP
      clear hn'
      refine wpAny_execs_cons (wpAny_Assign_Subscript ?_)
      refine Ev.goI (s := s) (Ev.bsub (h := h') (i := i * wd + j) (Ev.local hm'' g1 rfl rfl) ((Ev.add (Ev.local hm'' g4 rfl rfl |>.mono fun v e => ⟨_, e⟩) (Ev.local hm'' g5 rfl rfl |>.mono fun v e => ⟨_, e⟩)).mono fun v ⟨t', e⟩ => ⟨t', e.trans (by push_cast; rfl)⟩) (by rw [hsz]; exact hij) hz) fun t4 tk₄ => ?_
      refine Ev.go (s := s) (Ev.local hm'' g3 rfl rfl) fun tk₅ => ?_
      refine Ev.goI (s := s) (Ev.isub (h := h') (Ev.isub (Ev.add (Ev.local hm'' g4 rfl rfl |>.mono fun v e => ⟨_, e⟩) (Ev.local hm'' g2 rfl rfl |>.mono fun v e => ⟨_, e⟩)) Ev.int) (Ev.local hm'' g5 rfl rfl |>.mono fun v e => ⟨_, e⟩)) fun t6 tk₆ => ?_
      have hk : (((i * wd : Nat) : Int) + (wd : Nat) - 1 - (j : Int)) = ((i * wd + (wd - 1 - j) : Nat) : Int) := by omega
      rw [hk]
      refine ba_setItem (s := { s with heap := h', toks := tk₆ }) b6 (by omega) (by omega) (by rw [b7, hsz]; exact Int.ofNat_lt.mpr hij') (by omega) (by have := (b.getD (i * wd + j) 0).toNat_lt; omega) fun h₅ d₅ z₅ u₅ => ?_
      rw [Int.toNat_natCast] at d₅
      have hu : ((((b.getD (i * wd + j) 0).toNat : Nat) : Int)).toNat.toUInt8 = b.getD (i * wd + j) 0 := by rw [Int.toNat_natCast]; exact UInt8.ofNat_toNat
      rw [hu] at d₅
      have ne1 : ∀ b' o, s.heap.get? b' = some o → b' ≠ D := fun b' o e => Nat.ne_of_lt (Nat.lt_of_lt_of_le (Heap.lt_size e) hlD)
      refine wpAny_execs_nil ⟨rfl, h₅, _, m'', rfl, ?_, hm''.at' (fun o e => u₅ _ _ (Ne.symm hDL) e), (hJ₂ _ _ _).mpr ⟨fun b' o e => u₅ _ _ (ne1 b' o e) (b0 b' o e), g1, g2, g3, g4, u₅ _ _ (Ne.symm hDI) b5, _, d₅, by simpa using b7, b8.set hj rfl (by rw [b7, hsz]; exact hij')⟩⟩
      exact u₅ _ _ (Nat.ne_of_gt (show D < I' from Nat.lt_of_lt_of_le hDh hI')) hit'
    · intro m h' tk' qq0 hn'
      refine gg fun P hP => ?_
      obtain ⟨b0, b1, b2, b3, b4, b5, r, b6, b7, b8⟩ := (hJ₂ _ _ _).mp qq0
      refine hP ?_
      clear hP
      exact wpAny_execs_nil ⟨rfl, h', tk', m, rfl, b5, hn', (hJ _ _ _).mpr ⟨b0, b1, b2, b3, r, b6, b7, b8.next⟩⟩
  · intro m h tk qq0 hn
    refine gg fun P hP => ?_
    obtain ⟨a0, a1, a2, a3, r, a4, a5, a6⟩ := (hJ _ _ _).mp qq0
    refine hP ?_
    clear hP
    refine wpAny_execs_cons (wpAny_Return_some ?_)
    refine Call_Name1 ((Ev.go (s := s) (Ev.builtin (v := .type "bytes") (bB.keeps a0) rfl rfl rfl rfl) fun tk₄ => ?_))
    refine PySem.callWith_type1 ((Ev.go (s := s) (Ev.local hn a3 rfl rfl) fun tk₅ => ?_))
    refine ba_bytes (s := { s with heap := h, toks := tk₅ }) a4 (by omega) fun t tk₆ => ?_
    exact ret r t h tk₆ a0 a5 fun i j hi hj => a6 i j (.inl ⟨hi, hj⟩)
namespace Kids
noncomputable def app : Kids → Kids → Kids
  | nil, K => K
  | step i d j r, K => step i d j (r.app K)
  | loop a r, K => loop a (r.app K)
theorem app_texts (ns : List Int) : ∀ a b : Kids, (a.app b).texts ns = a.texts ns ++ b.texts ns
  | nil, _ => rfl
  | step i d j r, b => by simp [app, texts, app_texts ns r b]
  | loop a r, b => by simp [app, texts, app_texts ns r b]
theorem app_dep : ∀ a b : Kids, (a.app b).dep = max a.dep b.dep
  | nil, _ => by simp [app, dep]
  | step i d j r, b => by simp only [app, dep, app_dep r b, Nat.max_assoc]
  | loop a r, b => by simp only [app, dep, app_dep r b, Nat.max_assoc]
theorem max_add_le {a b c d : Nat} (h1 : a + c ≤ d) (h2 : b + c ≤ d) : max a b + c ≤ d := by
  rcases Nat.le_total a b with q | q
  · rw [Nat.max_eq_right q]; exact h2
  · rw [Nat.max_eq_left q]; exact h1
theorem app_sz : ∀ a b : Kids, (a.app b).sz = a.sz + b.sz
  | nil, _ => by simp [app, sz]
  | step i d j r, b => by simp only [app, sz, app_sz r b]; exact Nat.add_right_comm _ _ _
  | loop a r, b => by simp only [app, sz, app_sz r b]; rw [← Nat.add_assoc]; exact Nat.add_right_comm _ _ _
theorem app_ok : ∀ a b : Kids, a.ok → b.ok → (a.app b).ok
  | nil, _, _, h => h
  | step i d j r, b, h, h' => ⟨h.1, h.2.1, h.2.2.1, h.2.2.2.1, app_ok r b h.2.2.2.2 h'⟩
  | loop a r, b, h, h' => ⟨h.1, app_ok r b h.2 h'⟩
/-- the innermost one's end is laid in the one around it, and so on -/
noncomputable def collapse : List Kids → Kids
  | [] => nil
  | [k] => k
  | k :: k' :: r => collapse ((k'.app (loop k nil)) :: r)
termination_by l => l.length
/-- the open ones, the innermost first: how many texts, nodes; how deep -/
noncomputable def tl : List Kids → Nat
  | [] => 0
  | k :: r => (k.texts []).length * 2 ^ r.length + tl r
noncomputable def zl : List Kids → Nat
  | [] => 0
  | k :: r => k.sz + (if r = [] then 0 else 1) + zl r
noncomputable def dl : List Kids → Prop
  | [] => True
  | k :: r => k.dep + r.length ≤ 3 ∧ dl r
theorem texts_len (ns ms : List Int) : ∀ K : Kids, (K.texts ns).length = (K.texts ms).length
  | nil => rfl
  | step i d j r => by simp [texts, texts_len ns ms r]
  | loop a r => by simp [texts, texts_len ns ms r, texts_len ns ms a]
theorem tl_pop (k k' : Kids) (r : List Kids) : tl ((k'.app (loop k nil)) :: r) = tl (k :: k' :: r) := by
  simp only [tl, app_texts, List.length_append, texts, List.length_nil, List.length_cons, Nat.pow_succ]
  have e1 : (k.texts []).length * (2 ^ r.length * 2) = (k.texts []).length * 2 ^ r.length * 2 := by rw [Nat.mul_assoc]
  rw [e1, Nat.add_zero, Nat.add_mul, Nat.add_mul]
  omega
theorem zl_pop (k k' : Kids) (r : List Kids) : zl ((k'.app (loop k nil)) :: r) = zl (k :: k' :: r) := by
  simp only [zl, app_sz, sz]
  simp
  omega
theorem dl_pop {k k' : Kids} {r : List Kids} (h : dl (k :: k' :: r)) : dl ((k'.app (loop k nil)) :: r) := by
  simp only [dl, app_dep, dep, List.length_cons] at h ⊢
  exact ⟨max_add_le h.2.1 (max_add_le (by rw [Nat.add_right_comm]; exact h.1) (Nat.le_trans (Nat.add_le_add_right (Nat.zero_le _) _) h.2.1)), h.2.2⟩
structure SInv (n : Nat) (st : List Kids) : Prop where
  ne : st ≠ []
  len : st.length ≤ 3
  tl : Kids.tl st ≤ 4 * n
  zl : n ≤ Kids.zl st ∧ Kids.zl st ≤ 2 * n
  dl : Kids.dl st
  ok : ∀ k ∈ st, k.ok
theorem SInv.start : SInv 0 [nil] := ⟨by simp, by simp, by simp [Kids.tl, texts], by simp [Kids.zl, sz], by simp [Kids.dl, dep], by simp [Kids.ok]⟩
theorem SInv.step {n : Nat} {k : Kids} {r : List Kids} {i d j : Nat} (h : SInv n (k :: r)) (hi : i < 4) (hd : d < 7) (hj : j < 4) (hij : i ≠ j) : SInv (n + 1) (k.app (.step i d j .nil) :: r) := by
  obtain ⟨_, hl, ht, hz, hdl, hok⟩ := h
  simp only [Kids.tl, Kids.zl, Kids.dl, List.length_cons] at hl ht hz hdl
  refine ⟨by simp, by simpa using hl, ?_, ?_, ?_, ?_⟩
  · simp only [Kids.tl, app_texts, List.length_append, texts, List.length_cons, List.length_nil]
    rw [Nat.add_mul]
    have : 2 ^ r.length ≤ 4 := Nat.pow_le_pow_right (n := 2) (by decide) (show r.length ≤ 2 by omega)
    omega
  · simp only [Kids.zl, app_sz, sz]
    omega
  · simp only [Kids.dl, app_dep, dep]
    exact ⟨max_add_le hdl.1 (max_add_le (Nat.add_comm 1 _ ▸ hl) (Nat.le_trans (Nat.add_le_add_right (Nat.zero_le _) _) hdl.1)), hdl.2⟩
  · intro k' hk'
    rcases List.mem_cons.mp hk' with rfl | hk'
    · exact app_ok _ _ (hok _ (.head _)) ⟨hi, hd, hj, hij, trivial⟩
    · exact hok _ (.tail _ hk')
/-- opening a loop and laying a step in it -/
theorem SInv.push {n : Nat} {st : List Kids} {i d j : Nat} (h : SInv n st) (hl3 : st.length < 3) (hi : i < 4) (hd : d < 7) (hj : j < 4) (hij : i ≠ j) : SInv (n + 1) (.step i d j .nil :: st) := by
  obtain ⟨hne, hl, ht, hz, hdl, hok⟩ := h
  refine ⟨by simp, by simp only [List.length_cons]; omega, ?_, ?_, ?_, ?_⟩
  · simp only [Kids.tl, texts, List.length_cons, List.length_nil, Nat.one_mul, Nat.zero_add]
    have : 2 ^ st.length ≤ 4 := Nat.pow_le_pow_right (n := 2) (by decide) (show st.length ≤ 2 by omega)
    omega
  · simp only [Kids.zl, sz]
    rw [if_neg hne]
    omega
  · simp only [Kids.dl, dep]
    exact ⟨max_add_le (Nat.add_comm 1 _ ▸ hl3) (Nat.le_trans (Nat.add_le_add_right (Nat.zero_le 1) _) (Nat.add_comm 1 _ ▸ hl3)), hdl⟩
  · intro k' hk'
    rcases List.mem_cons.mp hk' with rfl | hk'
    · exact ⟨hi, hd, hj, hij, trivial⟩
    · exact hok _ hk'
theorem SInv.pop {n : Nat} {k k' : Kids} {r : List Kids} (h : SInv n (k :: k' :: r)) : SInv n (k'.app (.loop k .nil) :: r) := by
  obtain ⟨_, hl, ht, hz, hdl, hok⟩ := h
  refine ⟨by simp, by simp only [List.length_cons] at hl ⊢; omega, by rw [tl_pop]; exact ht, by rw [zl_pop]; exact hz, dl_pop hdl, ?_⟩
  intro q hq
  rcases List.mem_cons.mp hq with rfl | hq
  · exact app_ok _ _ (hok _ (.tail _ (.head _))) ⟨hok _ (.head _), trivial⟩
  · exact hok _ (.tail _ (.tail _ hq))
end Kids
section
variable {prog : Program} {w : World} {ns : List Int}
/-- as KidsAt, the lists of all things among S -/
noncomputable def KidsIn (prog : Program) (w : World) (ns : List Int) (h : Heap) (S : Addr → Prop) : List Value → Kids → Prop
  | vs, .nil => vs = []
  | vs, .step i d j r => ∃ (t ka : Addr) (vs' : List Value), vs = .ref t :: vs' ∧ S ka ∧ Th prog w h t "step" (stText ns i d j) 1 .none ka ∧ ListAt h ka [] ∧ KidsIn prog w ns h S vs' r
  | vs, .loop a r => ∃ (t ka : Addr) (ws vs' : List Value), vs = .ref t :: vs' ∧ S ka ∧ Th prog w h t "loop" "" 2 .none ka ∧ ListAt h ka ws ∧ KidsIn prog w ns h S ws a ∧ KidsIn prog w ns h S vs' r
theorem ListAt.lt {h : Heap} {a : Addr} {xs : List Value} (x : ListAt h a xs) : a < h.objs.size := by obtain ⟨_, e⟩ := x; exact Heap.lt_size e
theorem KidsIn.upd {h h' : Heap} {S : Addr → Prop} {pka : Addr} (u : Upd pka h h') (l : Mut h pka) (hS : ¬ S pka) : ∀ {K : Kids} {vs : List Value}, KidsIn prog w ns h S vs K → KidsIn prog w ns h' S vs K
  | .nil, _, x => x
  | .step i d j r, _, x => by obtain ⟨t, ka, vs', e, lk, th, la, q⟩ := x; exact ⟨t, ka, vs', e, lk, th.upd u l, u.list (fun z => hS (z ▸ lk)) la, KidsIn.upd u l hS q⟩
  | .loop a r, _, x => by obtain ⟨t, ka, ws, vs', e, lk, th, la, q, q'⟩ := x; exact ⟨t, ka, ws, vs', e, lk, th.upd u l, u.list (fun z => hS (z ▸ lk)) la, KidsIn.upd u l hS q, KidsIn.upd u l hS q'⟩
theorem KidsIn.keeps {h h' : Heap} {S : Addr → Prop} (k : Kp h h') : ∀ {K : Kids} {vs : List Value}, KidsIn prog w ns h S vs K → KidsIn prog w ns h' S vs K
  | .nil, _, x => x
  | .step i d j r, _, x => by obtain ⟨t, ka, vs', e, lk, th, la, q⟩ := x; exact ⟨t, ka, vs', e, lk, th.keeps k, la.keeps k, KidsIn.keeps k q⟩
  | .loop a r, _, x => by obtain ⟨t, ka, ws, vs', e, lk, th, la, q, q'⟩ := x; exact ⟨t, ka, ws, vs', e, lk, th.keeps k, la.keeps k, KidsIn.keeps k q, KidsIn.keeps k q'⟩
theorem KidsIn.mono {h : Heap} {S S' : Addr → Prop} (hS : ∀ a, a < h.objs.size → S a → S' a) : ∀ {K : Kids} {vs : List Value}, KidsIn prog w ns h S vs K → KidsIn prog w ns h S' vs K
  | .nil, _, x => x
  | .step i d j r, _, x => by obtain ⟨t, ka, vs', e, lk, th, la, q⟩ := x; exact ⟨t, ka, vs', e, hS _ la.lt lk, th, la, KidsIn.mono hS q⟩
  | .loop a r, _, x => by obtain ⟨t, ka, ws, vs', e, lk, th, la, q, q'⟩ := x; exact ⟨t, ka, ws, vs', e, hS _ la.lt lk, th, la, KidsIn.mono hS q, KidsIn.mono hS q'⟩
theorem KidsIn.app {h : Heap} {S : Addr → Prop} {K' : Kids} {ws' : List Value} (y : KidsIn prog w ns h S ws' K') : ∀ {K : Kids} {vs : List Value}, KidsIn prog w ns h S vs K → KidsIn prog w ns h S (vs ++ ws') (K.app K')
  | .nil, _, x => by rw [show _ = [] from x]; exact y
  | .step i d j r, _, x => by
    obtain ⟨t, ka, vs', rfl, lk, th, la, q⟩ := x
    exact ⟨t, ka, vs' ++ ws', rfl, lk, th, la, KidsIn.app y q⟩
  | .loop a r, _, x => by
    obtain ⟨t, ka, ws, vs', rfl, lk, th, la, q, q'⟩ := x
    exact ⟨t, ka, ws, vs' ++ ws', rfl, lk, th, la, q, KidsIn.app y q'⟩
theorem KidsIn.at {h : Heap} {S : Addr → Prop} : ∀ {K : Kids} {vs : List Value}, KidsIn prog w ns h S vs K → KidsAt prog w ns h 0 vs K
  | .nil, _, x => x
  | .step i d j r, _, x => by obtain ⟨t, ka, vs', e, lk, th, la, q⟩ := x; exact ⟨t, ka, vs', e, Nat.zero_le _, th, la, KidsIn.at q⟩
  | .loop a r, _, x => by obtain ⟨t, ka, ws, vs', e, lk, th, la, q, q'⟩ := x; exact ⟨t, ka, ws, vs', e, Nat.zero_le _, th, la, KidsIn.at q, KidsIn.at q'⟩
theorem KidsIn.step1 {h : Heap} {S : Addr → Prop} {t ka : Addr} {i d j : Nat} (th : Th prog w h t "step" (stText ns i d j) 1 .none ka) (la : ListAt h ka []) (hS : S ka) : KidsIn prog w ns h S [.ref t] (.step i d j .nil) := ⟨t, ka, [], rfl, hS, th, la, rfl⟩
theorem KidsIn.loop1 {h : Heap} {S : Addr → Prop} {t ka : Addr} {ws : List Value} {K : Kids} (th : Th prog w h t "loop" "" 2 .none ka) (la : ListAt h ka ws) (hS : S ka) (q : KidsIn prog w ns h S ws K) : KidsIn prog w ns h S [.ref t] (.loop K .nil) := ⟨t, ka, ws, [], rfl, hS, th, la, q, rfl⟩
/-- the open things, the innermost first -/
noncomputable def OpenAt (prog : Program) (w : World) (ns : List Int) (h : Heap) (S : Addr → Prop) (vl : Value) : List Value → List (Addr × Addr) → List Kids → Prop
  | ex, [(t, ka)], [K] => (∃ vs, ListAt h ka (vs ++ ex) ∧ KidsIn prog w ns h S vs K) ∧ Th prog w h t "sheet" "" 1 vl ka
  | ex, (t, ka) :: (t', ka') :: r, K :: R => ((∃ vs, ListAt h ka (vs ++ ex) ∧ KidsIn prog w ns h S vs K) ∧ Th prog w h t "loop" "" 2 .none ka) ∧ OpenAt prog w ns h S vl [.ref t] ((t', ka') :: r) R
  | _, _, _ => False
theorem OpenAt.upd {h h' : Heap} {S : Addr → Prop} {vl : Value} {pka : Addr} (u : Upd pka h h') (l : Mut h pka) (hS : ¬ S pka) : ∀ {ts : List (Addr × Addr)} {ex : List Value} {st : List Kids}, pka ∉ ts.map (·.2) → OpenAt prog w ns h S vl ex ts st → OpenAt prog w ns h' S vl ex ts st
  | [(t, ka)], ex, [K], hp, x => by
    obtain ⟨⟨vs, a, b⟩, c⟩ := x
    exact ⟨⟨vs, u.list (fun e => hp (by simp [e])) a, b.upd u l hS⟩, c.upd u l⟩
  | (t, ka) :: (t', ka') :: r, ex, K :: R, hp, x => by
    obtain ⟨⟨⟨vs, a, b⟩, c⟩, d⟩ := x
    exact ⟨⟨⟨vs, u.list (fun e => hp (by simp [e])) a, b.upd u l hS⟩, c.upd u l⟩, OpenAt.upd u l hS (fun e => hp (List.mem_cons_of_mem _ e)) d⟩
theorem OpenAt.keeps {h h' : Heap} {S : Addr → Prop} {vl : Value} (k : Kp h h') : ∀ {ts : List (Addr × Addr)} {ex : List Value} {st : List Kids}, OpenAt prog w ns h S vl ex ts st → OpenAt prog w ns h' S vl ex ts st
  | [(t, ka)], ex, [K], x => by
    obtain ⟨⟨vs, a, b⟩, c⟩ := x
    exact ⟨⟨vs, a.keeps k, b.keeps k⟩, c.keeps k⟩
  | (t, ka) :: (t', ka') :: r, ex, K :: R, x => by
    obtain ⟨⟨⟨vs, a, b⟩, c⟩, d⟩ := x
    exact ⟨⟨⟨vs, a.keeps k, b.keeps k⟩, c.keeps k⟩, OpenAt.keeps k d⟩
theorem OpenAt.mono {h : Heap} {S S' : Addr → Prop} {vl : Value} (hS : ∀ a, a < h.objs.size → S a → S' a) : ∀ {ts : List (Addr × Addr)} {ex : List Value} {st : List Kids}, OpenAt prog w ns h S vl ex ts st → OpenAt prog w ns h S' vl ex ts st
  | [(t, ka)], ex, [K], x => by
    obtain ⟨⟨vs, a, b⟩, c⟩ := x
    exact ⟨⟨vs, a, b.mono hS⟩, c⟩
  | (t, ka) :: (t', ka') :: r, ex, K :: R, x => by
    obtain ⟨⟨⟨vs, a, b⟩, c⟩, d⟩ := x
    exact ⟨⟨⟨vs, a, b.mono hS⟩, c⟩, OpenAt.mono hS d⟩
/-- the innermost one's list and what its thing is -/
theorem OpenAt.head {h : Heap} {S : Addr → Prop} {vl : Value} {t ka : Addr} {r : List (Addr × Addr)} {ex : List Value} {st : List Kids} (x : OpenAt prog w ns h S vl ex ((t, ka) :: r) st) :
    ∃ K R vs tag text times tv, st = K :: R ∧ ListAt h ka (vs ++ ex) ∧ KidsIn prog w ns h S vs K ∧ Th prog w h t tag text times tv ka := by
  match r, st, x with
  | [], [K], ⟨⟨vs, a, b⟩, c⟩ => exact ⟨K, [], vs, _, _, _, _, rfl, a, b, c⟩
  | (t', ka') :: r, K :: R, ⟨⟨⟨vs, a, b⟩, c⟩, _⟩ => exact ⟨K, R, vs, _, _, _, _, rfl, a, b, c⟩
/-- another list in the innermost one -/
theorem OpenAt.lay {h h' : Heap} {S : Addr → Prop} {vl : Value} {t ka : Addr} {r : List (Addr × Addr)} {ex ex' vs : List Value} {K K' : Kids} {R : List Kids} (u : Upd ka h h') (l : Mut h ka) (hS : ¬ S ka) (hk : ka ∉ r.map (·.2)) (hl : ListAt h' ka (vs ++ ex')) (hK : KidsIn prog w ns h' S vs K')
    (x : OpenAt prog w ns h S vl ex ((t, ka) :: r) (K :: R)) : OpenAt prog w ns h' S vl ex' ((t, ka) :: r) (K' :: R) := by
  match r, R, x with
  | [], [], ⟨⟨_, a, b⟩, c⟩ => exact ⟨⟨vs, hl, hK⟩, c.upd u l⟩
  | (t', ka') :: r, R, ⟨⟨⟨_, a, b⟩, c⟩, d⟩ => exact ⟨⟨⟨vs, hl, hK⟩, c.upd u l⟩, d.upd u l hS hk⟩
theorem OpenAt.len {h : Heap} {S : Addr → Prop} {vl : Value} : ∀ {ts : List (Addr × Addr)} {ex : List Value} {st : List Kids}, OpenAt prog w ns h S vl ex ts st → ts.length = st.length
  | [(t, ka)], ex, [K], x => rfl
  | (t, ka) :: (t', ka') :: r, ex, K :: R, x => by
    obtain ⟨_, d⟩ := x
    simp [OpenAt.len d]
theorem OpenAt.pop {h : Heap} {S S' : Addr → Prop} {vl : Value} {t ka : Addr} {r : List (Addr × Addr)} {K K' : Kids} {R : List Kids} (hS : ∀ a, S a → S' a) (hk : S' ka)
    (x : OpenAt prog w ns h S vl [] ((t, ka) :: r) (K :: K' :: R)) : OpenAt prog w ns h S' vl [] r (K'.app (.loop K .nil) :: R) := by
  match r, x with
  | [(t', ka')], ⟨⟨⟨vs, a, b⟩, c⟩, d⟩ =>
    match R, d with
    | [], ⟨⟨vs', a', b'⟩, c'⟩ => exact ⟨⟨vs' ++ [.ref t], by simpa using a', KidsIn.app (KidsIn.loop1 c (by simpa using a) hk (b.mono fun a _ => hS a)) (b'.mono fun a _ => hS a)⟩, c'⟩
  | (t', ka') :: q :: r, ⟨⟨⟨vs, a, b⟩, c⟩, ⟨⟨⟨vs', a', b'⟩, c'⟩, d'⟩⟩ =>
    exact ⟨⟨⟨vs' ++ [.ref t], by simpa using a', KidsIn.app (KidsIn.loop1 c (by simpa using a) hk (b.mono fun a _ => hS a)) (b'.mono fun a _ => hS a)⟩, c'⟩, d'.mono fun a _ => hS a⟩
/-- all is closed -/
theorem OpenAt.all {h : Heap} {vl : Value} {n : Nat} : ∀ {ts : List (Addr × Addr)} {st : List Kids}, Kids.SInv n st → OpenAt prog w ns h (fun _ => True) vl [] ts st →
    ∃ t ka vs K, ts.getLast? = some (t, ka) ∧ Th prog w h t "sheet" "" 1 vl ka ∧ ListAt h ka vs ∧ KidsIn prog w ns h (fun _ => True) vs K ∧ Kids.SInv n [K]
  | [(t, ka)], [K], i, x => by
    obtain ⟨⟨vs, a, b⟩, c⟩ := x
    exact ⟨t, ka, vs, K, rfl, c, by simpa using a, b, i⟩
  | (t, ka) :: (t', ka') :: r, K :: R, i, x => by
    match R, x.2.len with
    | K' :: R, _ =>
      obtain ⟨t₁, ka₁, vs, K₁, e, q⟩ := OpenAt.all i.pop (x.pop (fun _ h => h) trivial)
      exact ⟨t₁, ka₁, vs, K₁, by simpa [List.getLast?_cons_cons] using e, q⟩
end
section
variable {prog : Program} {w : World} {A : Around} {env : Env} {h : Heap}
theorem Ev.fdivmod {l : Expr} {p₁ p₂ p₃ pos : Pos} {k₁ k₂ : Nat} {a b c : Int} (hl : Ev prog w A env l h (fun u => ∃ t, u = .int a t)) (hb : b ≠ 0) (hc : c ≠ 0) (hp : Builtin.divisionGoesByPylong a b = false) :
    Ev prog w A env (.BinOp (.BinOp l .FloorDiv (.Constant (.int b) k₁ p₁) p₂) .Mod (.Constant (.int c) k₂ p₃) pos) h (fun u => ∃ t, u = .int ((a.fdiv b).fmod c) t) := fun s Q E hh k => by
  refine wpAny_BinOp (wpAny_BinOp (hl s _ _ hh fun o tk ⟨t, e⟩ => ?_))
  subst e
  refine wpAny_Constant_int (floordiv_int hb ?_ (.inl hp))
  refine wpAny_Constant_int (mod_int' hc ?_)
  exact k _ _ ⟨_, rfl⟩
theorem Ev.lenL {e : Expr} {p₁ pos : Pos} {a : Addr} {xs : List Value} (bi : Bi h "len" (.builtin "len")) (hg : env.globals = mainGlobals) (hb : env.builtins = builtinsNs) (hk : env.scope.kind = .function) (hx : env.kindOf "len" = some .globalImplicit)
    (he : Ev prog w A env e h (fun u => u = .ref a)) (hl : h.IsList a xs.toArray) (hz : xs.length ≤ 1000) (hs : starEach [e] env = [(false, eval e env)] := by rfl) :
    Ev prog w A env (.Call (.Name "len" p₁) [e] [] pos) h (fun u => ∃ t, u = .int (xs.length : Nat) t) := fun s Q E hh k => by
  subst hh
  refine Call_Name1 ((Ev.builtin (v := .builtin "len") bi hg hb hk hx) s _ _ rfl fun v tk e => ?_) hs
  subst e
  refine PySem.callWith_builtin1 (he { s with toks := tk } _ _ rfl fun v tk₂ e => ?_)
  subst e
  have := len_list (prog := prog) (w := w) (A := A) (E := E) (s := { s with toks := tk₂ }) (Q := Q) hl (by simp only [List.size_toArray]; omega) (by simp only [List.size_toArray]; exact k _ _ ⟨_, rfl⟩)
  exact this
theorem Ev.last {value : Expr} {p₁ p₂ pos : Pos} {kk : Nat} {l : Addr} {ys : List Value} {y : Value} (hv : Ev prog w A env value h (fun u => u = .ref l)) (hl : h.IsList l (ys ++ [y]).toArray) (hz : ys.length ≤ 1000)
    (hs' : ∀ o i, subscripted (.UnaryOp .USub (.Constant (.int 1) kk p₁) p₂) false o i = operate [o, i] (getItem o i) := by intro _ _; with_unfolding_all rfl) :
    Ev prog w A env (.Subscript value (.UnaryOp .USub (.Constant (.int 1) kk p₁) p₂) pos) h (fun u => u = y) := fun s Q E hh k => by
  refine Subscript_ (hv s _ _ hh fun o tk e => ?_)
  subst e
  refine wpAny_UnaryOp (wpAny_Constant_int ?_)
  refine PyProof.Rows.neg_int ?_
  subst hh
  refine tail_any (hl.typeIs) slot_list_getitem.lookup (wpAny_getItem_list_neg hl (by omega) (by simp only [List.size_toArray, List.length_append, List.length_cons, List.length_nil]; omega) (by omega) ?_ (k y _ rfl)) (hs' _ _)
  have : ((-1 : Int) + ((ys ++ [y]).toArray.size : Nat)).toNat = ys.length := by simp only [List.size_toArray, List.length_append, List.length_cons, List.length_nil]; omega
  rw [this]
  simp
theorem pickCut (ys : List Value) (y : Value) : slicePick (ys ++ [y]).toArray none (some (-1)) none = ys.toArray := by
  have e : slicePick (ys ++ [y]).toArray none (some (-1)) none = slicePick (ys ++ [y]).toArray none (some ((ys.length : Nat) : Int)) none := by
    unfold slicePick sliceBounds
    simp only [List.size_toArray, List.length_append, List.length_cons, List.length_nil, Option.getD_none]
    have h1 : (-1 : Int) < 0 := by decide
    have h2 : ¬ ((ys.length : Nat) : Int) < 0 := by omega
    simp only [h1, h2, if_true, if_false]
    have h3 : (-1 : Int) + ((ys.length + (0 + 1) : Nat) : Int) = (ys.length : Nat) := by push_cast; omega
    rw [h3]
  rw [e, slicePick_upto _ _ (by simp)]
  simp
/-- `way[:-1]` -/
theorem cutLast {s : Shared} {E : Value → Shared → Prop} {value : Expr} {p₁ p₂ p₃ pos : Pos} {kk : Nat} {l : Addr} {ys : List Value} {y : Value} {Q : Value → Shared → Prop} (hv : Ev prog w A env value s.heap (fun u => u = .ref l)) (hl : s.heap.IsList l (ys ++ [y]).toArray) (hz : ys.length ≤ 1000)
    (h : ∀ r h' tk, Kp s.heap h' → s.heap.objs.size ≤ r → ListAt h' r ys → Q (.ref r) { s with heap := h', toks := tk })
    (ht : ∀ o r, letTemporaryGo value o r = pure () := by intro _ _; rfl) :
    wpAny (model prog w) A (eval (.Subscript value (.Slice none (some (.UnaryOp .USub (.Constant (.int 1) kk p₁) p₂)) none p₃) pos) env) Q E s := by
  refine wpAny_Subscript_list_slice (hv s _ _ rfl fun o tk e => ?_) ht
  subst e
  rw [evalPart_none]
  refine wpAny_pure ?_
  rw [evalPart_some]
  refine wpAny_UnaryOp (wpAny_Constant_int ?_)
  refine PyProof.Rows.neg_int ?_
  have hsz : (ys ++ [y]).toArray.size ≤ sizeLine := by
    have : (2000 : Nat) ≤ sizeLine := by decide
    simp only [List.size_toArray, List.length_append, List.length_cons, List.length_nil]; omega
  refine ⟨l, _, none, some (-1), rfl, hl, hsz, .none, .int _ _, ?_⟩
  rw [pickCut]
  have e := Heap.get?_push_size (s.heap.push { cls := .type "slice", data := .fields #[.none, .int (-1) (tk + 1), .none] }) (o := { cls := .type "list", data := .seq ys.toArray }) rfl
  rw [Heap.size_push] at e
  exact h _ _ _ (fun b o e => Heap.get?_push_of_some _ (Heap.get?_push_of_some _ e)) (Nat.le_succ _) ⟨_, e⟩
/-- `numbers[:k]` -/
theorem cutFirst {s : Shared} {E : Value → Shared → Prop} {value : Expr} {p₂ p₃ pos : Pos} {kk k : Nat} {l : Addr} {ys : List Value} {Q : Value → Shared → Prop} (hv : Ev prog w A env value s.heap (fun u => u = .ref l)) (hl : s.heap.IsList l ys.toArray) (hk : k ≤ ys.length) (hz : ys.length ≤ 1000)
    (h : ∀ r h' tk, Kp s.heap h' → s.heap.objs.size ≤ r → ListAt h' r (ys.take k) → Q (.ref r) { s with heap := h', toks := tk })
    (ht : ∀ o r, letTemporaryGo value o r = pure () := by intro _ _; rfl) :
    wpAny (model prog w) A (eval (.Subscript value (.Slice none (some (.Constant (.int (k : Int)) kk p₂)) none p₃) pos) env) Q E s := by
  refine wpAny_Subscript_list_slice (hv s _ _ rfl fun o tk e => ?_) ht
  subst e
  rw [evalPart_none]
  refine wpAny_pure ?_
  rw [evalPart_some]
  refine wpAny_Constant_int ?_
  have hsz : ys.toArray.size ≤ sizeLine := by
    have : (2000 : Nat) ≤ sizeLine := by decide
    simp only [List.size_toArray]; omega
  refine ⟨l, _, none, some (k : Int), rfl, hl, hsz, .none, .int _ _, ?_⟩
  rw [slicePick_upto _ _ (by simpa using hk)]
  have e := Heap.get?_push_size (s.heap.push { cls := .type "slice", data := .fields #[.none, .int (k : Int) tk, .none] }) (o := { cls := .type "list", data := .seq (ys.take k).toArray }) rfl
  rw [Heap.size_push] at e
  exact h _ _ _ (fun b o e => Heap.get?_push_of_some _ (Heap.get?_push_of_some _ e)) (Nat.le_succ _) ⟨_, e⟩
/-- a call with three places and one keyword, its value made by what may lay objects -/
theorem callKw {s : Shared} {E : Value → Shared → Prop} {f e1 e2 e3 ek : Expr} {kn : Str} {pk pos : Pos} {a : Addr} {u1 u3 : Value} {P2 Pk : Value → Prop} {Q : Value → Shared → Prop} (hf : Ev prog w A env f s.heap (fun u => u = .ref a)) (h1 : Ev prog w A env e1 s.heap (fun u => u = u1)) (h2 : Ev prog w A env e2 s.heap P2) (h3 : Ev prog w A env e3 s.heap (fun u => u = u3)) (hfn : FnO s.heap a)
    (hk : ∀ tk (Q' : Value → Shared → Prop), (∀ v h' tk', Kp s.heap h' → Pk v → Q' v { s with heap := h', toks := tk' }) → wpAny (model prog w) A (eval ek env) Q' E { s with toks := tk })
    (h : ∀ u2 v h' tk, P2 u2 → Pk v → Kp s.heap h' → wpAny (model prog w) A (call (.ref a) [u1, u2, u3] [(kn, v)]) Q E { s with heap := h', toks := tk })
    (he : eval (.Call f [e1, e2, e3] [⟨some kn, ek, pk⟩] pos) env = (do callWith pos (← eval f env) [] (backTo pos (starEach [e1, e2, e3] env)) (backToKw pos (keywordEach [⟨some kn, ek, pk⟩] env))) := by rfl)
    (hs : backTo pos (starEach [e1, e2, e3] env) = [(false, eval e1 env), (false, eval e2 env), (false, eval e3 env)] := by rfl)
    (hs2 : ∃ m, backToKw pos (keywordEach [⟨some kn, ek, pk⟩] env) = [(some kn, m)] ∧ ∀ (Q' : Value → Shared → Prop) (s' : Shared), wpAny (model prog w) A (eval ek env) Q' E s' → wpAny (model prog w) A m Q' E s') :
    wpAny (model prog w) A (eval (.Call f [e1, e2, e3] [⟨some kn, ek, pk⟩] pos) env) Q E s := by
  obtain ⟨ob, fd, hob, hdat⟩ := hfn
  obtain ⟨m, hs2, hm⟩ := hs2
  rw [he]
  refine wpAny_bind (hf s _ _ rfl fun u tk e => ?_)
  subst e
  rw [hs, hs2]
  refine callWith_function_kw (o := ob) (fd := fd) (evalArgs_kw rfl (Calls.spliced_cons (h1 { s with toks := tk } _ _ rfl fun v1 tk₃ q1 => Calls.spliced_cons (h2 { s with toks := tk₃ } _ _ rfl fun v2 tk₄ q2 => Calls.spliced_cons (h3 { s with toks := tk₄ } _ _ rfl fun v3 tk₅ q3 => Calls.spliced_nil ?_)))))
  subst q1 q3
  show wpAny _ _ (evalAll [m]) _ _ _
  refine wpAny_evalAll_cons (hm _ _ (hk tk₅ _ fun v h' tk' kk pv => wpAny_evalAll_nil ?_))
  exact ⟨⟨kk _ _ hob, hdat⟩, h v2 v h' tk' q2 pv kk⟩
/-- `way.append(e)`, the value made by what may lay and change objects -/
theorem appendE {s : Shared} {E : Value → Shared → Prop} {o e : Expr} {p1 pos : Pos} {l : Addr} {Q : Value → Shared → Prop} (ho : Ev prog w A env o s.heap (fun u => u = .ref l)) (hl : ∃ xs, ListAt s.heap l xs)
    (h : ∀ tk, wpAny (model prog w) A (eval e env) (fun v s₁ => ∃ ys, ListAt s₁.heap l ys ∧ ys.length ≤ 1000 ∧ ∀ h' tk', Upd l s₁.heap h' → ListAt h' l (ys ++ [v]) → Q .none { s₁ with heap := h', toks := tk' }) E { s with toks := tk })
    (he : ∃ pl, eval (.Call (.Attribute o "append" p1) [e] [] pos) env = (do
      let ov ← eval o env
      standAt p1.atName
      let (f, first) ← holding [ov] (getMethod ov "append" pl)
      callWith pos f first (backTo pos (starEach [e] env)) []) := by exact ⟨_, rfl⟩)
    (hs : backTo pos (starEach [e] env) = [(false, eval e env)] := by rfl) :
    wpAny (model prog w) A (eval (.Call (.Attribute o "append" p1) [e] [] pos) env) Q E s := by
  obtain ⟨pl, he⟩ := he
  obtain ⟨xs, n, hl⟩ := hl
  refine MethodCall_ (pl := pl) (ho s _ _ rfl fun u tk e => ?_) he
  subst e
  refine getMethod_list_append (s := { s with toks := tk }) hl rfl rfl ?_
  rw [hs]
  refine Calls.callWith_builtin rfl (Calls.evalArgs_plain (Calls.spliced_cons (wpAny_mono (h tk) (fun v s₁ hv => Calls.spliced_nil ?_) fun _ _ x => x)))
  obtain ⟨ys, ⟨n', hl'⟩, hz, hq⟩ := hv
  refine wpAny_list_append_plain (items := ys.toArray) ⟨n', hl'⟩ (fun h' hp hs' => ?_) (by
    have : (2000 : Nat) ≤ sizeLine := by decide
    simp only [List.size_toArray]; omega)
  obtain ⟨n₂, e₂⟩ := hp
  exact hq h' _ (fun b o hb e => hs'.extBut b o hb e) ⟨n₂, by simpa using e₂⟩
/-- `number // 84 % 3 == c and len(way) < k` -/
theorem testLt {s : Shared} {E : Value → Shared → Prop} {l : Expr} {p₁ p₂ p₃ p₄ p₅ p₆ p₇ p₈ p₉ pp pos : Pos} {k₁ k₂ k₃ k₄ : Nat} {x c k : Int} {a : Addr} {xs : List Value} {e : Expr} {whole : Sem Value} {Q : Bool → Shared → Prop} (hl : Ev prog w A env l s.heap (fun u => ∃ t, u = .int x t))
    (bi : Bi s.heap "len" (.builtin "len")) (hg : env.globals = mainGlobals) (hb : env.builtins = builtinsNs) (hk : env.scope.kind = .function) (hx : env.kindOf "len" = some .globalImplicit)
    (he : Ev prog w A env e s.heap (fun u => u = .ref a)) (hls : s.heap.IsList a xs.toArray) (hz : xs.length ≤ 1000) (hs : starEach [e] env = [(false, eval e env)])
    (h : ∀ tk, Q (decide ((x.fdiv 84).fmod 3 = c) && decide ((xs.length : Int) < k)) { s with toks := tk }) :
    wpAny (model prog w) A (isTrue (.BoolOp .And [.Compare (.BinOp (.BinOp l .FloorDiv (.Constant (.int 84) k₁ p₁) p₂) .Mod (.Constant (.int 3) k₂ p₃) p₄) [.Eq] [.Constant (.int c) k₃ p₅] p₆, .Compare (.Call (.Name "len" p₇) [e] [] p₈) [.Lt] [.Constant (.int k) k₄ p₉] pp] pos) env whole) Q E s := by
  refine isTrue_and (wpAny_isTrue_Compare1 ((Ev.fdivmod hl (by decide) (by decide) (PyProof.noPylong_of_log2 (by decide +kernel))) s _ _ rfl fun u tk ⟨t, e1⟩ => ?_))
  subst e1
  refine wpAny_Constant_int (PyProof.Rows.eq_int (wpAny_truthy_bool ?_))
  by_cases q : (x.fdiv 84).fmod 3 = c
  · rw [if_pos (by simpa using q)]
    refine isTrue_and (wpAny_isTrue_Compare1 ((Ev.lenL bi hg hb hk hx he hls hz hs) { s with toks := _ } _ _ rfl fun u tk₂ ⟨t₂, e2⟩ => ?_))
    subst e2
    refine wpAny_Constant_int (PyProof.Rows.lt_int (wpAny_truthy_bool ?_))
    by_cases r : (xs.length : Int) < k
    · rw [if_pos (by simpa using r)]
      refine isTrue_and_nil ?_
      have := h (tk₂ + 1)
      simpa [q, r] using this
    · rw [if_neg (by simpa using r)]
      have := h (tk₂ + 1)
      simpa [q, r] using this
  · rw [if_neg (by simpa using q)]
    have := h (tk + 1)
    simpa [q] using this
theorem testGt {s : Shared} {E : Value → Shared → Prop} {l : Expr} {p₁ p₂ p₃ p₄ p₅ p₆ p₇ p₈ p₉ pp pos : Pos} {k₁ k₂ k₃ k₄ : Nat} {x c k : Int} {a : Addr} {xs : List Value} {e : Expr} {whole : Sem Value} {Q : Bool → Shared → Prop} (hl : Ev prog w A env l s.heap (fun u => ∃ t, u = .int x t))
    (bi : Bi s.heap "len" (.builtin "len")) (hg : env.globals = mainGlobals) (hb : env.builtins = builtinsNs) (hk : env.scope.kind = .function) (hx : env.kindOf "len" = some .globalImplicit)
    (he : Ev prog w A env e s.heap (fun u => u = .ref a)) (hls : s.heap.IsList a xs.toArray) (hz : xs.length ≤ 1000) (hs : starEach [e] env = [(false, eval e env)])
    (h : ∀ tk, Q (decide ((x.fdiv 84).fmod 3 = c) && decide ((xs.length : Int) > k)) { s with toks := tk }) :
    wpAny (model prog w) A (isTrue (.BoolOp .And [.Compare (.BinOp (.BinOp l .FloorDiv (.Constant (.int 84) k₁ p₁) p₂) .Mod (.Constant (.int 3) k₂ p₃) p₄) [.Eq] [.Constant (.int c) k₃ p₅] p₆, .Compare (.Call (.Name "len" p₇) [e] [] p₈) [.Gt] [.Constant (.int k) k₄ p₉] pp] pos) env whole) Q E s := by
  refine isTrue_and (wpAny_isTrue_Compare1 ((Ev.fdivmod hl (by decide) (by decide) (PyProof.noPylong_of_log2 (by decide +kernel))) s _ _ rfl fun u tk ⟨t, e1⟩ => ?_))
  subst e1
  refine wpAny_Constant_int (PyProof.Rows.eq_int (wpAny_truthy_bool ?_))
  by_cases q : (x.fdiv 84).fmod 3 = c
  · rw [if_pos (by simpa using q)]
    refine isTrue_and (wpAny_isTrue_Compare1 ((Ev.lenL bi hg hb hk hx he hls hz hs) { s with toks := _ } _ _ rfl fun u tk₂ ⟨t₂, e2⟩ => ?_))
    subst e2
    refine wpAny_Constant_int (PyProof.Rows.gt_int (wpAny_truthy_bool ?_))
    by_cases r : k < (xs.length : Int)
    · rw [if_pos (by simpa using r)]
      refine isTrue_and_nil ?_
      have := h (tk₂ + 1)
      simpa [q, r] using this
    · rw [if_neg (by simpa using r)]
      have := h (tk₂ + 1)
      simpa [q, r] using this
  · rw [if_neg (by simpa using q)]
    have := h (tk + 1)
    simpa [q] using this
end
/-- the heap without a frame and an iterator -/
abbrev hX (h : Heap) (L I : Addr) : Heap := hideAll h [L, I]
theorem hX_of {h : Heap} {L I b : Addr} {o : Obj} (e : (hX h L I).get? b = some o) : h.get? b = some o := of_hideAll _ e
theorem hX_get {h : Heap} {L I b : Addr} {o : Obj} (e : h.get? b = some o) (h1 : @Ne Nat b L) (h2 : @Ne Nat b I) : (hX h L I).get? b = some o := hideAll_get _ e fun q => by
  rcases List.mem_cons.mp q with q | q
  · exact h1 q
  · exact h2 (List.mem_singleton.mp q)
theorem hX_ne {h : Heap} {L I b : Addr} {o : Obj} (e : (hX h L I).get? b = some o) : @Ne Nat b L ∧ @Ne Nat b I := by
  refine ⟨fun q => ?_, fun q => ?_⟩
  · rw [show b = L from q, hX, hideAll_none _ (.head _)] at e; cases e
  · rw [show b = I from q, hX, hideAll_none _ (.tail _ (.head _))] at e; cases e
theorem hX_upd {h h' : Heap} {L I a : Addr} (k : ∀ b o, b ≠ a → @Ne Nat b L → @Ne Nat b I → h.get? b = some o → h'.get? b = some o) : Upd a (hX h L I) (hX h' L I) := fun b o hb e =>
  hX_get (k b o hb (hX_ne e).1 (hX_ne e).2 (hX_of e)) (hX_ne e).1 (hX_ne e).2
theorem hX_kp {h h' : Heap} {L I : Addr} (k : ∀ b o, @Ne Nat b L → @Ne Nat b I → h.get? b = some o → h'.get? b = some o) : Kp (hX h L I) (hX h' L I) := fun b o e =>
  hX_get (k b o (hX_ne e).1 (hX_ne e).2 (hX_of e)) (hX_ne e).1 (hX_ne e).2
theorem hX_list {h : Heap} {L I a : Addr} {xs : List Value} (l : ListAt h a xs) (h1 : @Ne Nat a L) (h2 : @Ne Nat a I) : ListAt (hX h L I) a xs := by obtain ⟨n, e⟩ := l; exact ⟨n, hX_get e h1 h2⟩
theorem ListAt.neNs {h : Heap} {a L : Addr} {xs : List Value} {m : Str → Option Value} (l : ListAt h a xs) (n : h.Ns L m) : @Ne Nat a L := fun q => by
  obtain ⟨n', e⟩ := l
  obtain ⟨o, es, ep, e', d, _⟩ := n
  rw [show a = L from q, show h.get? L = some o from e'] at e
  cases e; cases d
theorem ListAt.neIt {h : Heap} {a I : Addr} {xs : List Value} {it : Obj} (l : ListAt h a xs) (e' : h.get? I = some it) (d : ∃ vs, it.data = .fields vs) : @Ne Nat a I := fun q => by
  obtain ⟨n', e⟩ := l
  rw [show a = I from q, e'] at e
  cases e; obtain ⟨vs, d⟩ := d; cases d
theorem Tab3.at {h h' : Heap} {c1 c2 c3 : Addr} (x : Tab3 h c1 c2 c3) (k : ∀ b o, (∃ vs, o.data = .fields vs) → h.get? b = some o → h'.get? b = some o) : Tab3 h' c1 c2 c3 := by
  have cr : ∀ {cd : Value} {q : Str}, h.CodeRec cd q → h'.CodeRec cd q := by
    rintro cd q ⟨c, oc, vs, tq, e1, e2, e3, e4⟩
    exact ⟨c, oc, vs, tq, e1, k _ _ ⟨vs, e3⟩ e2, e3, e4⟩
  exact ⟨k _ _ ⟨_, rfl⟩ x.1, cr x.2.1, cr x.2.2.1, cr x.2.2.2⟩
theorem Tab3.upd {h h' : Heap} {c1 c2 c3 a : Addr} {xs : List Value} (x : Tab3 h c1 c2 c3) (l : ListAt h a xs) (u : Upd a h h') : Tab3 h' c1 c2 c3 := x.at fun b o ⟨vs, d⟩ e => u b o (fun q => by
  obtain ⟨n, e'⟩ := l
  rw [← q, e] at e'; cases e'; cases d) e
section
variable {prog : Program} {w : World}
/-- I is the frame itself, or an iterator -/
noncomputable def IterOr (h : Heap) (L I : Addr) : Prop := I = L ∨ ∃ it, h.get? I = some it ∧ ∃ vs, it.data = .fields vs ∧ ∀ x t, (vs[1]? : Option Value) ≠ some (.str x t)
theorem ListAt.neIter {h : Heap} {a L I : Addr} {xs : List Value} {m : Str → Option Value} (l : ListAt h a xs) (n : h.Ns L m) (i : IterOr h L I) : @Ne Nat a I := by
  rcases i with rfl | ⟨it, e, vs, d, _⟩
  · exact l.neNs n
  · exact l.neIt e ⟨vs, d⟩
theorem IterOr.lt {h : Heap} {L I : Addr} {m : Str → Option Value} (n : h.Ns L m) (i : IterOr h L I) : @LT.lt Nat _ I h.objs.size := by
  rcases i with rfl | ⟨it, e, _⟩
  · exact n.lt
  · exact Heap.lt_size e
/-- as Th, made of what is new since h₀ and of records -/
noncomputable def ThN (prog : Program) (w : World) (h₀ h : Heap) (t : Addr) (tag text : Str) (times : Int) (vl : Value) (ka : Addr) : Prop :=
  ∃ g da tx tn, NewOr g h₀ ∧ h₀.get? da = none ∧ Static prog w g t tag vl da ka ∧ Kp g h ∧ NoLists g ∧ h.DictOf (strKind prog w) da (attKvs (.str text tx) (.int times tn) vl)
theorem ThN.th {h₀ h : Heap} {t : Addr} {tag text : Str} {times : Int} {vl : Value} {ka : Addr} (x : ThN prog w h₀ h t tag text times vl ka) : Th prog w h t tag text times vl ka := by obtain ⟨g, da, tx, tn, _, _, a, b, c, d⟩ := x; exact ⟨g, da, tx, tn, a, b, c, d⟩
theorem th_hX {h₀ h' g' : Heap} {L I t D ka : Addr} {m m' : Str → Option Value} {tag text : Str} {times : Int} {vl : Value} {tx tn : Tok} (nw : NewOr g' h₀) (kg : Kp g' h') (nl : NoLists g') (nL : h₀.Ns L m) (nI : IterOr h₀ L I)
    (kL : h'.Ns L m') (kI : ∀ o, h₀.get? I = some o → h'.get? I = some o) (sS : Static prog w g' t tag vl D ka) (dD : h'.DictOf (strKind prog w) D (attKvs (.str text tx) (.int times tn) vl)) (hDL : @Ne Nat D L) (hDI : @Ne Nat D I) (nD : h₀.get? D = none) :
    ThN prog w h₀ (hX h' L I) t tag text times vl ka := by
  have nl' : ∀ b o, g'.get? b = some o → @Ne Nat b L := fun b o e q => by
    obtain rfl : b = L := q
    rcases nw _ _ e with z | ⟨vs, z⟩
    · obtain ⟨o', es, ep, e', _⟩ := nL
      rw [show h₀.get? b = some o' from e'] at z; cases z
    · obtain ⟨o', es, ep, e', d, _⟩ := kL
      rw [kg _ _ e] at e'; cases e'; rw [z] at d; cases d
  refine ⟨g', D, tx, tn, nw, nD, sS, fun b o e => hX_get (kg _ _ e) (nl' b o e) (fun q => ?_), nl, dD.at fun o e => hX_get e hDL hDI⟩
  rcases nI with rfl | ⟨it, nI, vs', d, hq⟩
  · exact nl' b o e q
  · obtain rfl : b = I := q
    rcases nw _ _ e with z | ⟨vs, z⟩
    · rw [nI] at z; cases z
    · obtain ⟨x, tq, z'⟩ := nl.rcd _ _ _ e z
      have e' := kg _ _ e
      rw [kI _ nI] at e'; cases e'
      rw [d] at z; cases z
      exact hq x tq z'
/-- SubElement upon a thing -/
theorem sub_par {p : Program} {loose : List Str} {mean : ExcName → Option Value} {mg mb : Str → Option Value} {s : Shared} {g : Heap} {L I : Addr} {m : Str → Option Value} {t ka da c1 c2 c3 : Addr} {vs : List Value} {tag text ptag ptext kn : Str} {times ptimes : Int} {kv ptv : Value} {tt t1 t2 tx tn : Tok} {Q E : Value → Shared → Prop}
    (X : (hd.heap_1 w.params).In g) (T : Top p loose mean mg mb g) (kg : Kp g (hX s.heap L I)) (n108 : g.get? 108 = none) (hA : g.DictOf (strKind prog w) da (attKvs (.str "" t1) (.int 1 t2) .none)) (hda : (da == sysModules) = false)
    (tab : Tab3 (hX s.heap L I) c1 c2 c3) (nL : s.heap.Ns L m) (nI : IterOr s.heap L I) (th : Th prog w (hX s.heap L I) t ptag ptext ptimes ptv ka) (la : ListAt (hX s.heap L I) ka vs) (hlen : vs.length ≤ 1000) (nka : g.get? ka = none)
    (hkn : kn = "text" ∨ kn = "times") (hm : merged (attKvs (.str "" t1) (.int 1 t2) .none) [(kn, kv)] = attKvs (.str text tx) (.int times tn) .none)
    (ret : ∀ t' ka' h' tk', Upd ka s.heap h' → @Ne Nat ka L → @Ne Nat ka I → Kp g (hX h' L I) → Tab3 (hX h' L I) c1 c2 c3 → Upd ka (hX s.heap L I) (hX h' L I) → ListAt (hX h' L I) ka (vs ++ [.ref t']) →
      ThN prog w s.heap (hX h' L I) t' tag text times .none ka' → ListAt (hX h' L I) ka' [] → s.heap.objs.size ≤ ka' → Q (.ref t') { s with heap := h', toks := tk' }) :
    wpAny (model prog w) (AX 690 4990) (call (.ref 99) [.ref t, .str tag tt, .ref da] [(kn, kv)]) Q E s := by
  have ks : Kp (hX s.heap L I) s.heap := fun b o e => hX_of e
  have kgs : Kp g s.heap := fun b o e => ks _ _ (kg _ _ e)
  obtain ⟨gT, daT, txT, tnT, sS, kT, nT, dT⟩ := th
  have las : ListAt s.heap ka vs := la.keeps ks
  have hkL := las.neNs nL
  have hkI := las.neIter nL nI
  refine subel_spec (b₀ := g) X T kgs (tab.keeps ks) n108 nka sS (fun b o e => ks _ _ (kT _ _ e)) nT las hlen (hA.keep kgs) hda hkn hm fun t' ka' g' D h' tk' u la' kg' nl' nw' sS' dD lka' zka zt zD => ?_
  have nL' : h'.Ns L m := nL.at' fun o e => u _ o (Ne.symm hkL) e
  have uX : Upd ka (hX s.heap L I) (hX h' L I) := hX_upd fun b o hb _ _ e => u b o hb e
  have ltL : @LT.lt Nat _ L s.heap.objs.size := nL.lt
  have ltI := nI.lt nL
  refine ret t' ka' h' tk' u hkL hkI (fun b o e => uX b o (ne_of_none (nka) e) (kg b o e)) (tab.upd la uX) uX (hX_list la' hkL hkI) ?_ (hX_list lka' (Nat.ne_of_gt (Nat.lt_of_lt_of_le ltL zka)) (Nat.ne_of_gt (Nat.lt_of_lt_of_le ltI zka))) zka
  exact th_hX nw' kg' nl' nL nI nL' (fun o e => u _ _ (Ne.symm hkI) e) sS' dD (Nat.ne_of_gt (Nat.lt_of_lt_of_le ltL zD)) (Nat.ne_of_gt (Nat.lt_of_lt_of_le ltI zD)) (fresh_none zD)
/-- SubElement upon the innermost open thing -/
theorem sub_open {p : Program} {loose : List Str} {mean : ExcName → Option Value} {mg mb : Str → Option Value} {s : Shared} {g : Heap} {L I : Addr} {it : Obj} {m : Str → Option Value} {S : Addr → Prop} {vl : Value} {t ka da c1 c2 c3 : Addr} {r : List (Addr × Addr)} {K : Kids} {R : List Kids} {tag text kn : Str} {times : Int} {kv : Value} {tt t1 t2 tx tn : Tok} {ns : List Int} {Q E : Value → Shared → Prop}
    (X : (hd.heap_1 w.params).In g) (T : Top p loose mean mg mb g) (kg : Kp g (hX s.heap L I)) (n108 : g.get? 108 = none) (hA : g.DictOf (strKind prog w) da (attKvs (.str "" t1) (.int 1 t2) .none)) (hda : (da == sysModules) = false)
    (tab : Tab3 (hX s.heap L I) c1 c2 c3) (nL : s.heap.Ns L m) (nI : s.heap.get? I = some it) (hit : ∃ vs, it.data = .fields vs ∧ ∀ x t, (vs[1]? : Option Value) ≠ some (.str x t))
    (op : OpenAt prog w ns (hX s.heap L I) S vl [] ((t, ka) :: r) (K :: R)) (nka : g.get? ka = none) (hS : ¬ S ka) (hsz : K.sz ≤ 1000)
    (hkn : kn = "text" ∨ kn = "times") (hm : merged (attKvs (.str "" t1) (.int 1 t2) .none) [(kn, kv)] = attKvs (.str text tx) (.int times tn) .none)
    (ret : ∀ t' ka' vs h' tk', Upd ka s.heap h' → h'.Ns L m → h'.get? I = some it → Kp g (hX h' L I) → Tab3 (hX h' L I) c1 c2 c3 → Upd ka (hX s.heap L I) (hX h' L I) → ListAt (hX s.heap L I) ka vs → ListAt (hX h' L I) ka (vs ++ [.ref t']) → KidsIn prog w ns (hX s.heap L I) S vs K →
      Th prog w (hX h' L I) t' tag text times .none ka' → ListAt (hX h' L I) ka' [] → s.heap.objs.size ≤ ka' → Q (.ref t') { s with heap := h', toks := tk' }) :
    wpAny (model prog w) (AX 690 4990) (call (.ref 99) [.ref t, .str tag tt, .ref da] [(kn, kv)]) Q E s := by
  obtain ⟨K', R', vs, ptag, ptext, ptimes, ptv, e, la, ki, th⟩ := op.head
  cases e
  rw [List.append_nil] at la
  have hlen : vs.length ≤ 1000 := by
    rw [ki.at.length]
    exact Nat.le_trans K.items_sz hsz
  exact sub_par X T kg n108 hA hda tab nL (.inr ⟨it, nI, hit⟩) th la hlen nka hkn hm fun t' ka' h' tk' u hkL hkI k' tab' uX la' th' lk' zk =>
    ret t' ka' vs h' tk' u (nL.at' fun o e => u _ o (Ne.symm hkL) e) (u _ _ (Ne.symm hkI) nI) k' tab' uX la la' ki th'.th lk' zk
end
theorem OpenAt.lt {prog : Program} {w : World} {ns : List Int} {h : Heap} {S : Addr → Prop} {vl : Value} : ∀ {ts : List (Addr × Addr)} {ex : List Value} {st : List Kids}, OpenAt prog w ns h S vl ex ts st → ∀ e ∈ ts, e.2 < h.objs.size
  | [(t, ka)], ex, [K], o, e, he => by
    obtain ⟨⟨vs, a, b⟩, c⟩ := o
    rw [List.mem_singleton.mp he]; exact a.lt
  | (t, ka) :: (t', ka') :: r, ex, K :: R, o, e, he => by
    obtain ⟨⟨⟨vs, a, b⟩, c⟩, d⟩ := o
    rcases List.mem_cons.mp he with rfl | he
    · exact a.lt
    · exact OpenAt.lt d e he
/-- the sheet under way: the row of open things lies in the list at W -/
structure ShW (prog : Program) (w : World) (ns : List Int) (g : Heap) (vl : Value) (h : Heap) (t0 l : Addr) (m : Str → Option Value) (W : Addr) (ts : List (Addr × Addr)) (st : List Kids) : Prop where
  way : m "way" = some (.ref W)
  lw : ListAt h W (ts.map fun x => Value.ref x.1).reverse
  opn : OpenAt prog w ns h (fun a => a ∉ ts.map (·.2) ∧ a ≠ W) vl [] ts st
  nod : (ts.map (·.2)).Nodup
  wn : W ∉ ts.map (·.2)
  fr : g.get? W = none ∧ ∀ a ∈ ts.map (·.2), g.get? a = none
  ln : l ≠ W ∧ l ∉ ts.map (·.2)
  last : ∃ ka, ts.getLast? = some (t0, ka)
/-- the rest of what stands between the turns -/
structure ShB (g : Heap) (L nb da c1 c2 c3 l I : Addr) (zs : List Value) (it : Option Obj) (m : Str → Option Value) (h : Heap) : Prop where
  nm : m "names" = some (.ref nb)
  tb : m "table" = some (.ref da)
  base : Kp g (hX h L I)
  tab : Tab3 (hX h L I) c1 c2 c3
  lst : ListAt (hX h L I) l zs
section
variable {prog : Program} {w : World} {ns : List Int} {g : Heap} {vl : Value} {t0 l L I nb da c1 c2 c3 W t ka : Addr} {zs : List Value} {m : Str → Option Value} {ts r : List (Addr × Addr)} {st : List Kids}
theorem ShW.keeps {h h' : Heap} (x : ShW prog w ns g vl h t0 l m W ts st) (k : Kp h h') : ShW prog w ns g vl h' t0 l m W ts st := ⟨x.way, x.lw.keeps k, x.opn.keeps k, x.nod, x.wn, x.fr, x.ln, x.last⟩
theorem ShW.map {h : Heap} {m' : Str → Option Value} (x : ShW prog w ns g vl h t0 l m W ts st) (e : m' "way" = m "way") : ShW prog w ns g vl h t0 l m' W ts st := ⟨e.trans x.way, x.lw, x.opn, x.nod, x.wn, x.fr, x.ln, x.last⟩
theorem ShB.keeps {h h' : Heap} {it : Option Obj} (x : ShB g L nb da c1 c2 c3 l I zs it m h) (k : Kp (hX h L I) (hX h' L I)) : ShB g L nb da c1 c2 c3 l I zs it m h' := ⟨x.nm, x.tb, fun b o e => k _ _ (x.base b o e), x.tab.keeps k, x.lst.keeps k⟩
variable {p : Program} {loose : List Str} {mean : ExcName → Option Value} {mg mb : Str → Option Value} {s : Shared} {it : Obj} {K : Kids} {R : List Kids} {tt t1 t2 : Tok} {Q E : Value → Shared → Prop}
/-- a step laid in the innermost open thing -/
theorem sh_lay {a d b : Nat} {tx : Tok} (X : (hd.heap_1 w.params).In g) (T : Top p loose mean mg mb g) (n108 : g.get? 108 = none) (hA : g.DictOf (strKind prog w) da (attKvs (.str "" t1) (.int 1 t2) .none)) (hda : (da == sysModules) = false)
    (nL : s.heap.Ns L m) (nI : s.heap.get? I = some it) (hit : ∃ vs, it.data = .fields vs ∧ ∀ x t, (vs[1]? : Option Value) ≠ some (.str x t))
    (x : ShW prog w ns g vl (hX s.heap L I) t0 l m W ((t, ka) :: r) (K :: R)) (y : ShB g L nb da c1 c2 c3 l I zs (some it) m s.heap) (hsz : K.sz ≤ 1000)
    (ret : ∀ t' h' tk', h'.Ns L m → h'.get? I = some it → ShW prog w ns g vl (hX h' L I) t0 l m W ((t, ka) :: r) (K.app (.step a d b .nil) :: R) → ShB g L nb da c1 c2 c3 l I zs (some it) m h' → Q (.ref t') { s with heap := h', toks := tk' }) :
    wpAny (model prog w) (AX 690 4990) (call (.ref 99) [.ref t, .str "step" tt, .ref da] [("text", .str (stText ns a d b) tx)]) Q E s := by
  have nod := x.nod
  have hkr : ka ∉ r.map (·.2) := (List.nodup_cons.mp nod).1
  have hkW : W ≠ ka := fun q => x.wn (by rw [q]; exact .head _)
  have hkl : l ≠ ka := fun q => x.ln.2 (by rw [q]; exact .head _)
  refine sub_open X T y.base n108 hA hda y.tab nL nI hit x.opn (x.fr.2 ka (.head _)) (fun q => q.1 (.head _)) hsz (.inl rfl) (text := stText ns a d b) (times := 1) (tx := tx) (tn := t2) rfl ?_
  intro t' ka' vs h' tk' u nL' nI' kg' tab' uX la la' ki' th' lk' zk
  refine ret t' h' tk' nL' nI' ⟨x.way, uX.list hkW x.lw, ?_, nod, x.wn, x.fr, x.ln, x.last⟩ ⟨y.nm, y.tb, kg', tab', uX.list hkl y.lst⟩
  refine x.opn.lay uX la.mut (fun q => q.1 (.head _)) hkr (vs := vs ++ [.ref t']) (by rw [List.append_nil]; exact la') (KidsIn.app (KidsIn.step1 th' lk' ⟨fun q => ?_, fun q => ?_⟩) (ki'.upd uX la.mut fun q => q.1 (.head _)))
  · obtain ⟨e, he, rfl⟩ := List.mem_map.mp q
    have := x.opn.lt e he
    rw [hX, hideAll_size] at this
    exact absurd this (Nat.not_lt.mpr zk)
  · have := x.lw.lt
    rw [hX, hideAll_size] at this
    exact absurd (show W < s.heap.objs.size from this) (Nat.not_lt.mpr (q ▸ zk))
/-- a loop opened in the innermost open thing; then the row of open things grows -/
theorem sh_open {tx : Tok} (X : (hd.heap_1 w.params).In g) (T : Top p loose mean mg mb g) (n108 : g.get? 108 = none) (hA : g.DictOf (strKind prog w) da (attKvs (.str "" t1) (.int 1 t2) .none)) (hda : (da == sysModules) = false)
    (nL : s.heap.Ns L m) (nI : s.heap.get? I = some it) (hit : ∃ vs, it.data = .fields vs ∧ ∀ x t, (vs[1]? : Option Value) ≠ some (.str x t))
    (x : ShW prog w ns g vl (hX s.heap L I) t0 l m W ((t, ka) :: r) (K :: R)) (y : ShB g L nb da c1 c2 c3 l I zs (some it) m s.heap) (hsz : K.sz ≤ 1000) (hg : g.objs.size ≤ s.heap.objs.size)
    (ret : ∀ t' h' tk', ListAt h' W (((t, ka) :: r).map fun x => Value.ref x.1).reverse →
      (∀ h₂, Upd W h' h₂ → ListAt h₂ W ((((t, ka) :: r).map fun x => Value.ref x.1).reverse ++ [.ref t']) → h₂.Ns L m ∧ h₂.get? I = some it ∧ ShB g L nb da c1 c2 c3 l I zs (some it) m h₂ ∧ ∃ ka', ShW prog w ns g vl (hX h₂ L I) t0 l m W ((t', ka') :: (t, ka) :: r) (.nil :: K :: R)) → Q (.ref t') { s with heap := h', toks := tk' }) :
    wpAny (model prog w) (AX 690 4990) (call (.ref 99) [.ref t, .str "loop" tt, .ref da] [("times", .int 2 tx)]) Q E s := by
  have nod := x.nod
  have hkr : ka ∉ r.map (·.2) := (List.nodup_cons.mp nod).1
  have hkW : W ≠ ka := fun q => x.wn (by rw [q]; exact .head _)
  have hkl : l ≠ ka := fun q => x.ln.2 (by rw [q]; exact .head _)
  refine sub_open X T y.base n108 hA hda y.tab nL nI hit x.opn (x.fr.2 ka (.head _)) (fun q => q.1 (.head _)) hsz (.inr rfl) (text := "") (times := 2) (tx := t1) (tn := tx) rfl ?_
  intro t' ka' vs h' tk' u nL' nI' kg' tab' uX la la' ki' th' lk' zk
  have lW' : ListAt (hX h' L I) W (((t, ka) :: r).map fun x => Value.ref x.1).reverse := uX.list hkW x.lw
  have ks : Kp (hX h' L I) h' := fun b o e => hX_of e
  have lWs := lW'.keeps ks
  have hWL := lWs.neNs nL'
  have hWI := lWs.neIt nI' (let ⟨vs, d, _⟩ := hit; ⟨vs, d⟩)
  have hka : ∀ e ∈ (t, ka) :: r, @Ne Nat e.2 ka' := fun e he => by
    have := x.opn.lt e he
    rw [hX, hideAll_size] at this
    exact Nat.ne_of_lt (Nat.lt_of_lt_of_le this zk)
  have hlk : @Ne Nat l ka' := by
    have := y.lst.lt
    rw [hX, hideAll_size] at this
    exact Nat.ne_of_lt (Nat.lt_of_lt_of_le this zk)
  have hWk : @Ne Nat W ka' := by
    have := x.lw.lt
    rw [hX, hideAll_size] at this
    exact Nat.ne_of_lt (Nat.lt_of_lt_of_le this zk)
  refine ret t' h' tk' lWs fun h₂ u₂ l₂ => ?_
  have nL₂ : h₂.Ns L m := nL'.at' fun o e => u₂ _ o (Ne.symm hWL) e
  have nI₂ : h₂.get? I = some it := u₂ _ _ (Ne.symm hWI) nI'
  have uX₂ : Upd W (hX h' L I) (hX h₂ L I) := hX_upd fun b o hb _ _ e => u₂ b o hb e
  have hm : W ∉ ((t, ka) :: r).map (·.2) := x.wn
  have hnod' : (((t', ka') :: (t, ka) :: r).map (·.2)).Nodup := List.nodup_cons.mpr ⟨fun q => by
    obtain ⟨e, he, q⟩ := List.mem_map.mp q
    exact hka e he q, nod⟩
  have o₂ : OpenAt prog w ns (hX h' L I) (fun a => a ∉ ((t', ka') :: (t, ka) :: r).map (·.2) ∧ a ≠ W) vl [] ((t', ka') :: (t, ka) :: r) (.nil :: K :: R) := by
    refine ⟨⟨⟨[], lk', rfl⟩, th'⟩, ?_⟩
    have hmono : ∀ a, a < (hX s.heap L I).objs.size → (a ∉ ((t, ka) :: r).map (·.2) ∧ a ≠ W) → (a ∉ ((t', ka') :: (t, ka) :: r).map (·.2) ∧ a ≠ W) := fun a ha q => ⟨fun z => by
      rw [hX, hideAll_size] at ha
      rcases List.mem_cons.mp z with z | z
      · exact absurd (show ka' < s.heap.objs.size from (show a = ka' from z) ▸ ha) (Nat.not_lt.mpr zk)
      · exact q.1 z, q.2⟩
    exact (x.opn.mono hmono).lay uX la.mut (fun q => q.1 (.tail _ (.head _))) hkr la' ((ki'.mono hmono).upd uX la.mut fun q => q.1 (.tail _ (.head _)))
  refine ⟨nL₂, nI₂, ⟨y.nm, y.tb, fun b o e => uX₂ b o (ne_of_none (x.fr.1) e) (kg' b o e), tab'.upd lW' uX₂, uX₂.list x.ln.1 (uX.list hkl y.lst)⟩, ka', x.way, ?_, ?_, hnod', ?_, ⟨x.fr.1, ?_⟩, ⟨x.ln.1, ?_⟩, ?_⟩
  · have := hX_list (L := L) (I := I) l₂ hWL hWI
    simpa using this
  · exact o₂.upd uX₂ lW'.mut (fun q => q.2 rfl) (fun q => by
      rcases List.mem_cons.mp q with q | q
      · exact hWk q
      · exact hm q)
  · intro q
    rcases List.mem_cons.mp q with q | q
    · exact hWk q
    · exact hm q
  · intro a ha
    rcases List.mem_cons.mp ha with ha | ha
    · cases e : g.get? a with
      | none => rfl
      | some o => exact absurd (Heap.lt_size e) (Nat.not_lt.mpr (Nat.le_trans hg ((show a = ka' from ha) ▸ zk)))
    · exact x.fr.2 a ha
  · intro q
    rcases List.mem_cons.mp q with q | q
    · exact hlk q
    · exact x.ln.2 q
  · obtain ⟨k0, e⟩ := x.last
    exact ⟨k0, by simpa [List.getLast?_cons_cons] using e⟩
end
example : True := by k_with_none; trivial
example : True := by
  k_with "mine enter0" => (
      refine' enter ?kX ?kT ?k6 ?k7 ?k8 ?k9 ?kB ?_ ?c2 ?c3 ?c4 ?c5
      (case kX => assumption)
      (case kT => exact Top.nolimit (by assumption))
      (case k6 => k_is)
      (case k7 => k_is)
      (case k8 => decide)
      (case k9 => first | exact BindsTo.of_eq rfl | exact kp_binds (by assumption) (fun _ => rfl))
      (case c5 => decide)
      (case kB => exact locs rfl)
      (case c2 => exact rfl)
      (case c3 => exact rfl)
      (case c4 => exact rfl))
  k_with "mine enterC0" => (
      refine' enterC ?kX ?kT ?k6 ?k7 ?k8 ?k9 ?kB ?kD ?_ ?c2 ?c3 ?c4
      (case kX => assumption)
      (case kT => exact Top.nolimit (by assumption))
      (case k6 => k_is)
      (case k7 => k_is)
      (case k8 => decide)
      (case k9 => first | exact BindsTo.of_eq rfl | exact kp_binds (by assumption) (fun _ => rfl))
      (case kB => exact rfl)
      (case kD => decide +kernel)
      (case c2 => exact rfl)
      (case c3 => exact rfl)
      (case c4 => exact rfl))
  k_with "mine enterH" => (
      (case k6 => k_is)
      (case k7 => k_is)
      (case k8 => decide)
      (case k9 => first | exact fun _ => BindsTo.of_eq rfl | exact fun X' => kp_binds X' (fun _ => rfl))
      (case kB => exact rfl)
      (case kD => decide +kernel)
      (case c2 => exact rfl)
      (case c3 => exact rfl)
      (case c4 => exact rfl))
  k_with "mine tl" => (with_reducible first | exact tl_tag | exact tl_tail | exact tl_attrib | exact tl_kids | exact tl_append | exact tl_makeelement | exact tl_itertext)
  k_with "mine fnset0" => (
      refine' fnset0 ?F ?N ?U ?hc ?hdc ?hB ?_
      (case F => k_asm)
      (case N => k_asm)
      (case U => k_updF)
      (case hc => rfl)
      (case hdc => intro c q; cases q)
      (case hB => walk_at "mine tl"))
  k_with "mine fnset1" => (
      refine' fnset1 ?F ?N ?hf ?U ?hD ?hc ?hdf ?hdc ?hB ?hw ?hsz ?_
      (case F => k_asm)
      (case N => k_asm)
      (case hf => k_mem)
      (case U => k_updF)
      (case hD => with_reducible assumption)
      (case hc => rfl)
      (case hdf => first | k_ne | omega)
      (case hdc => intro c q; cases q)
      (case hB => walk_at "mine tl")
      (case hw => within_ways)
      (case hsz => decide))
  k_with "mine ne" => (with_reducible first
      | exact Nat.ne_of_lt (by assumption)
      | exact Nat.ne_of_lt (And.left (by assumption))
      | exact Nat.ne_of_lt (And.left (And.right (by assumption)))
      | exact Nat.ne_of_lt (And.right (by assumption))
      | exact Nat.ne_of_lt (And.left (And.right (And.right (by assumption))))
      | exact Nat.ne_of_lt (And.right (And.right (by assumption)))
      | exact Nat.ne_of_lt (And.left (And.right (And.right (And.right (by assumption)))))
      | exact Nat.ne_of_lt (And.right (And.right (And.right (by assumption))))
      | exact Nat.ne_of_lt (And.left (And.right (And.right (And.right (And.right (by assumption))))))
      | exact Nat.ne_of_lt (And.right (And.right (And.right (And.right (by assumption)))))
      | exact Nat.ne_of_lt (And.left (And.right (And.right (And.right (And.right (And.right (by assumption)))))))
      | exact Nat.ne_of_lt (And.right (And.right (And.right (And.right (And.right (by assumption))))))
      | exact Nat.ne_of_lt (And.left (And.right (And.right (And.right (And.right (And.right (And.right (by assumption))))))))
      | exact Nat.ne_of_lt (And.right (And.right (And.right (And.right (And.right (And.right (by assumption)))))))
      | exact Nat.ne_of_lt (And.left (And.right (And.right (And.right (And.right (And.right (And.right (And.right (by assumption)))))))))
      | exact Nat.ne_of_lt (And.right (And.right (And.right (And.right (And.right (And.right (And.right (by assumption))))))))
      | exact Nat.ne_of_lt (And.left (And.right (And.right (And.right (And.right (And.right (And.right (And.right (And.right (by assumption))))))))))
      | exact Nat.ne_of_lt (And.right (And.right (And.right (And.right (And.right (And.right (And.right (And.right (by assumption)))))))))
      | exact Nat.ne_of_lt (And.left (And.right (And.right (And.right (And.right (And.right (And.right (And.right (And.right (And.right (by assumption)))))))))))
      | exact Nat.ne_of_lt (And.right (And.right (And.right (And.right (And.right (And.right (And.right (And.right (And.right (by assumption))))))))))
      | exact Nat.ne_of_gt (by assumption)
      | exact Nat.ne_of_gt (And.left (by assumption))
      | exact Nat.ne_of_gt (And.left (And.right (by assumption)))
      | exact Nat.ne_of_gt (And.right (by assumption))
      | exact Nat.ne_of_gt (And.left (And.right (And.right (by assumption))))
      | exact Nat.ne_of_gt (And.right (And.right (by assumption)))
      | exact Nat.ne_of_gt (And.left (And.right (And.right (And.right (by assumption)))))
      | exact Nat.ne_of_gt (And.right (And.right (And.right (by assumption))))
      | exact Nat.ne_of_gt (And.left (And.right (And.right (And.right (And.right (by assumption))))))
      | exact Nat.ne_of_gt (And.right (And.right (And.right (And.right (by assumption)))))
      | exact Nat.ne_of_gt (And.left (And.right (And.right (And.right (And.right (And.right (by assumption)))))))
      | exact Nat.ne_of_gt (And.right (And.right (And.right (And.right (And.right (by assumption))))))
      | exact Nat.ne_of_gt (And.left (And.right (And.right (And.right (And.right (And.right (And.right (by assumption))))))))
      | exact Nat.ne_of_gt (And.right (And.right (And.right (And.right (And.right (And.right (by assumption)))))))
      | exact Nat.ne_of_gt (And.left (And.right (And.right (And.right (And.right (And.right (And.right (And.right (by assumption)))))))))
      | exact Nat.ne_of_gt (And.right (And.right (And.right (And.right (And.right (And.right (And.right (by assumption))))))))
      | exact Nat.ne_of_gt (And.left (And.right (And.right (And.right (And.right (And.right (And.right (And.right (And.right (by assumption))))))))))
      | exact Nat.ne_of_gt (And.right (And.right (And.right (And.right (And.right (And.right (And.right (And.right (by assumption)))))))))
      | exact Nat.ne_of_gt (And.left (And.right (And.right (And.right (And.right (And.right (And.right (And.right (And.right (And.right (by assumption)))))))))))
      | exact Nat.ne_of_gt (And.right (And.right (And.right (And.right (And.right (And.right (And.right (And.right (And.right (by assumption)))))))))))
  trivial
theorem ShW.pop {prog : Program} {w : World} {ns : List Int} {g h h' : Heap} {vl : Value} {t0 l W W' t ka t' ka' : Addr} {m m' : Str → Option Value} {r : List (Addr × Addr)} {K K' : Kids} {R : List Kids}
    (x : ShW prog w ns g vl h t0 l m W ((t, ka) :: (t', ka') :: r) (K :: K' :: R)) (k : Kp h h') (hg : g.objs.size ≤ h.objs.size) (hl : l < h.objs.size) (e : m' "way" = some (.ref W')) (lW : ListAt h' W' (((t', ka') :: r).map fun x => Value.ref x.1).reverse) (hz : h.objs.size ≤ W') :
    ShW prog w ns g vl h' t0 l m' W' ((t', ka') :: r) (K'.app (.loop K .nil) :: R) := by
  have hn : ∀ a ∈ ((t, ka) :: (t', ka') :: r).map (·.2), a ≠ W' := fun a ha q => by
    obtain ⟨f, hf, rfl⟩ := List.mem_map.mp ha
    exact absurd (x.opn.lt f hf) (Nat.not_lt.mpr (q ▸ hz))
  have nod := List.nodup_cons.mp x.nod
  refine ⟨e, lW, ?_, nod.2, fun q => hn _ (.tail _ q) rfl, ⟨?_, fun a ha => x.fr.2 a (.tail _ ha)⟩, ⟨fun q => ?_, fun q => x.ln.2 (.tail _ q)⟩, ?_⟩
  · have o₁ := x.opn.mono (S' := fun a => a ∉ ((t, ka) :: (t', ka') :: r).map (·.2) ∧ a ≠ W') fun a ha q => ⟨q.1, fun z => absurd (show W' < h.objs.size from z ▸ ha) (Nat.not_lt.mpr hz)⟩
    exact (o₁.keeps k).pop (fun a q => ⟨fun z => q.1 (.tail _ z), q.2⟩) ⟨nod.1, hn _ (.head _)⟩
  · cases e : g.get? W' with
    | none => rfl
    | some o => exact absurd (Heap.lt_size e) (Nat.not_lt.mpr (Nat.le_trans hg hz))
  · exact absurd (show W' < h.objs.size from q ▸ hl) (Nat.not_lt.mpr hz)
  · obtain ⟨k0, e⟩ := x.last
    exact ⟨k0, by simpa [List.getLast?_cons_cons] using e⟩
theorem ShB.map {g h : Heap} {L nb da c1 c2 c3 l I : Addr} {zs : List Value} {it : Option Obj} {m m' : Str → Option Value} (x : ShB g L nb da c1 c2 c3 l I zs it m h) (e1 : m' "names" = m "names") (e2 : m' "table" = m "table") : ShB g L nb da c1 c2 c3 l I zs it m' h := ⟨e1.trans x.nm, e2.trans x.tb, x.base, x.tab, x.lst⟩
theorem Tab3.but {h h' : Heap} {c1 c2 c3 L : Addr} {m : Str → Option Value} (x : Tab3 h c1 c2 c3) (n : h.Ns L m) (k : ∀ b o, @Ne Nat b L → h.get? b = some o → h'.get? b = some o) : Tab3 h' c1 c2 c3 := x.at fun b o ⟨vs, d⟩ e => k b o (fun q => by
  obtain ⟨o', es, ep, e', d', _⟩ := n
  rw [show b = L from q, show h.get? L = some o' from e'] at e
  cases e; rw [d] at d'; cases d') e
theorem ShB.any {g h : Heap} {L nb da c1 c2 c3 l I : Addr} {zs : List Value} {it it' : Option Obj} {m : Str → Option Value} (x : ShB g L nb da c1 c2 c3 l I zs it m h) : ShB g L nb da c1 c2 c3 l I zs it' m h := ⟨x.nm, x.tb, x.base, x.tab, x.lst⟩
theorem th_hX0 {prog : Program} {w : World} {h₀ h' h'' g' : Heap} {L I t D ka : Addr} {m m' : Str → Option Value} {tag text : Str} {times : Int} {vl : Value} {tx tn : Tok} (nw : NewOr g' h₀) (kg : Kp g' h') (nl : NoLists g') (nL : h₀.Ns L m) (kL : h'.Ns L m') (hI : h'.objs.size ≤ I)
    (k : ∀ b o, @Ne Nat b L → h'.get? b = some o → h''.get? b = some o) (sS : Static prog w g' t tag vl D ka) (dD : h'.DictOf (strKind prog w) D (attKvs (.str text tx) (.int times tn) vl)) (hDL : @Ne Nat D L) :
    Th prog w (hX h'' L I) t tag text times vl ka := by
  have ne : ∀ b o, g'.get? b = some o → @Ne Nat b L := fun b o e q => by
    obtain rfl : b = L := q
    rcases nw _ _ e with z | ⟨vs, z⟩
    · obtain ⟨o', es, ep, e', _⟩ := nL
      rw [show h₀.get? b = some o' from e'] at z; cases z
    · obtain ⟨o', es, ep, e', d, _⟩ := kL
      rw [kg _ _ e] at e'; cases e'; rw [z] at d; cases d
  have lt : ∀ b o, h'.get? b = some o → @Ne Nat b I := fun b o e => Nat.ne_of_lt (Nat.lt_of_lt_of_le (Heap.lt_size e) hI)
  exact ⟨g', D, tx, tn, sS, fun b o e => hX_get (k _ _ (ne b o e) (kg _ _ e)) (ne b o e) (lt b o (kg _ _ e)), nl, dD.at fun o e => hX_get (k _ _ hDL e) hDL (lt _ _ e)⟩
theorem fn99 (P : Params) : ∃ o fd, (hd.heap_1 P).lookup 99 = some o ∧ o.data = .func fd := ⟨_, _, rfl, rfl⟩
theorem fn127 (P : Params) : ∃ o fd, (hd.heap_1 P).lookup 127 = some o ∧ o.data = .func fd := ⟨_, _, rfl, rfl⟩
theorem sheet_spec {prog : Program} {w : World} {p loose mean mg mb} {s : Shared} {b₀ : Heap} {na nb da : Addr} {nvs bvs : List Value} {xs ns : List Int} {t1 t2 : Tok} {Q E : Value → Shared → Prop}
    (X : (hd.heap_1 w.params).In b₀) (T : Top p loose mean mg mb b₀) (k₀ : Kp b₀ s.heap) (h108 : s.heap.get? 108 = some (tabObj #[])) (n108 : b₀.get? 108 = none)
    (hnum : IntL s.heap na nvs xs) (hxl : xs.length = 5) (hNm : IntL s.heap nb bvs ns) (N : Names ns) (hA : s.heap.DictOf (strKind prog w) da (attKvs (.str "" t1) (.int 1 t2) .none)) (hda : (da == sysModules) = false)
    (ret : ∀ t ka vs K h' tk' c1 c2 c3 i d j tt, (∀ b o, b ≠ 108 → s.heap.get? b = some o → h'.get? b = some o) → Tab3 h' c1 c2 c3 → Th prog w h' t "sheet" "" 1 (.str (stText ns i d j) tt) ka → ListAt h' ka vs → KidsAt prog w ns h' 0 vs K → Kids.SInv 4 [K] → i < 4 → d < 7 → j < 4 → i ≠ j →
      Q (.ref t) { s with heap := h', toks := tk' }) :
    wpAny (model prog w) (AX 680 4980) (call (.ref 134) [.ref na, .ref nb, .ref da]) Q E s := by
  k_with "mine call" => (
    (refine wpAny_weaken (n := 700) (u := 5000) ?_ rfl (Nat.le_of_ble_eq_true rfl) rfl (Nat.le_of_ble_eq_true rfl)
     refine law_text_spec (X₁.keeps (Fr.keep (by assumption))) (T₁.keeps (Fr.keep (by assumption))) (g2.keeps (Fr.keep (by assumption))).isList g2.1 N.len N.lo N.hi ?_
     intro r' t' h' tk' k' hr'
     have F' := Fr.keeps (by assumption) k'
     have N' := News.grown (by assumption) k'
     dsimp only))
  refine' enterH (hid := [(108, tabObj #[])]) X T k₀ (fun q hq => by rw [List.mem_singleton.mp hq]; exact ⟨h108, n108⟩) ?k6 ?k7 ?k8 ?k9 ?kB ?kD ?_ ?c2 ?c3 ?c4
  walk_at "mine enterH"
  intro g L₁ h₁ tk₁ cells₁ X₁ T₁ up dn hL F₁ N₁ Y₁
  obtain rfl : cells₁ = [] := by
    have Y₂ : CellsAre _ [] cells₁ := Y₁
    cases Y₂; rfl
  simp only [List.nil_append] at N₁
  clear Y₁
  (try dsimp only)
  have g1 : IntL g na nvs xs := by
    refine gg fun P hP => ?_
    obtain ⟨i, n, e⟩ := hnum
    refine hP ?_
    clear hP
    exact ⟨i, n, up _ _ e fun hm => by rw [List.mem_singleton.mp hm, h108] at e; cases e⟩
  have g2 : IntL g nb bvs ns := by
    refine gg fun P hP => ?_
    obtain ⟨i, n, e⟩ := hNm
    refine hP ?_
    clear hP
    exact ⟨i, n, up _ _ e fun hm => by rw [List.mem_singleton.mp hm, h108] at e; cases e⟩
  have g3 : g.DictOf (strKind prog w) da (attKvs (.str "" t1) (.int 1 t2) .none) := hA.at fun o e => up _ o e (by
    intro hm
    refine gg fun P hP => ?_
    obtain ⟨o', es, ep, e', x, _⟩ := hA
    refine hP ?_
    clear hP
    rw [List.mem_singleton.mp hm, h108] at e'
    cases e'
    exact absurd x.1 (by intro q; cases q))
  have hl₁ := g1.isList
  have hi₁ := g1.1
  have hls := hi₁.length
  k_steps
  rename_i D ha oa Fa Na loD hda₀ l1 tq h₂ o₂ F₂ N₂ hd₂ hf₂
  have k₂ : Kp g h₂ := F₂.keep
  have n108g : g.get? 108 = none := (N₁ _ (.head _)).2.2
  have D2 := N₂ _ (.head _)
  have t2 := N₂ _ (.tail _ (.head _))
  refine wpAny_weaken (n := 700) (u := 5000) ?_ rfl (Nat.le_of_ble_eq_true rfl) rfl (Nat.le_of_ble_eq_true rfl)
  refine thing_spec1 (b₀ := g) X₁ T₁ k₂ t2.1 n108g (vl := .str r' t') (Heap.dictOf_iff.mpr ⟨o₂, D2.1, hd₂⟩) ?_
  intro t ka gS h₃ tk₃ c1 c2 c3 k₃ tab₃ kg₃ nl₃ nw₃ sS₃ lka₃ zka₃ zt₃
  have l108 : @Ne Nat L₁ 108 := Nat.ne_of_gt (by rw [hL]; exact Heap.lt_size h108)
  refine gg fun P hP => ?_
  obtain ⟨m₂, n₂, q1, q2, q3⟩ : ∃ m₂ : Str → Option Value, h₃.Ns L₁ m₂ ∧ m₂ "numbers" = some (.ref na) ∧ m₂ "names" = some (.ref nb) ∧ m₂ "table" = some (.ref da) := ⟨_, F₂.ns.at' fun o e => k₃ _ o l108 e, rfl, rfl, rfl⟩
  refine hP ?_
  clear hP
  have kg3 : Kp g h₃ := fun b o e => k₃ b o (ne_of_none (n108g) e) (k₂ b o e)
  have nLg : g.get? L₁ = none := by
    cases e : g.get? L₁ with
    | none => rfl
    | some o => exact absurd (Heap.lt_size (dn _ _ e)) (by rw [hL]; exact Nat.lt_irrefl _)
  have hgz : g.objs.size ≤ h₃.objs.size := by
    have e1 : g.objs.size ≤ L₁ := F₂.above
    exact Nat.le_of_lt (Nat.lt_of_le_of_lt e1 n₂.lt)
  refine gg fun P hP => ?_
  obtain ⟨xq, hr⟩ : ∃ xq, r' = stText ns (stTo xq) (stDg xq) (stFr xq) := ⟨_, hr'⟩
  refine hP ?_
  clear hP
  have n₀ := F₂.ns
  clear F₁ N₁ Fa Na F' N' F₂ N₂
  refine args_nil ?_
  show wpAny _ _ (newList [.ref t]) _ _ _
  refine wpAny_newObj_type (data := .seq ([.ref t] : List Value).toArray) (dict := none) ?_ (hd := by
    have : (2000 : Nat) ≤ sizeLine := by decide
    show (1 : Nat) ≤ _; omega)
  have u4 : Kp h₃ (h₃.push { cls := .type "list", data := .seq ([.ref t] : List Value).toArray }) := fun b o e => Heap.get?_push_of_some _ e
  have e4 : ListAt (h₃.push { cls := .type "list", data := .seq ([.ref t] : List Value).toArray }) h₃.objs.size [.ref t] := ⟨_, Heap.get?_push_size _ rfl⟩
  generalize hH4 : h₃.push { cls := .type "list", data := .seq ([.ref t] : List Value).toArray } = h₄ at u4 e4
  refine wpAny_storeName_local rfl (n₂.keeps u4) (fun h₅ n5 s5 => ?_) rfl
  dsimp only
  generalize hW : h₃.objs.size = W at e4 n5
  have hWL : @Ne Nat W L₁ := by rw [← hW]; exact Nat.ne_of_gt n₂.lt
  have k35 : ∀ b o, @Ne Nat b L₁ → h₃.get? b = some o → h₅.get? b = some o := fun b o hb e => s5.extBut b o hb (u4 b o e)
  refine gg fun P hP => ?_
  obtain ⟨m₅, n₅, p1, p2, p3, p4⟩ : ∃ m₅ : Str → Option Value, h₅.Ns L₁ m₅ ∧ m₅ "numbers" = some (.ref na) ∧ m₅ "names" = some (.ref nb) ∧ m₅ "table" = some (.ref da) ∧ m₅ "way" = some (.ref W) := by
    refine ⟨_, n5, ?_, ?_, ?_, ?_⟩
    · rw [if_neg (by decide)]; exact q1
    · rw [if_neg (by decide)]; exact q2
    · rw [if_neg (by decide)]; exact q3
    · rw [if_pos rfl]
  refine hP ?_
  clear hP
  clear n5
  refine gg fun P hP => ?_
  obtain ⟨txq, tnq, d₃⟩ : ∃ txq tnq, h₃.DictOf (strKind prog w) D (attKvs (.str "" txq) (.int 1 tnq) (.str r' t')) :=
    ⟨_, _, (Heap.dictOf_iff (knd := strKind prog w)).mpr ⟨o₂, k₃ _ _ (Nat.ne_of_gt l1) D2.1, hd₂⟩⟩
  refine hP ?_
  clear hP
  have kg5 : Kp g h₅ := fun b o e => k35 b o (ne_of_none (nLg) e) (kg3 b o e)
  have tab₅ : Tab3 h₅ c1 c2 c3 := tab₃.but n₂ k35
  have z35 : h₃.objs.size < h₅.objs.size := by
    obtain ⟨n, e⟩ := e4
    rw [hW]
    exact Heap.lt_size (s5.extBut _ _ hWL e)
  have lW₅ : ListAt h₅ W [.ref t] := by obtain ⟨n, e⟩ := e4; exact ⟨n, s5.extBut _ _ hWL e⟩
  have hkaL : @Ne Nat ka L₁ := lka₃.neNs n₂
  have gS : Gl g "SubElement" (.ref 99) := Gl.of X₁ T₁ (by k_is)
  have gT : Gl g "_law_text" (.ref 127) := Gl.of X₁ T₁ (by k_is)
  have bL : Bi g "len" (.builtin "len") := Bi.of X₁ T₁ (by k_is) boot_len (by decide)
  have nkg : ∀ {a : Addr}, @LE.le Nat _ h₂.objs.size a → g.get? a = none := fun {a} za => by
    cases e : g.get? a with
    | none => rfl
    | some o => exact absurd (Heap.lt_size (k₂ _ _ e)) (Nat.not_lt.mpr za)
  have h23 : h₂.objs.size ≤ h₃.objs.size := by
    rcases Nat.lt_or_ge h₃.objs.size h₂.objs.size with q | q
    · exact absurd lka₃.lt (Nat.not_lt.mpr (Nat.le_trans (Nat.le_of_lt q) zka₃))
    · exact q
  refine wpAny_execs_cons ?_
  refine for_listM (s := { s with heap := h₅, toks := _ })
    (fun l zs I i m h => ShB g L₁ nb da c1 c2 c3 l I zs none m h ∧ zs = nvs.take 4 ∧ g.objs.size ≤ I ∧ ∃ W ts st, ShW prog w ns g (.str r' t') (hX h L₁ I) t l m W ts st ∧ Kids.SInv i st) rfl rfl rfl ?_
  refine cutFirst (s := { s with heap := h₅, toks := _ }) (k := 4) (ys := nvs) (Ev.local n₅ p1 rfl rfl) (g1.keeps kg5).isList (by omega) (by omega) fun l h₆ tk₆ k₆ zl l₆ => ?_
  have hlL : @Ne Nat l L₁ := Nat.ne_of_gt (Nat.lt_of_lt_of_le (show L₁ < h₅.objs.size from n₅.lt) zl)
  have h56 : h₅.objs.size ≤ h₆.objs.size := Nat.le_trans zl (Nat.le_of_lt l₆.lt)
  refine ⟨l, nvs.take 4, m₅, h₆, tk₆, rfl, rfl, by simp; omega, n₅.keeps k₆, ?_, ?_, ?_, ?_, ?_⟩
  · rintro i m h' ⟨y, _⟩
    exact y.lst.keeps fun b o e => hX_of e
  · intro i m h' h'' qq0 kk
    refine gg fun P hP => ?_
    obtain ⟨y, y1, y2, W', ts, st, x, sv⟩ := qq0
    refine hP ?_
    clear hP
    have kx : Kp (hX h' L₁ h₆.objs.size) (hX h'' L₁ h₆.objs.size) := hX_kp fun b o hb hI e => kk b o (Ne.symm hI) hb e
    exact ⟨y.keeps kx, y1, y2, W', ts, st, x.keeps kx, sv⟩
  · have k36 : ∀ b o, @Ne Nat b L₁ → h₃.get? b = some o → h₆.get? b = some o := fun b o hb e => k₆ b o (k35 b o hb e)
    have toX : ∀ {a : Addr} {xs : List Value}, ListAt h₆ a xs → @Ne Nat a L₁ → ListAt (hX h₆ L₁ h₆.objs.size) a xs := fun l hb => hX_list l hb (Nat.ne_of_lt l.lt)
    refine ⟨⟨p2, p3, fun b o e => ?_, ?_, toX l₆ hlL⟩, rfl, Nat.le_trans hgz (Nat.le_trans (Nat.le_of_lt z35) h56), W, [(t, ka)], [.nil], ⟨p4, toX (lW₅.keeps k₆) hWL, ?_, by simp, ?_, ⟨?_, ?_⟩, ⟨?_, ?_⟩, ka, rfl⟩, Kids.SInv.start⟩
    · refine hX_get (k₆ _ _ (kg5 _ _ e)) (fun q => ?_) (Nat.ne_of_lt (Heap.lt_size (k₆ _ _ (kg5 _ _ e))))
      rw [show b = L₁ from q, nLg] at e; cases e
    · exact (tab₅.keeps k₆).at fun b o ⟨vs, d⟩ e => hX_get e (fun q => by
        refine gg fun P hP => ?_
        obtain ⟨o', es, ep, e', d', _⟩ := n₅.keeps k₆
        refine hP ?_
        clear hP
        rw [show b = L₁ from q, show h₆.get? L₁ = some o' from e'] at e
        cases e; rw [d] at d'; cases d') (Nat.ne_of_lt (Heap.lt_size e))
    · refine ⟨⟨[], toX (lka₃.elim fun n e => ⟨n, k36 _ _ hkaL e⟩) hkaL, rfl⟩, ?_⟩
      exact th_hX0 nw₃ kg₃ nl₃ (show ({ s with heap := h₂, toks := _ } : Shared).heap.Ns L₁ _ from n₀) n₂ (Nat.le_trans (Nat.le_of_lt z35) h56) k36 sS₃ d₃ D2.2.1
    · intro q
      rw [List.mem_singleton.mp q] at hW
      exact absurd lka₃.lt (Nat.not_lt.mpr (Nat.le_of_eq hW))
    · exact nkg (Nat.le_trans h23 (Nat.le_of_eq hW))
    · intro a ha
      rw [List.mem_singleton.mp ha]
      exact nkg zka₃
    · exact Nat.ne_of_gt (Nat.lt_of_lt_of_le (show W < h₅.objs.size from hW ▸ z35) zl)
    · intro q
      have : l = ka := List.mem_singleton.mp q
      have h1 := lka₃.lt
      rw [← this] at h1
      exact absurd (Nat.lt_trans h1 z35) (Nat.not_lt.mpr zl)
  · intro i v m h' tk' it hv qq0 hn hit hitd
    refine gg fun P hP => ?_
    obtain ⟨y, _, hgI, W', ts, st, x, sv⟩ := qq0
    refine hP ?_
    clear hP
    generalize h₆.objs.size = I at *
    have hv' : nvs[i]? = some v ∧ i < 4 := by
      rw [List.getElem?_take] at hv
      split at hv
      · exact ⟨hv, by assumption⟩
      · cases hv
    refine gg fun P hP => ?_
    obtain ⟨n, tv, rfl, hxn⟩ := IntsAre.at g1.1 i v hv'.1
    obtain ⟨mk, hnk, e0, e1, e2, e3⟩ : ∃ mk : Str → Option Value, h'.Ns L₁ mk ∧ mk "number" = some (.int n tv) ∧ mk "way" = m "way" ∧ mk "names" = m "names" ∧ mk "table" = m "table" := by
      refine ⟨_, hn, ?_, ?_, ?_, ?_⟩
      · rw [if_pos rfl]
      · rw [if_neg (by decide)]
      · rw [if_neg (by decide)]
      · rw [if_neg (by decide)]
    refine hP ?_
    clear hP
    clear hn
    have x' := x.map (m' := mk) e1
    have y' := y.map (m' := mk) e2 e3
    refine gg fun P hP => ?_
    obtain ⟨⟨t₁, k₁⟩, r, rfl⟩ : ∃ f r, ts = f :: r := by
      cases ts with
      | nil => cases st <;> exact absurd x.opn id
      | cons f r => exact ⟨f, r, rfl⟩
    obtain ⟨K, R, _, _, _, _, _, rfl, _⟩ := x.opn.head
    refine hP ?_
    clear hP
    have hKz : K.sz ≤ 1000 := by
      have := sv.zl.2
      simp only [Kids.zl] at this
      omega
    have hlen : (((t₁, k₁) :: r).map fun x => Value.ref x.1).reverse.length = r.length + 1 := by simp
    have hrl : r.length + 1 ≤ 3 := by
      have h1 := x.opn.len
      have h2 := sv.len
      simp only [List.length_cons] at h1 h2
      omega
    have hwl : (((t₁, k₁) :: r).map fun x => Value.ref x.1).reverse = (r.map fun x => Value.ref x.1).reverse ++ [.ref t₁] := by simp
    have ksx : ∀ {h : Heap}, Kp (hX h L₁ I) h := fun b o e => hX_of e
    refine wpAny_execs_cons (wpAny_mono (Q := fun fl s₁ => fl = .next ∧ ∃ h₁ tk₁ t₁ k₁ r K R, s₁ = { s with heap := h₁, toks := tk₁ } ∧ h₁.get? I = some it ∧ h₁.Ns L₁ mk ∧ ShB g L₁ nb da c1 c2 c3 l I (nvs.take 4) (some it) mk h₁ ∧ ShW prog w ns g (.str r' t') (hX h₁ L₁ I) t l mk W' ((t₁, k₁) :: r) (K :: R) ∧ K.sz ≤ 1000 ∧ r.length + 1 ≤ 3 ∧
      (∀ a d b, a < 4 → d < 7 → b < 4 → a ≠ b → Kids.SInv (i + 1) (K.app (.step a d b .nil) :: R))) ?_ ?_ fun _ _ q => q)
    · refine wpAny_If (testLt (s := { s with heap := h', toks := tk' }) ((Ev.local hnk e0 rfl rfl).mono fun v e => ⟨_, e⟩) (bL.keeps fun b o e => ksx _ _ (y.base _ _ e)) rfl rfl rfl rfl (Ev.local hnk (e1.trans x.way) rfl rfl) (x.lw.keeps ksx).isList (by rw [hlen]; omega) rfl fun tk₁ => ?_)
      by_cases c : (n.fdiv 84).fmod 3 = 1 ∧ ((((((t₁, k₁) :: r).map fun x => Value.ref x.1).reverse.length : Nat) : Int) < 3)
      · rw [if_pos (by simp only [c.1, c.2, decide_true, Bool.and_self])]
        have c2 := c.2
        rw [hlen] at c2
        refine wpAny_execs_cons (wpAny_Expr (appendE (s := { s with heap := h', toks := tk₁ }) (Ev.local hnk (e1.trans x.way) rfl rfl) ⟨_, x.lw.keeps ksx⟩ fun tk₂ => ?_))
        refine callKw (hs2 := ⟨_, rfl, fun _ _ h => h⟩) (s := { s with heap := h', toks := tk₂ }) (a := 99) (u1 := .ref t₁) (u3 := .ref da) (P2 := fun v => ∃ t, v = .str "loop" t) (Pk := fun v => ∃ t, v = .int 2 t) (Ev.global (gS.keeps fun b o e => ksx _ _ (y.base _ _ e)) rfl rfl rfl)
          (Ev.last (Ev.local hnk (e1.trans x.way) rfl rfl) (by rw [← hwl]; exact (x.lw.keeps ksx).isList) (by simp; omega)) Ev.str (Ev.local hnk (e3.trans y.tb) rfl rfl) (fnO (X₁.keeps fun b o e => ksx _ _ (y.base _ _ e)) (fn99 _))
          (fun tk Q' q => wpAny_Constant_int (q _ _ _ (fun _ _ e => e) ⟨_, rfl⟩)) ?_
        intro u2 v hh tk₃ qq0 qq1 kk
        refine gg fun P hP => ?_
        obtain ⟨tq', rfl⟩ := qq0
        obtain ⟨tx', rfl⟩ := qq1
        refine hP ?_
        clear hP
        have kx : Kp (hX h' L₁ I) (hX hh L₁ I) := hX_kp fun b o _ _ e => kk b o e
        refine wpAny_weaken (n := 690) (u := 4990) ?_ rfl (Nat.le_of_ble_eq_true rfl) rfl (Nat.le_of_ble_eq_true rfl)
        refine sh_open (s := { s with heap := hh, toks := tk₃ }) X₁ T₁ n108g g3 hda (hnk.keeps kk) (kk _ _ hit) hitd (x'.keeps kx) (y'.any.keeps kx) hKz (Nat.le_trans hgI (Nat.le_of_lt (Heap.lt_size (kk _ _ hit)))) fun t₂ h₂ tk₄ lW₂ post => ?_
        refine ⟨_, lW₂, by simp; omega, fun h₃ tk₅ u₃ l₃ => ?_⟩
        refine gg fun P hP => ?_
        obtain ⟨n₃, i₃, y₃, k₂, x₃⟩ := post h₃ u₃ l₃
        refine hP ?_
        clear hP
        refine wpAny_execs_nil ⟨rfl, h₃, tk₅, t₂, k₂, (t₁, k₁) :: r, .nil, K :: R, rfl, i₃, n₃, y₃, x₃, Nat.zero_le _, by simp only [List.length_cons]; omega, fun a d b h1 h2 h3 h4 => ?_⟩
        exact sv.push (by have := x.opn.len; simp only [List.length_cons] at this ⊢; omega) h1 h2 h3 h4
      · rw [if_neg (fun q => c (by simpa using q))]
        exact wpAny_execs_nil ⟨rfl, h', tk₁, t₁, k₁, r, K, R, rfl, hit, hnk, y'.any, x', hKz, hrl, fun a d b h1 h2 h3 h4 => sv.step h1 h2 h3 h4⟩
    · intro fl s₁ qq0
      refine gg fun P hP => ?_
      obtain ⟨rfl, h₁, tk₁, t₁, k₁, r, K, R, rfl, hit₁, hn₁, y₁, x₁, hKz, hrl, fin⟩ := qq0
      refine hP ?_
      clear hP
      have hlen : (((t₁, k₁) :: r).map fun x => Value.ref x.1).reverse.length = r.length + 1 := by simp
      have hwl : (((t₁, k₁) :: r).map fun x => Value.ref x.1).reverse = (r.map fun x => Value.ref x.1).reverse ++ [.ref t₁] := by simp
      refine wpAny_execs_cons (wpAny_Expr_any ?_)
      refine callKw (s := { s with heap := h₁, toks := tk₁ }) (a := 99) (u1 := .ref t₁) (u3 := .ref da) (P2 := fun v => ∃ t, v = .str "step" t) (Pk := fun v => ∃ t, v = .str (stText ns (stTo n) (stDg n) (stFr n)) t) (Ev.global (gS.keeps fun b o e => ksx _ _ (y₁.base _ _ e)) rfl rfl rfl)
          (Ev.last (Ev.local hn₁ x₁.way rfl rfl) (by rw [← hwl]; exact (x₁.lw.keeps ksx).isList) (by simp; omega)) Ev.str (Ev.local hn₁ y₁.tb rfl rfl) (fnO (X₁.keeps fun b o e => ksx _ _ (y₁.base _ _ e)) (fn99 _)) ?_ ?_ (hs2 := ⟨_, rfl, fun Q' s' h => wpAny_bind (wpAny_mono h (fun _ _ q => wpAny_bind (wpAny_standAt (wpAny_pure q))) fun _ _ x => x)⟩)
      · intro tk Q' q
        refine call2 (s := { s with heap := h₁, toks := tk }) (a := 127) (u1 := .int n tv) (P2 := fun u => u = .ref nb) (Ev.global (gT.keeps fun b o e => ksx _ _ (y₁.base _ _ e)) rfl rfl rfl) (Ev.local hn₁ e0 rfl rfl) (Ev.local hn₁ y₁.nm rfl rfl) (fnO (X₁.keeps fun b o e => ksx _ _ (y₁.base _ _ e)) (fn127 _)) fun u2 tk₂ e => ?_
        subst e
        refine wpAny_weaken (n := 700) (u := 5000) ?_ rfl (Nat.le_of_ble_eq_true rfl) rfl (Nat.le_of_ble_eq_true rfl)
        refine law_text_spec (s := { s with heap := h₁, toks := tk₂ }) (X₁.keeps fun b o e => ksx _ _ (y₁.base _ _ e)) (T₁.keeps fun b o e => ksx _ _ (y₁.base _ _ e)) (g2.keeps fun b o e => ksx _ _ (y₁.base _ _ e)).isList g2.1 N.len N.lo N.hi fun q tq h₂ tk₃ k₂ eq => ?_
        subst eq
        exact q _ _ _ k₂ ⟨tq, rfl⟩
      intro u2 v hh tk₃ qq0 qq1 kk
      refine gg fun P hP => ?_
      obtain ⟨tq', rfl⟩ := qq0
      obtain ⟨tx', rfl⟩ := qq1
      refine hP ?_
      clear hP
      have kx : Kp (hX h₁ L₁ I) (hX hh L₁ I) := hX_kp fun b o _ _ e => kk b o e
      refine wpAny_weaken (n := 690) (u := 4990) ?_ rfl (Nat.le_of_ble_eq_true rfl) rfl (Nat.le_of_ble_eq_true rfl)
      refine sh_lay (s := { s with heap := hh, toks := tk₃ }) X₁ T₁ n108g g3 hda (hn₁.keeps kk) (kk _ _ hit₁) hitd (x₁.keeps kx) (y₁.keeps kx) hKz fun t₂ h₂ tk₄ n₂ i₂ x₂ y₂ => ?_
      have sv₂ := fin (stTo n) (stDg n) (stFr n) (stTo_lt n) (stDg_lt n) (stFr_lt n) (stTo_ne n)
      have b₂ : Kp g h₂ := fun b o e => ksx _ _ (y₂.base _ _ e)
      have fin₃ : ∀ {A' : Around} {env' : Env} (h₃ : Heap) (tk₅ : Nat) (m₃ : Str → Option Value) (W₃ : Addr) (ts₃ : List (Addr × Addr)) (st₃ : List Kids), h₃.get? I = some it → h₃.Ns L₁ m₃ → ShB g L₁ nb da c1 c2 c3 l I (nvs.take 4) none m₃ h₃ → ShW prog w ns g (.str r' t') (hX h₃ L₁ I) t l m₃ W₃ ts₃ st₃ → Kids.SInv (i + 1) st₃ →
          wpAny (model prog w) A' (execs [] env') (fun fl s' => fl = .next ∧ ∃ h' tk' m', s' = { s with heap := h', toks := tk' } ∧ h'.get? I = some it ∧ h'.Ns L₁ m' ∧ (ShB g L₁ nb da c1 c2 c3 l I (nvs.take 4) none m' h' ∧ nvs.take 4 = nvs.take 4 ∧ g.objs.size ≤ I ∧ ∃ W ts st, ShW prog w ns g (.str r' t') (hX h' L₁ I) t l m' W ts st ∧ Kids.SInv (i + 1) st)) (fun _ _ => False) { s with heap := h₃, toks := tk₅ } :=
        fun {A'} {env'} h₃ tk₅ m₃ W₃ ts₃ st₃ q1 q2 q3 q4 q5 => wpAny_execs_nil ⟨rfl, h₃, tk₅, m₃, rfl, q1, q2, q3, rfl, hgI, W₃, ts₃, st₃, q4, q5⟩
      refine wpAny_execs_cons ?_
      refine wpAny_If (testGt (s := { s with heap := h₂, toks := tk₄ }) ((Ev.local n₂ e0 rfl rfl).mono fun v e => ⟨_, e⟩) (bL.keeps b₂) rfl rfl rfl rfl (Ev.local n₂ x₂.way rfl rfl) (x₂.lw.keeps ksx).isList (by rw [hlen]; omega) rfl fun tk₅ => ?_)
      by_cases c : (n.fdiv 84).fmod 3 = 2 ∧ ((((((t₁, k₁) :: r).map fun x => Value.ref x.1).reverse.length : Nat) : Int) > 1)
      · rw [if_pos (by simp only [c.1, c.2, decide_true, Bool.and_self])]
        have c2 := c.2
        rw [hlen] at c2
        refine gg fun P hP => ?_
        obtain ⟨⟨t₃, k₃⟩, r₃, rfl⟩ : ∃ f q, r = f :: q := by
          cases r with
          | nil => simp at c2
          | cons f q => exact ⟨f, q, rfl⟩
        obtain ⟨K₃, R₃, rfl⟩ : ∃ f q, R = f :: q := by
          have := x₂.opn.len
          cases R with
          | nil => simp at this
          | cons f q => exact ⟨f, q, rfl⟩
        refine hP ?_
        clear hP
        refine wpAny_execs_cons (wpAny_Assign_Name ?_)
        refine cutLast (s := { s with heap := h₂, toks := tk₅ }) (Ev.local n₂ x₂.way rfl rfl) (by rw [← hwl]; exact (x₂.lw.keeps ksx).isList) (by simp only [List.length_reverse, List.length_map, List.length_cons] at hrl ⊢; omega) fun W₄ h₄ tk₆ k₄ z₄ l₄ => ?_
        refine wpAny_storeName_local rfl (n₂.keeps k₄) (fun h₅' n5' s5' => ?_) rfl
        have k45 : Kp (hX h₂ L₁ I) (hX h₅' L₁ I) := hX_kp fun b o hb _ e => s5'.extBut b o hb (k₄ b o e)
        have hW4L : @Ne Nat W₄ L₁ := Nat.ne_of_gt (Nat.lt_of_lt_of_le (show L₁ < h₂.objs.size from n₂.lt) z₄)
        have hW4I : @Ne Nat W₄ I := Nat.ne_of_gt (Nat.lt_of_lt_of_le (Heap.lt_size i₂) z₄)
        have hIL : @Ne Nat I L₁ := fun q => by
          refine gg fun P hP => ?_
          obtain ⟨o', es, ep, e', d', _⟩ := n₂
          refine hP ?_
          clear hP
          rw [← show I = L₁ from q, i₂] at e'
          cases e'
          refine gg fun P hP => ?_
          obtain ⟨vs, d, _⟩ := hitd
          refine hP ?_
          clear hP
          rw [d] at d'; cases d'
        refine wpAny_execs_nil (fin₃ h₅' _ _ W₄ _ _ (s5'.extBut _ _ hIL (k₄ _ _ i₂)) n5' ((y₂.any.keeps k45).map ?_ ?_) (x₂.pop k45 ?_ ?_ ?_ ?_ ?_) sv₂.pop)
        · rw [if_neg (by decide)]
        · rw [if_neg (by decide)]
        · rw [hX, hideAll_size]; exact Nat.le_trans hgI (Nat.le_of_lt (Heap.lt_size i₂))
        · exact y₂.lst.lt
        · rw [if_pos rfl]
        · have lw₄ : ListAt h₅' W₄ _ := let ⟨n, e⟩ := l₄; ⟨n, s5'.extBut _ _ hW4L e⟩
          exact hX_list lw₄ hW4L hW4I
        · rw [hX, hideAll_size]; exact z₄
      · rw [if_neg (fun q => c (by simpa using q))]
        exact wpAny_execs_nil (fin₃ h₂ tk₅ mk W' _ _ i₂ n₂ y₂.any x₂ sv₂)
  · intro m h' tk' qq0 hn
    refine gg fun P hP => ?_
    obtain ⟨y, _, hgI, W', ts, st, x, sv⟩ := qq0
    refine hP ?_
    clear hP
    have ksx : Kp (hX h' L₁ h₆.objs.size) h' := fun b o e => hX_of e
    rw [show (nvs.take 4).length = 4 by simp; omega] at sv
    refine gg fun P hP => ?_
    obtain ⟨t₁, ka₁, vs₁, K₁, hlast, th₁, la₁, ki₁, sv₁⟩ := OpenAt.all sv (x.opn.mono fun _ _ _ => trivial)
    obtain ⟨k0, hl0⟩ := x.last
    refine hP ?_
    clear hP
    rw [hl0] at hlast
    cases hlast
    have hws : ∃ q, (ts.map fun x => Value.ref x.1).reverse = .ref t :: q := by
      obtain ⟨ys, rfl⟩ := List.getLast?_eq_some_iff.mp hl0
      exact ⟨(ys.map fun x => Value.ref x.1).reverse, by simp⟩
    obtain ⟨q, hws⟩ := hws
    have lw := x.lw.keeps ksx
    rw [hws] at lw
    refine wpAny_execs_cons (wpAny_Return_some ?_)
    refine Ev.go (s := s) (Ev.sub (h := h') (i := 0) (Ev.local hn x.way rfl rfl) (Ev.int.mono fun v ⟨tq, e⟩ => ⟨tq, e⟩) lw.isList (by simp) (by decide)) fun tk₂ => ?_
    refine ret t ka₁ vs₁ K₁ h' tk₂ c1 c2 c3 _ _ _ t' (fun b o hb e => ksx _ _ (y.base _ _ (up b o e fun hm => hb (List.mem_singleton.mp hm)))) (y.tab.keeps ksx) ?_ (la₁.keeps ksx) (ki₁.at.keeps ksx) sv₁ (stTo_lt xq) (stDg_lt xq) (stFr_lt xq) (stTo_ne xq)
    rw [← hr]
    exact th₁.keeps ksx
theorem revText (ns : List Int) (i d j : Nat) (uk : Tok) : Txt.sliceBy (stText ns i d j) none none (-1, uk) = stText ns j d i := by
  have e : slicePicked (stText ns i d j) none none (some (-1, uk)) = [2, 1, 0] := by
    show Builtin.Str.strSliceIndices none none (-1) 3 = [2, 1, 0]
    decide
  unfold Txt.sliceBy
  rw [e]
  rfl
section
variable {prog : Program} {w : World} {A : Around} {env : Env} {E : Value → Shared → Prop} {s : Shared}
/-- `x[::-1]` of a step's text -/
theorem revStr {value : Expr} {p₁ p₂ p₃ pos : Pos} {kk : Nat} {ns : List Int} {i d j : Nat} {t : Tok} {Q : Value → Shared → Prop} (hv : Ev prog w A env value s.heap (fun u => u = .str (stText ns i d j) t))
    (h : ∀ t' h' tk, Kp s.heap h' → Q (.str (stText ns j d i) t') { s with heap := h', toks := tk })
    (hs' : ∀ o i, subscripted (.Slice none none (some (.UnaryOp .USub (.Constant (.int 1) kk p₁) p₂)) p₃) false o i = operate [o, i] (getItem o i) := by intro _ _; with_unfolding_all rfl) :
    wpAny (model prog w) A (eval (.Subscript value (.Slice none none (some (.UnaryOp .USub (.Constant (.int 1) kk p₁) p₂)) p₃) pos) env) Q E s := by
  refine Subscript_ (hv s _ _ rfl fun o tk e => ?_)
  subst e
  refine wpAny_Slice ?_
  rw [evalPart_none, evalPart_some]
  refine wpAny_pure (wpAny_pure (wpAny_UnaryOp (wpAny_Constant_int ?_)))
  refine PyProof.Rows.neg_int ?_
  have hsz : (stText ns i d j).length ≤ sizeLine := by
    have : (2000 : Nat) ≤ sizeLine := by decide
    show 3 ≤ _; omega
  refine tail_any (typeIs_str _ _ _) F.slot_str_getitem.lookup (wpAny_getItem_str_slice (l := none) (u := none) (st := some (-1, tk + 1)) ⟨_, Heap.get?_push_size _ rfl, rfl, rfl⟩ rfl ?_) (hs' _ _)
  refine post_val_or_str ⟨?_, fun t' c => ?_⟩
  · exact Nat.le_trans (Txt.sliceBy_le (stText ns i d j) none none (-1, tk + 1) (by show (-1 : Int) ≠ 0; decide)) hsz
  · have := h t' (s.heap.push { cls := .type "slice", data := .fields #[.none, .none, .int (-1) (tk + 1)] }) c (fun b o e => Heap.get?_push_of_some _ e)
    rw [← revText ns i d j (tk + 1)] at this
    exact this
/-- `xs[::-1]` -/
theorem revList {value : Expr} {p₁ p₂ p₃ pos : Pos} {kk : Nat} {l : Addr} {ys : List Value} {Q : Value → Shared → Prop} (hv : Ev prog w A env value s.heap (fun u => u = .ref l)) (hl : s.heap.IsList l ys.toArray) (hz : ys.length ≤ 1000)
    (h : ∀ r h' tk, Kp s.heap h' → s.heap.objs.size ≤ r → ListAt h' r ys.reverse → Q (.ref r) { s with heap := h', toks := tk })
    (hs' : ∀ o i, subscripted (.Slice none none (some (.UnaryOp .USub (.Constant (.int 1) kk p₁) p₂)) p₃) false o i = operate [o, i] (getItem o i) := by intro _ _; with_unfolding_all rfl) :
    wpAny (model prog w) A (eval (.Subscript value (.Slice none none (some (.UnaryOp .USub (.Constant (.int 1) kk p₁) p₂)) p₃) pos) env) Q E s := by
  refine Subscript_ (hv s _ _ rfl fun o tk e => ?_)
  subst e
  refine wpAny_Slice ?_
  rw [evalPart_none, evalPart_some]
  refine wpAny_pure (wpAny_pure (wpAny_UnaryOp (wpAny_Constant_int ?_)))
  refine PyProof.Rows.neg_int ?_
  have hsz : ys.toArray.size ≤ sizeLine := by
    have : (2000 : Nat) ≤ sizeLine := by decide
    simp only [List.size_toArray]; omega
  refine tail_any (hl.push _).typeIs list_getitem_lookup (wpAny_getItem_list_slice (hl.push _) (Heap.IsSliceOf.new ..) .none .none (.int (-1) _) (by decide) ?_ hsz) (hs' _ _)
  rw [krv_pick]
  have e := Heap.get?_push_size (s.heap.push { cls := .type "slice", data := .fields #[.none, .none, .int (-1) (tk + 1)] }) (o := { cls := .type "list", data := .seq ys.toArray.toList.reverse.toArray }) rfl
  exact h _ _ _ (fun b o e => Heap.get?_push_of_some _ (Heap.get?_push_of_some _ e)) (by rw [Heap.size_push]; exact Nat.le_succ _) ⟨_, e⟩
end
namespace Kids
/-- the other way round -/
noncomputable def mir : Kids → Kids
  | nil => nil
  | step i d j r => (mir r).app (step j d i nil)
  | loop a r => (mir r).app (loop (mir a) nil)
noncomputable def mirI : Sum (Nat × Nat × Nat) Kids → Kids
  | .inl x => step x.2.2 x.2.1 x.1 nil
  | .inr a => loop (mir a) nil
noncomputable def mirL : List (Sum (Nat × Nat × Nat) Kids) → Kids
  | [] => nil
  | x :: r => (mirL r).app (mirI x)
theorem mir_items : ∀ K : Kids, K.mir = mirL K.items
  | nil => rfl
  | step i d j r => by simp only [mir, items, mirL, mirI, mir_items r]
  | loop a r => by simp only [mir, items, mirL, mirI, mir_items r]
noncomputable def mirT : Option (Nat × Nat × Nat) → Kids → Kids
  | none, K => K.mir
  | some x, K => (step x.2.2 x.2.1 x.1 nil).app K.mir
theorem app_nil : ∀ K : Kids, K.app nil = K
  | nil => rfl
  | step i d j r => by rw [app, app_nil r]
  | loop a r => by rw [app, app_nil r]
theorem app_assoc : ∀ a b c : Kids, (a.app b).app c = a.app (b.app c)
  | nil, _, _ => rfl
  | step i d j r, b, c => by simp only [app, app_assoc r b c]
  | loop a r, b, c => by simp only [app, app_assoc r b c]
end Kids
section
variable {prog : Program} {w : World} {ns : List Int}
noncomputable def ItIn (prog : Program) (w : World) (ns : List Int) (h : Heap) (S : Addr → Prop) (v : Value) : Sum (Nat × Nat × Nat) Kids → Prop
  | .inl x => ∃ (t ka : Addr), v = .ref t ∧ S ka ∧ Th prog w h t "step" (stText ns x.1 x.2.1 x.2.2) 1 .none ka ∧ ListAt h ka []
  | .inr a => ∃ (t ka : Addr) (ws : List Value), v = .ref t ∧ S ka ∧ Th prog w h t "loop" "" 2 .none ka ∧ ListAt h ka ws ∧ KidsIn prog w ns h S ws a
theorem KidsIn.get {h : Heap} {S : Addr → Prop} : ∀ {K : Kids} {vs : List Value} {n : Nat} {v : Value}, KidsIn prog w ns h S vs K → vs[n]? = some v → ∃ it, K.items[n]? = some it ∧ ItIn prog w ns h S v it
  | .nil, vs, n, v, x, e => by rw [show vs = [] from x] at e; simp at e
  | .step i d j r, _, n, v, x, e => by
    obtain ⟨t, ka, vs', rfl, l, th, la, q⟩ := x
    cases n with
    | zero => cases e; exact ⟨_, rfl, t, ka, rfl, l, th, la⟩
    | succ n =>
      have := KidsIn.get q (n := n) (v := v) (by simpa using e)
      simpa [Kids.items] using this
  | .loop a r, _, n, v, x, e => by
    obtain ⟨t, ka, ws, vs', rfl, l, th, la, q, q'⟩ := x
    cases n with
    | zero => cases e; exact ⟨_, rfl, t, ka, ws, rfl, l, th, la, q⟩
    | succ n =>
      have := KidsIn.get q' (n := n) (v := v) (by simpa using e)
      simpa [Kids.items] using this
theorem hX_open {h h' : Heap} {L I : Addr} (k : ∀ b o, @Ne Nat b L → h.get? b = some o → h'.get? b = some o) (hI : h.objs.size ≤ I) : Kp (hX h L L) (hX h' L I) := fun b o e =>
  hX_get (k b o (hX_ne e).1 (hX_of e)) (hX_ne e).1 (Nat.ne_of_lt (Nat.lt_of_lt_of_le (Heap.lt_size (hX_of e)) hI))
theorem mir_take {l : List (Sum (Nat × Nat × Nat) Kids)} {i : Nat} {x : Sum (Nat × Nat × Nat) Kids} (hi : i < l.length) (hx : l[l.length - 1 - i]? = some x) : Kids.mirL (l.drop (l.length - (i + 1))) = (Kids.mirL (l.drop (l.length - i))).app (Kids.mirI x) := by
  have pos : 0 < l.length := Nat.lt_of_le_of_lt (Nat.zero_le _) hi
  have e : l.length - (i + 1) = l.length - 1 - i := by rw [Nat.add_comm i 1]; exact Nat.sub_add_eq _ _ _
  rw [e]
  have h1 : l.length - 1 - i < l.length := Nat.lt_of_le_of_lt (Nat.sub_le _ _) (Nat.sub_one_lt (Nat.ne_of_gt pos))
  rw [List.drop_eq_getElem_cons h1]
  have h2 : l.length - 1 - i + 1 = l.length - i := by rw [← Nat.sub_add_comm (Nat.le_sub_one_of_lt hi), Nat.sub_add_cancel pos]
  rw [h2]
  rw [List.getElem?_eq_getElem h1] at hx
  rw [Option.some.inj hx]
  rfl
end
/-- a call with three places, the second made by what lays and changes objects -/
theorem call3m {prog : Program} {w : World} {A : Around} {env : Env} {E : Value → Shared → Prop} {s : Shared} {f e1 e2 e3 : Expr} {pos : Pos} {a : Addr} {u1 u3 : Value} {Q : Value → Shared → Prop} (hf : Ev prog w A env f s.heap (fun u => u = .ref a)) (h1 : Ev prog w A env e1 s.heap (fun u => u = u1)) (hfn : FnO s.heap a)
    (h2 : ∀ tk, wpAny (model prog w) A (eval e2 env) (fun u2 s' => s'.heap.get? a = s.heap.get? a ∧ Ev prog w A env e3 s'.heap (fun u => u = u3) ∧ ∀ tk, wpAny (model prog w) A (call (.ref a) [u1, u2, u3]) Q E { s' with toks := tk }) E { s with toks := tk })
    (he : eval (.Call f [e1, e2, e3] [] pos) env = (do callWith pos (← eval f env) [] (backTo pos (starEach [e1, e2, e3] env)) (backToKw pos (keywordEach [] env))) := by rfl)
    (hs : ∃ m, backTo pos (starEach [e1, e2, e3] env) = [(false, eval e1 env), (false, m), (false, eval e3 env)] ∧ ∀ (Q' : Value → Shared → Prop) (s' : Shared), wpAny (model prog w) A (eval e2 env) Q' E s' → wpAny (model prog w) A m Q' E s' ) :
    wpAny (model prog w) A (eval (.Call f [e1, e2, e3] [] pos) env) Q E s := by
  obtain ⟨ob, fd, hob, hdat⟩ := hfn
  obtain ⟨m, hs, hm⟩ := hs
  refine PyProof.Rows.Call_ (hf s _ _ rfl fun u tk e => ?_) he
  subst e
  rw [hs]
  refine Calls.callWith_function (o := ob) (fd := fd) (Calls.evalArgs_plain (Calls.spliced_cons (h1 { s with toks := tk } _ _ rfl fun u tk₃ e => Calls.spliced_cons (hm _ _ (wpAny_mono (h2 tk₃) (fun u2 s' ⟨q1, q2, q3⟩ => Calls.spliced_cons (q2 s' _ _ rfl fun u' tk₄ e' => Calls.spliced_nil ?_)) fun _ _ x => x)))))
  subst e e'
  exact ⟨⟨q1.trans hob, hdat⟩, q3 tk₄⟩
section
variable {prog : Program} {w : World} {ns : List Int}
theorem ThN.keeps {h₀ h h' : Heap} {t : Addr} {tag text : Str} {times : Int} {vl : Value} {ka : Addr} (x : ThN prog w h₀ h t tag text times vl ka) (k : Kp h h') : ThN prog w h₀ h' t tag text times vl ka :=
  let ⟨g, da, tx, tn, n, z, a, b, c, d⟩ := x; ⟨g, da, tx, tn, n, z, a, fun b' o e => k _ _ (b b' o e), c, d.keep k⟩
theorem ThN.upd {h₀ h h' : Heap} {t pka : Addr} {tag text : Str} {times : Int} {vl : Value} {ka : Addr} (x : ThN prog w h₀ h t tag text times vl ka) (u : Upd pka h h') (l : Mut h pka) : ThN prog w h₀ h' t tag text times vl ka :=
  let ⟨g, da, tx, tn, n, z, a, b, c, d⟩ := x; ⟨g, da, tx, tn, n, z, a, u.static b c l, c, u.dict l d⟩
theorem ThN.old {h₀ h₁ h : Heap} {t : Addr} {tag text : Str} {times : Int} {vl : Value} {ka : Addr} (x : ThN prog w h₀ h t tag text times vl ka) (k : ∀ a, h₀.get? a = none → h₁.get? a = none) : ThN prog w h₁ h t tag text times vl ka :=
  let ⟨g, da, tx, tn, n, z, a, b, c, d⟩ := x; ⟨g, da, tx, tn, fun b' o e => (n b' o e).imp (k b') id, k _ z, a, b, c, d⟩
theorem ThN.toX {h₀ h : Heap} {t L I : Addr} {tag text : Str} {times : Int} {vl : Value} {ka : Addr} {m m' : Str → Option Value} (x : ThN prog w h₀ h t tag text times vl ka) (nL : h₀.Ns L m) (nI : IterOr h₀ L I) (kL : h.Ns L m') (kI : ∀ o, h₀.get? I = some o → h.get? I = some o) : ThN prog w h₀ (hX h L I) t tag text times vl ka := by
  obtain ⟨g, da, tx, tn, n, z, a, b, c, d⟩ := x
  have hDL : @Ne Nat da L := fun q => by
    obtain ⟨o, _, _, e, _⟩ := nL
    rw [← show da = L from q, z] at e; cases e
  have hDI : @Ne Nat da I := fun q => by
    rcases nI with rfl | ⟨it, e, _⟩
    · exact hDL q
    · rw [← show da = I from q, z] at e; cases e
  exact th_hX n b c nL nI kL kI a d hDL hDI z
/-- as KidsIn, all things made since h₀ -/
noncomputable def KidsN (prog : Program) (w : World) (ns : List Int) (h₀ h : Heap) (S : Addr → Prop) : List Value → Kids → Prop
  | vs, .nil => vs = []
  | vs, .step i d j r => ∃ (t ka : Addr) (vs' : List Value), vs = .ref t :: vs' ∧ S ka ∧ ThN prog w h₀ h t "step" (stText ns i d j) 1 .none ka ∧ ListAt h ka [] ∧ KidsN prog w ns h₀ h S vs' r
  | vs, .loop a r => ∃ (t ka : Addr) (ws vs' : List Value), vs = .ref t :: vs' ∧ S ka ∧ ThN prog w h₀ h t "loop" "" 2 .none ka ∧ ListAt h ka ws ∧ KidsN prog w ns h₀ h S ws a ∧ KidsN prog w ns h₀ h S vs' r
/-- all its lists and things told anew -/
theorem KidsN.map {h₀ h h₁ h' : Heap} {S S' : Addr → Prop} (fS : ∀ a xs, ListAt h a xs → S a → S' a) (fT : ∀ {t : Addr} {tag text : Str} {times : Int} {vl : Value} {ka : Addr}, ThN prog w h₀ h t tag text times vl ka → ThN prog w h₁ h' t tag text times vl ka) (fL : ∀ a xs, S a → ListAt h a xs → ListAt h' a xs) :
    ∀ {K : Kids} {vs : List Value}, KidsN prog w ns h₀ h S vs K → KidsN prog w ns h₁ h' S' vs K
  | .nil, _, x => x
  | .step i d j r, _, x => by obtain ⟨t, ka, vs', e, lk, th, la, q⟩ := x; exact ⟨t, ka, vs', e, fS _ _ la lk, fT th, fL _ _ lk la, KidsN.map fS fT fL q⟩
  | .loop a r, _, x => by obtain ⟨t, ka, ws, vs', e, lk, th, la, q, q'⟩ := x; exact ⟨t, ka, ws, vs', e, fS _ _ la lk, fT th, fL _ _ lk la, KidsN.map fS fT fL q, KidsN.map fS fT fL q'⟩
theorem KidsN.keeps {h₀ h h' : Heap} {S : Addr → Prop} (k : Kp h h') {K : Kids} {vs : List Value} (x : KidsN prog w ns h₀ h S vs K) : KidsN prog w ns h₀ h' S vs K := x.map (fun _ _ _ q => q) (fun t => t.keeps k) fun _ _ _ l => l.keeps k
theorem KidsN.upd {h₀ h h' : Heap} {S : Addr → Prop} {pka : Addr} (u : Upd pka h h') (l : Mut h pka) (hS : ¬ S pka) {K : Kids} {vs : List Value} (x : KidsN prog w ns h₀ h S vs K) : KidsN prog w ns h₀ h' S vs K := x.map (fun _ _ _ q => q) (fun t => t.upd u l) fun _ _ q la => u.list (fun z => hS (z ▸ q)) la
theorem KidsN.app {h₀ h : Heap} {S : Addr → Prop} {K' : Kids} {ws' : List Value} (y : KidsN prog w ns h₀ h S ws' K') : ∀ {K : Kids} {vs : List Value}, KidsN prog w ns h₀ h S vs K → KidsN prog w ns h₀ h S (vs ++ ws') (K.app K')
  | .nil, _, x => by rw [show _ = [] from x]; exact y
  | .step i d j r, _, x => by
    obtain ⟨t, ka, vs', rfl, lk, th, la, q⟩ := x
    exact ⟨t, ka, vs' ++ ws', rfl, lk, th, la, KidsN.app y q⟩
  | .loop a r, _, x => by
    obtain ⟨t, ka, ws, vs', rfl, lk, th, la, q, q'⟩ := x
    exact ⟨t, ka, ws, vs' ++ ws', rfl, lk, th, la, q, KidsN.app y q'⟩
theorem KidsN.step1 {h₀ h : Heap} {S : Addr → Prop} {t ka : Addr} {i d j : Nat} (th : ThN prog w h₀ h t "step" (stText ns i d j) 1 .none ka) (la : ListAt h ka []) (hS : S ka) : KidsN prog w ns h₀ h S [.ref t] (.step i d j .nil) := ⟨t, ka, [], rfl, hS, th, la, rfl⟩
theorem KidsN.loop1 {h₀ h : Heap} {S : Addr → Prop} {t ka : Addr} {ws : List Value} {K : Kids} (th : ThN prog w h₀ h t "loop" "" 2 .none ka) (la : ListAt h ka ws) (hS : S ka) (q : KidsN prog w ns h₀ h S ws K) : KidsN prog w ns h₀ h S [.ref t] (.loop K .nil) := ⟨t, ka, ws, [], rfl, hS, th, la, q, rfl⟩
theorem KidsN.at {h₀ h : Heap} {S : Addr → Prop} : ∀ {K : Kids} {vs : List Value}, KidsN prog w ns h₀ h S vs K → KidsAt prog w ns h 0 vs K
  | .nil, _, x => x
  | .step i d j r, _, x => by obtain ⟨t, ka, vs', e, lk, th, la, q⟩ := x; exact ⟨t, ka, vs', e, Nat.zero_le _, th.th, la, KidsN.at q⟩
  | .loop a r, _, x => by obtain ⟨t, ka, ws, vs', e, lk, th, la, q, q'⟩ := x; exact ⟨t, ka, ws, vs', e, Nat.zero_le _, th.th, la, KidsN.at q, KidsN.at q'⟩
end
theorem fn141 (P : Params) : ∃ o fd, (hd.heap_1 P).lookup 141 = some o ∧ o.data = .func fd := ⟨_, _, rfl, rfl⟩
noncomputable def MirC (prog : Program) (w : World) (ns : List Int) (b₀ : Heap) (da d n u : Nat) : Prop :=
  ∀ (s : Shared) (t ka t' ka' : Addr) (vs vs' : List Value) (tag text tag' text' : Str) (times times' : Int) (vl vl' : Value) (tl : Option (Nat × Nat × Nat)) (K : Kids) (S : Addr → Prop) (c1 c2 c3 : Addr) (Q E : Value → Shared → Prop),
    Kp b₀ s.heap → b₀.get? ka' = none → Tab3 s.heap c1 c2 c3 → Th prog w s.heap t tag text times vl ka → ListAt s.heap ka vs → KidsIn prog w ns s.heap S vs K → @Ne Nat ka ka' → ¬ S ka' →
    Th prog w s.heap t' tag' text' times' vl' ka' → ListAt s.heap ka' vs' → vs'.length ≤ 100 → K.dep ≤ d → K.sz ≤ 100 → TailV ns tl vl →
    (∀ ws h' tk', Upd ka' s.heap h' → ListAt h' ka' (vs' ++ ws) → KidsN prog w ns s.heap h' (fun a => s.heap.objs.size ≤ a) ws (Kids.mirT tl K) → Q (.ref t') { s with heap := h', toks := tk' }) →
    wpAny (model prog w) (AX n u) (call (.ref 141) [.ref t, .ref t', .ref da]) Q E s
theorem mir_step {prog : Program} {w : World} {p : Program} {loose : List Str} {mean : ExcName → Option Value} {mg mb : Str → Option Value} {ns : List Int} {b₀ : Heap} {da d n u : Nat} {t1 t2 : Tok} (hn : n ≤ 600) (hu : u ≤ 4000)
    (X : (hd.heap_1 w.params).In b₀) (T : Top p loose mean mg mb b₀) (n108 : b₀.get? 108 = none) (hA : b₀.DictOf (strKind prog w) da (attKvs (.str "" t1) (.int 1 t2) .none)) (hda : (da == sysModules) = false)
    (IH : ∀ d', d' < d → MirC prog w ns b₀ da d' (n + 10) (u + 20)) : MirC prog w ns b₀ da d n u := by
  intro s t ka t' ka' vs vs' tag text tag' text' times times' vl vl' tl K S c1 c2 c3 Q E k₀ nka tab th la ki hkk hS th' la' hl' hdep hsz hvl ret
  have gS : Gl b₀ "SubElement" (.ref 99) := Gl.of X T (by k_is)
  have gM : Gl b₀ "_law_mirror" (.ref 141) := Gl.of X T (by k_is)
  refine' enter (X.keeps k₀) (Top.nolimit (T.keeps k₀)) ?k6 ?k7 ?k8 ?k9 ?kB ?_ ?c2 ?c3 ?c4 ?c5
  (case k6 => k_is)
  (case k7 => k_is)
  (case k8 => show n < 1000; omega)
  (case k9 => exact BindsTo.of_eq rfl)
  (case c5 => decide)
  (case kB => exact locs rfl)
  (case c2 => exact rfl)
  (case c3 => exact rfl)
  (case c4 => exact rfl)
  intro L h₁ tk₁ hL F₁ N₁
  refine gg fun P hP => ?_
  obtain ⟨m₁, n1, e1, e2, e3⟩ : ∃ m₁ : Str → Option Value, h₁.Ns L m₁ ∧ m₁ "thing" = some (.ref t) ∧ m₁ "parent" = some (.ref t') ∧ m₁ "table" = some (.ref da) := ⟨_, F₁.ns, rfl, rfl, rfl⟩
  refine hP ?_
  clear hP
  have k₁ := F₁.keep
  have lL : s.heap.objs.size ≤ L := Nat.le_of_eq hL.symm
  clear F₁ N₁
  have u₁ : Upd ka' s.heap h₁ := Upd.of k₁
  refine gg fun P hP => ?_
  obtain ⟨g, da₁, tx, tn, sS, kg, ng, dA⟩ := th
  obtain ⟨mm, fa, fi, hF, m1, m2, m3, m4, m5, m6, m7, hAp, hIt, hfa, hfi⟩ := sS.m
  refine hP ?_
  clear hP
  have ltka : @LT.lt Nat _ ka' s.heap.objs.size := la'.lt
  have ltka0 : @LT.lt Nat _ ka s.heap.objs.size := la.lt
  have ki₁ : KidsIn prog w ns s.heap (fun a => S a ∧ a < s.heap.objs.size) vs K := ki.mono fun a ha q => ⟨q, ha⟩
  have toX : ∀ {h : Heap} {I : Addr}, Upd ka' s.heap h → s.heap.objs.size ≤ I → Upd ka' s.heap (hX h L I) := fun u hI b o hb e => hX_get (u b o hb e) (Nat.ne_of_lt (Nat.lt_of_lt_of_le (Heap.lt_size e) lL)) (Nat.ne_of_lt (Nat.lt_of_lt_of_le (Heap.lt_size e) hI))
  have kb : ∀ {h : Heap}, Upd ka' s.heap h → Kp b₀ h := fun u b o e => u b o (ne_of_none (nka) e) (k₀ b o e)
  have dom : ∀ {h : Heap} {xs : List Value}, Upd ka' s.heap h → ListAt h ka' xs → ∀ a, h.get? a = none → s.heap.get? a = none := fun {h} {xs} u l a e => by
    cases q : s.heap.get? a with
    | none => rfl
    | some o =>
      by_cases z : a = ka'
      · obtain ⟨n, e'⟩ := l
        rw [z, e'] at e; cases e
      · rw [u a o z q] at e; cases e
  have plainT : PlainV vl := by
    cases tl with
    | none => rw [show vl = .none from hvl]; trivial
    | some x => obtain ⟨⟨t', rfl⟩, _⟩ := hvl; trivial
  have hF' : ∀ {h : Heap}, Upd ka' s.heap h → FnAt h t mm := fun u => hF.keeps (Upd.static u kg ng la'.mut)
  -- a step laid in the parent
  have lay : ∀ {A : Around} {h : Heap} {tk : Nat} {I : Addr} {ws : List Value} {K' : Kids} {m' : Str → Option Value} {tt tq : Tok} {a b c : Nat} {Q' E' : Value → Shared → Prop}, A.handled = none → A.depth ≤ 690 → A.guards = some [] → A.units ≤ 4990 → Upd ka' s.heap h → h.Ns L m' → IterOr h L I → s.heap.objs.size ≤ I → ListAt (hX h L I) ka' (vs' ++ ws) → ws.length ≤ 200 →
      KidsN prog w ns s.heap (hX h L I) (fun a => s.heap.objs.size ≤ a) ws K' →
      (∀ t₂ h' tk', Upd ka' h h' → Upd ka' s.heap h' → ListAt (hX h' L I) ka' (vs' ++ (ws ++ [.ref t₂])) → KidsN prog w ns s.heap (hX h' L I) (fun a => s.heap.objs.size ≤ a) (ws ++ [.ref t₂]) (K'.app (.step a b c .nil)) → Q' (.ref t₂) { s with heap := h', toks := tk' }) →
      wpAny (model prog w) A (call (.ref 99) [.ref t', .str "step" tt, .ref da] [("text", .str (stText ns a b c) tq)]) Q' E' { s with heap := h, toks := tk } := by
    intro A h tk I ws K' m' tt tq a b c Q' E' a1 a2 a3 a4 u hn hI hIz lw hwl kw q
    have uX := toX u hIz
    have hz : s.heap.objs.size ≤ h.objs.size := Nat.le_of_lt (Nat.lt_of_le_of_lt lL hn.lt)
    refine wpAny_weaken (n := 690) (u := 4990) ?_ a1 a2 a3 a4
    refine sub_par (s := { s with heap := h, toks := tk }) (L := L) (I := I) X T (fun b o e => uX b o (ne_of_none (nka) e) (k₀ b o e)) n108 hA hda (tab.upd la' uX) hn hI (th'.upd uX la'.mut) lw (by simp only [List.length_append]; omega) nka (.inl rfl) (text := stText ns a b c) (times := 1) (tx := tq) (tn := t2) rfl ?_
    intro t₂ ka₂ h' tk' uh _ _ _ _ uXX lw' th₂ lk₂ zk
    refine q t₂ h' tk' uh (fun b o hb e => uh b o hb (u b o hb e)) (by rw [← List.append_assoc]; exact lw') (KidsN.app (KidsN.step1 (th₂.old (dom u (lw.keeps fun b o e => hX_of e))) lk₂ (Nat.le_trans hz zk)) (kw.upd uXX lw.mut fun q => absurd ltka (Nat.not_lt.mpr q)))
  refine wpAny_execs_cons (wpAny_mono (Q := fun fl s₁ => fl = .next ∧ ∃ h₂ tk₂ ws, s₁ = { s with heap := h₂, toks := tk₂ } ∧ h₂.Ns L m₁ ∧ Upd ka' s.heap h₂ ∧ ListAt (hX h₂ L L) ka' (vs' ++ ws) ∧ KidsN prog w ns s.heap (hX h₂ L L) (fun a => s.heap.objs.size ≤ a) ws (Kids.mirT tl .nil) ∧ ws.length ≤ 1) ?_ ?_ fun _ _ q => q)
  · refine wpAny_If (wpAny_isTrue_value ((Ev.attr (Ev.local n1 e1 rfl rfl) (hF' u₁) m2 plainT tl_tail) { s with heap := h₁, toks := tk₁ } _ _ rfl fun u tk₃ e => ?_))
    subst u
    have lw₀ : ListAt (hX h₁ L L) ka' (vs' ++ []) := by
      rw [List.append_nil]
      exact hX_list (la'.keeps k₁) (Nat.ne_of_lt (Nat.lt_of_lt_of_le ltka lL)) (Nat.ne_of_lt (Nat.lt_of_lt_of_le ltka lL))
    cases tl with
    | none =>
      obtain rfl : vl = .none := hvl
      refine wpAny_of_eq (a := false) rfl ?_
      simp only [Bool.false_eq_true, if_false]
      exact wpAny_execs_nil ⟨rfl, h₁, tk₃, [], rfl, n1, u₁, lw₀, rfl, Nat.zero_le _⟩
    | some x =>
      refine gg fun P hP => ?_
      obtain ⟨⟨tv, rfl⟩, o1, o2, o3, o4⟩ := hvl
      refine hP ?_
      clear hP
      refine PySem.P.truthy_str (by show ¬ ((3 : Nat) : Int) ≥ _; omega) ?_
      rw [show (((stText ns x.1 x.2.1 x.2.2).length : Int) != 0) = true from rfl]
      simp only [if_true]
      refine wpAny_execs_cons (wpAny_Expr_any ?_)
      refine callKw (s := { s with heap := h₁, toks := tk₃ + 1 + 1 }) (a := 99) (u1 := .ref t') (u3 := .ref da) (P2 := fun v => ∃ t, v = .str "step" t) (Pk := fun v => ∃ t, v = .str (stText ns x.2.2 x.2.1 x.1) t) (Ev.global (gS.keeps (kb u₁)) rfl rfl rfl)
          (Ev.local n1 e2 rfl rfl) Ev.str (Ev.local n1 e3 rfl rfl) (fnO (X.keeps (kb u₁)) (fn99 _)) ?_ ?_ (hs2 := by
            first
              | exact ⟨_, rfl, fun _ _ h => h⟩
              | exact ⟨_, rfl, fun _ _ h => wpAny_bind (wpAny_mono h (fun _ _ q => wpAny_bind (wpAny_standAt (wpAny_pure q))) fun _ _ x => x)⟩)
      · intro tk Q' q
        exact revStr (s := { s with heap := h₁, toks := tk }) (Ev.attr (Ev.local n1 e1 rfl rfl) (hF' u₁) m2 plainT tl_tail) fun t₂ h' tk' k => q _ _ _ k ⟨t₂, rfl⟩
      intro u2 v hh tk₄ qq0 qq1 kk
      refine gg fun P hP => ?_
      obtain ⟨tq', rfl⟩ := qq0
      obtain ⟨tx', rfl⟩ := qq1
      refine hP ?_
      clear hP
      have kx : Kp (hX h₁ L L) (hX hh L L) := hX_kp fun b o _ _ e => kk b o e
      refine lay rfl (show n + 1 ≤ 690 by omega) rfl (show u + 3 ≤ 4990 by omega) (Upd.trans u₁ (Upd.of kk)) (n1.keeps kk) (.inl rfl) lL (lw₀.keeps kx) (Nat.zero_le _) (K' := .nil) rfl fun t₂ h' tk' uh us lw' kw' => ?_
      exact wpAny_execs_nil ⟨rfl, h', tk', [.ref t₂], rfl, (n1.keeps kk).at' fun o e => uh _ o (Nat.ne_of_gt (Nat.lt_of_lt_of_le ltka lL)) e, us, lw', kw', by simp⟩
  · intro fl s₁ qq0
    refine gg fun P hP => ?_
    obtain ⟨rfl, h₂, tk₂, ws₂, rfl, n2, u₂, lw₂, kw₂, wl₂⟩ := qq0
    refine hP ?_
    clear hP
    refine wpAny_execs_cons ?_
    obtain ⟨J, hJ⟩ : ∃ J : Addr → List Value → Nat → Nat → (Str → Option Value) → Heap → Prop, ∀ l zs I i m h, J l zs I i m h ↔ (zs = vs.reverse ∧ s.heap.objs.size ≤ I ∧ m "parent" = some (.ref t') ∧ m "table" = some (.ref da) ∧ Upd ka' s.heap h ∧ ListAt (hX h L I) l zs ∧ @Ne Nat l ka' ∧ @Ne Nat l I ∧ ∃ ws, ListAt (hX h L I) ka' (vs' ++ ws) ∧ KidsN prog w ns s.heap (hX h L I) (fun a => s.heap.objs.size ≤ a) ws ((Kids.mirT tl .nil).app (Kids.mirL (K.items.drop (K.items.length - i)))) ∧ ws.length ≤ 1 + i) := ⟨_, fun _ _ _ _ _ _ => Iff.rfl⟩
    refine for_listM (s := { s with heap := h₂, toks := tk₂ }) J rfl rfl rfl ?_
    have la₂ : ListAt h₂ ka vs := u₂.list hkk la
    have hvl : vs.length = K.items.length := ki.at.length
    have hKz := K.items_sz
    refine revList (s := { s with heap := h₂, toks := tk₂ }) (Ev.attr (Ev.local n2 e1 rfl rfl) (hF' u₂) m4 True.intro tl_kids) la₂.isList (by omega) fun l h₃ tk₃ k₃ zl l₃ => ?_
    have h23 : h₂.objs.size ≤ h₃.objs.size := Nat.le_trans zl (Nat.le_of_lt l₃.lt)
    have hz2 : s.heap.objs.size ≤ h₂.objs.size := Nat.le_of_lt (Nat.lt_of_le_of_lt lL n2.lt)
    have hlL : @Ne Nat l L := Nat.ne_of_gt (Nat.lt_of_lt_of_le (show L < h₂.objs.size from n2.lt) zl)
    have hlk : @Ne Nat l ka' := Nat.ne_of_gt (Nat.lt_of_lt_of_le ltka (Nat.le_trans hz2 zl))
    refine ⟨l, vs.reverse, m₁, h₃, tk₃, rfl, rfl, by rw [List.length_reverse]; omega, n2.keeps k₃, ?_, ?_, ?_, ?_, ?_⟩
    · intro i m h' qq0
      refine gg fun P hP => ?_
      obtain ⟨_, _, _, _, _, y, _⟩ := (hJ _ _ _ _ _ _).mp qq0
      refine hP ?_
      clear hP
      exact y.keeps fun b o e => hX_of e
    · intro i m h' h'' qq0 kk
      refine gg fun P hP => ?_
      obtain ⟨y1, y2, y3, y4, y5, y6, y7, y7b, ws, y8, y9, y10⟩ := (hJ _ _ _ _ _ _).mp qq0
      refine hP ?_
      clear hP
      have kx : Kp (hX h' L h₃.objs.size) (hX h'' L h₃.objs.size) := hX_kp fun b o hb hI e => kk b o (Ne.symm hI) hb e
      exact (hJ _ _ _ _ _ _).mpr ⟨y1, y2, y3, y4, fun b o hb e => kk b o (Nat.ne_of_gt (Nat.lt_of_lt_of_le (Heap.lt_size e) y2)) (Nat.ne_of_lt (Nat.lt_of_lt_of_le (Heap.lt_size e) lL)) (y5 b o hb e), y6.keeps kx, y7, y7b, ws, y8.keeps kx, y9.keeps kx, y10⟩
    · have kx : Kp (hX h₂ L L) (hX h₃ L h₃.objs.size) := hX_open (fun b o _ e => k₃ b o e) h23
      refine (hJ _ _ _ _ _ _).mpr ⟨rfl, Nat.le_trans hz2 h23, e2, e3, Upd.trans u₂ (Upd.of k₃), hX_list l₃ hlL (Nat.ne_of_lt l₃.lt), hlk, Nat.ne_of_lt l₃.lt, ws₂, lw₂.keeps kx, ?_, by omega⟩
      have e : Kids.mirL (K.items.drop (K.items.length - 0)) = .nil := by rw [Nat.sub_zero, List.drop_length]; rfl
      rw [e, Kids.app_nil]
      exact kw₂.keeps kx
    · intro i v m h' tk' it hv qq0 hn hit hitd
      refine gg fun P hP => ?_
      obtain ⟨y1, y2, y3, y4, y5, y6, y7, y7b, ws, y8, y9, y10⟩ := (hJ _ _ _ _ _ _).mp qq0
      refine hP ?_
      clear hP
      generalize h₃.objs.size = I at *
      have hi : i < vs.length := by
        rcases Nat.lt_or_ge i vs.length with q | q
        · exact q
        · rw [List.getElem?_eq_none (by simpa using q)] at hv; cases hv
      have hv' : vs[vs.length - 1 - i]? = some v := by rw [← hv, List.getElem?_reverse hi]
      refine gg fun P hP => ?_
      obtain ⟨item, hi1, hi2⟩ := ki₁.get hv'
      refine hP ?_
      clear hP
      have hstep := mir_take (l := K.items) (i := i) (x := item) (by omega) (by rw [← hvl]; exact hi1)
      have hmem : item ∈ K.items := List.mem_of_getElem? hi1
      have mX : IterOr h' L I := .inr ⟨it, hit, hitd⟩
      have hIL : @Ne Nat I L := fun q => by
        refine gg fun P hP => ?_
        obtain ⟨o', es, ep, e', d', _⟩ := hn
        refine hP ?_
        clear hP
        replace e' : h'.get? L = some o' := e'
        rw [← show I = L from q, hit] at e'
        cases e'
        refine gg fun P hP => ?_
        obtain ⟨vs, d, _⟩ := hitd
        refine hP ?_
        clear hP
        rw [d] at d'; cases d'
      have hkI : @Ne Nat ka' I := Nat.ne_of_lt (Nat.lt_of_lt_of_le ltka y2)
      refine gg fun P hP => ?_
      obtain ⟨mk, hnk, f0, f2, f3⟩ : ∃ mk : Str → Option Value, h'.Ns L mk ∧ mk "kid" = some v ∧ mk "parent" = some (.ref t') ∧ mk "table" = some (.ref da) := by
        refine ⟨_, hn, ?_, ?_, ?_⟩
        · rw [if_pos rfl]
        · rw [if_neg (by decide)]; exact y3
        · rw [if_neg (by decide)]; exact y4
      refine hP ?_
      clear hP
      clear hn
      have fin : ∀ (h₄ : Heap) (tk₄ : Nat) (t₂ : Value), Upd ka' s.heap h₄ → h₄.Ns L mk → h₄.get? I = some it → ListAt (hX h₄ L I) l vs.reverse → ListAt (hX h₄ L I) ka' (vs' ++ (ws ++ [t₂])) → KidsN prog w ns s.heap (hX h₄ L I) (fun a => s.heap.objs.size ≤ a) (ws ++ [t₂]) (((Kids.mirT tl .nil).app (Kids.mirL (K.items.drop (K.items.length - i)))).app (Kids.mirI item)) →
          ∃ (h' : Heap) (tk' : Nat) (m' : Str → Option Value), ({ s with heap := h₄, toks := tk₄ } : Shared) = { s with heap := h', toks := tk' } ∧ h'.get? I = some it ∧ h'.Ns L m' ∧ J l vs.reverse I (i + 1) m' h' :=
        fun h₄ tk₄ t₂ q1 q2 q3 q4 q5 q6 => ⟨h₄, tk₄, mk, rfl, q3, q2, (hJ _ _ _ _ _ _).mpr ⟨rfl, y2, f2, f3, q1, q4, y7, y7b, ws ++ [t₂], q5, by rw [hstep, ← Kids.app_assoc]; exact q6, by rw [List.length_append, ← Nat.add_assoc]; exact Nat.succ_le_succ y10⟩⟩
      cases item with
      | inl x =>
        refine gg fun P hP => ?_
        obtain ⟨tt, kka, rfl, _, thk, lak⟩ := hi2
        obtain ⟨g', da', tx', tn', sS', kg', ng', dA'⟩ := thk.upd y5 la'.mut
        obtain ⟨mm', fa', fi', hFk, ⟨tt', q1⟩, q2, q3, q4, q5, q6, q7, _⟩ := sS'.m
        refine hP ?_
        clear hP
        refine wpAny_execs_cons (wpAny_If (test_eqstr (s := { s with heap := h', toks := tk' }) (Ev.attr (Ev.local hnk f0 rfl rfl) (hFk.keeps kg') q1 True.intro tl_tag) fun tk₅ => ?_))
        rw [show ((Str.ofString "step").cps.toList == (Str.ofString "step").cps.toList) = true by decide +kernel]
        simp only [if_true]
        refine wpAny_execs_cons (wpAny_Expr_any ?_)
        refine callKw (s := { s with heap := h', toks := tk₅ }) (a := 99) (u1 := .ref t') (u3 := .ref da) (P2 := fun v => ∃ t, v = .str "step" t) (Pk := fun v => ∃ t, v = .str (stText ns x.2.2 x.2.1 x.1) t) (Ev.global (gS.keeps (kb y5)) rfl rfl rfl)
          (Ev.local hnk f2 rfl rfl) Ev.str (Ev.local hnk f3 rfl rfl) (fnO (X.keeps (kb y5)) (fn99 _)) ?_ ?_ (hs2 := by
            first
              | exact ⟨_, rfl, fun _ _ h => h⟩
              | exact ⟨_, rfl, fun _ _ h => wpAny_bind (wpAny_mono h (fun _ _ q => wpAny_bind (wpAny_standAt (wpAny_pure q))) fun _ _ x => x)⟩)
        · intro tk Q' q
          exact revStr (s := { s with heap := h', toks := tk }) (Ev.dsub (Ev.attr (Ev.local hnk f0 rfl rfl) (hFk.keeps kg') q3 True.intro tl_attrib) dA' rfl) fun t₂ h'' tk'' k => q _ _ _ k ⟨t₂, rfl⟩
        intro u2 v hh tk₄ qq0 qq1 kk
        refine gg fun P hP => ?_
        obtain ⟨tq', rfl⟩ := qq0
        obtain ⟨tx', rfl⟩ := qq1
        refine hP ?_
        clear hP
        have kx : Kp (hX h' L I) (hX hh L I) := hX_kp fun b o _ _ e => kk b o e
        refine lay rfl (show n + 1 ≤ 690 by omega) rfl (show u + 3 ≤ 4990 by omega) (Upd.trans y5 (Upd.of kk)) (hnk.keeps kk) (.inr ⟨it, kk _ _ hit, hitd⟩) y2 (y8.keeps kx) (by omega) (y9.keeps kx) fun t₂ h'' tk'' uh us lw' kw' => ?_
        have uX : Upd ka' (hX hh L I) (hX h'' L I) := hX_upd fun b o hb _ _ e => uh b o hb e
        refine wpAny_execs_nil ?_
        refine wpAny_execs_nil ⟨rfl, ?_⟩
        exact fin h'' tk'' (.ref t₂) us ((hnk.keeps kk).at' fun o e => uh _ o (Nat.ne_of_gt (Nat.lt_of_lt_of_le ltka lL)) e) (uh _ _ (Ne.symm hkI) (kk _ _ hit)) (uX.list y7 (y6.keeps kx)) lw' kw'
      | inr a =>
        refine gg fun P hP => ?_
        obtain ⟨tt, kka, wsa, rfl, hSk, thk, lak, kia⟩ := hi2
        refine hP ?_
        clear hP
        have thk' := thk.upd y5 la'.mut
        refine gg fun P hP => ?_
        obtain ⟨g', da', tx', tn', sS', kg', ng', dA'⟩ := thk.upd y5 la'.mut
        obtain ⟨mm', fa', fi', hFk, ⟨tt', q1⟩, q2, q3, q4, q5, q6, q7, _⟩ := sS'.m
        refine hP ?_
        clear hP
        have dep := Kids.dep_inner hmem
        have szl := Kids.sz_inner hmem
        refine wpAny_execs_cons (wpAny_If (test_eqstr (s := { s with heap := h', toks := tk' }) (Ev.attr (Ev.local hnk f0 rfl rfl) (hFk.keeps kg') q1 True.intro tl_tag) fun tk₅ => ?_))
        rw [show ((Str.ofString "loop").cps.toList == (Str.ofString "step").cps.toList) = false by decide +kernel]
        simp only [Bool.false_eq_true, if_false]
        refine wpAny_execs_cons (wpAny_Expr_any ?_)
        refine call3m (s := { s with heap := h', toks := tk₅ }) (hs := by first | exact ⟨_, rfl, fun _ _ h => h⟩ | exact ⟨_, rfl, fun _ _ h => wpAny_bind (wpAny_mono h (fun _ _ q => wpAny_bind (wpAny_standAt (wpAny_pure q))) fun _ _ x => x)⟩) (a := 141) (u1 := .ref tt) (u3 := .ref da) (Ev.global (gM.keeps (kb y5)) rfl rfl rfl) (Ev.local hnk f0 rfl rfl) (fnO (X.keeps (kb y5)) (fn141 _)) fun tk₆ => ?_
        refine callKw (hs2 := ⟨_, rfl, fun _ _ h => h⟩) (s := { s with heap := h', toks := tk₆ }) (a := 99) (u1 := .ref t') (u3 := .ref da) (P2 := fun v => ∃ t, v = .str "loop" t) (Pk := fun v => ∃ t, v = .int 2 t) (Ev.global (gS.keeps (kb y5)) rfl rfl rfl)
          (Ev.local hnk f2 rfl rfl) Ev.str (Ev.local hnk f3 rfl rfl) (fnO (X.keeps (kb y5)) (fn99 _)) (fun tk Q' q => wpAny_Constant_int (q _ _ _ (fun _ _ e => e) ⟨_, rfl⟩)) ?_
        intro u2 v hh tk₄ qq0 qq1 kk
        refine gg fun P hP => ?_
        obtain ⟨tq', rfl⟩ := qq0
        obtain ⟨tx', rfl⟩ := qq1
        refine hP ?_
        clear hP
        have kx : Kp (hX h' L I) (hX hh L I) := hX_kp fun b o _ _ e => kk b o e
        have y5' : Upd ka' s.heap hh := Upd.trans y5 (Upd.of kk)
        have uX := toX (I := I) y5' y2
        refine wpAny_weaken (n := 690) (u := 4990) ?_ rfl (show n + 1 ≤ 690 by omega) rfl (show u + 3 ≤ 4990 by omega)
        refine sub_par (s := { s with heap := hh, toks := tk₄ }) (L := L) (I := I) X T (fun b o e => uX b o (ne_of_none (nka) e) (k₀ b o e)) n108 hA hda (tab.upd la' uX) (hnk.keeps kk) (.inr ⟨it, kk _ _ hit, hitd⟩) (th'.upd uX la'.mut) (y8.keeps kx) (by simp only [List.length_append]; omega) nka (.inr rfl) (text := "") (times := 2) (tx := t1) (tn := tx') rfl ?_
        intro t₂ ka₂ h₄ tk₇ uh _ _ kg4 tab4 uXX lw4 th4 lk4 zk4
        have us4 : Upd ka' s.heap h₄ := Upd.trans y5' uh
        have nL4 : h₄.Ns L mk := (hnk.keeps kk).at' fun o e => uh _ o (Nat.ne_of_gt (Nat.lt_of_lt_of_le ltka lL)) e
        have ks4 : Kp (hX h₄ L I) h₄ := fun b o e => hX_of e
        have zs4 : s.heap.objs.size ≤ ka₂ := Nat.le_trans (Nat.le_of_lt (Nat.lt_of_le_of_lt lL (hnk.keeps kk).lt)) zk4
        refine ⟨?_, Ev.local nL4 f3 rfl rfl, fun tk₈ => ?_⟩
        · refine gg fun P hP => ?_
          obtain ⟨ob, fd, e, _⟩ := fnO (X.keeps (kb y5)) (fn141 w.params)
          refine hP ?_
          clear hP
          have eb := fnO X (fn141 w.params)
          refine gg fun P hP => ?_
          obtain ⟨ob', fd', e', _⟩ := eb
          refine hP ?_
          clear hP
          exact (kb us4 _ _ e').trans (kb y5 _ _ e').symm
        refine wpAny_weaken (n := n + 10) (u := u + 20) ?_ rfl (show n + 1 ≤ n + 10 by omega) rfl (show u + 3 ≤ u + 20 by omega)
        have hkka : @Ne Nat kka ka' := fun q => hS (q ▸ hSk.1)
        refine IH a.dep (by omega) { s with heap := h₄, toks := tk₈ } tt kka t₂ ka₂ wsa [] "loop" "" "loop" "" 2 2 .none .none none a (fun a => S a ∧ a < s.heap.objs.size) c1 c2 c3 _ _ (kb us4) ?_ (tab4.keeps ks4) (thk.upd us4 la'.mut) (us4.list hkka lak) (kia.upd us4 la'.mut fun q => hS q.1) ?_ ?_ (th4.th.keeps ks4) (lk4.keeps ks4) (Nat.zero_le _) (Nat.le_refl _) (by omega) rfl ?_
        · cases e : b₀.get? ka₂ with
          | none => rfl
          | some o => exact absurd (Heap.lt_size (k₀ _ _ e)) (Nat.not_lt.mpr zs4)
        · exact Nat.ne_of_lt (Nat.lt_of_lt_of_le lak.lt zs4)
        · exact fun q => absurd q.2 (Nat.not_lt.mpr zs4)
        · intro ws₃ h₅ tk₉ u5 l5 k5
          rw [List.nil_append] at l5
          have hk2L : @Ne Nat ka₂ L := Nat.ne_of_gt (Nat.lt_of_lt_of_le (show L < hh.objs.size from (hnk.keeps kk).lt) zk4)
          have hk2I : @Ne Nat ka₂ I := Nat.ne_of_gt (Nat.lt_of_lt_of_le (Heap.lt_size (kk _ _ hit)) zk4)
          have hk2k : @Ne Nat ka' ka₂ := Nat.ne_of_lt (Nat.lt_of_lt_of_le ltka zs4)
          have uX5 : Upd ka₂ (hX h₄ L I) (hX h₅ L I) := hX_upd fun b o hb _ _ e => u5 b o hb e
          have z4 : s.heap.objs.size ≤ h₄.objs.size := Nat.le_of_lt (Nat.lt_of_le_of_lt lL nL4.lt)
          have lt4 : ka₂ < h₄.objs.size := (lk4.keeps ks4).lt
          have lI4 : @LT.lt Nat _ I h₄.objs.size := Heap.lt_size (uh _ _ (Ne.symm hkI) (kk _ _ hit))
          have nL5 : h₅.Ns L mk := nL4.at' fun o e => u5 _ o (Ne.symm hk2L) e
          have nI4 : IterOr h₄ L I := .inr ⟨it, uh _ _ (Ne.symm hkI) (kk _ _ hit), hitd⟩
          have kI5 : ∀ o, h₄.get? I = some o → h₅.get? I = some o := fun o e => u5 _ _ (Ne.symm hk2I) e
          have kX5 : KidsN prog w ns s.heap (hX h₅ L I) (fun a => s.heap.objs.size ≤ a) ws₃ a.mir :=
            KidsN.map (fun _ _ _ q => Nat.le_trans z4 q) (fun th => (th.toX nL4 nI4 nL5 kI5).old (dom us4 (lw4.keeps ks4))) (fun a xs q l => hX_list l (Nat.ne_of_gt (Nat.lt_of_lt_of_le nL4.lt q)) (Nat.ne_of_gt (Nat.lt_of_lt_of_le lI4 q))) (show KidsN prog w ns h₄ h₅ _ ws₃ a.mir from k5)
          refine wpAny_execs_nil ?_
          refine wpAny_execs_nil ⟨rfl, ?_⟩
          refine fin h₅ tk₉ (.ref t₂) (fun b o hb e => u5 b o (Nat.ne_of_lt (Nat.lt_of_lt_of_le (Heap.lt_size e) zs4)) (us4 b o hb e)) (nL4.at' fun o e => u5 _ o (Ne.symm hk2L) e) (u5 _ _ (Ne.symm hk2I) (uh _ _ (Ne.symm hkI) (kk _ _ hit))) ?_ ?_ ?_
          · have hlz : l < hh.objs.size := ((y6.keeps kx).keeps fun b o e => hX_of e).lt
            exact uX5.list (Nat.ne_of_lt (Nat.lt_of_lt_of_le hlz zk4)) (uXX.list y7 (y6.keeps kx))
          · rw [← List.append_assoc]
            exact uX5.list hk2k lw4
          · refine KidsN.app (KidsN.loop1 ((th4.upd uX5 lk4.mut).old (dom y5' ((y8.keeps kx).keeps fun b o e => hX_of e))) (hX_list l5 hk2L hk2I) zs4 kX5) ?_
            have k6 : KidsN prog w ns s.heap (hX hh L I) (fun a => s.heap.objs.size ≤ a ∧ a < hh.objs.size) ws _ := (y9.keeps kx).map (fun a xs l q => ⟨q, (l.keeps fun b o e => hX_of e).lt⟩) (fun th => th) fun _ _ _ l => l
            exact (((k6.upd uXX (y8.keeps kx).mut fun q => absurd ltka (Nat.not_lt.mpr q.1)).upd uX5 lk4.mut fun q => absurd q.2 (Nat.not_lt.mpr zk4))).map (fun _ _ _ q => q.1) (fun th => th) fun _ _ _ l => l
    · intro m h' tk' qq0 hn
      refine gg fun P hP => ?_
      obtain ⟨y1, y2, y3, y4, y5, y6, y7, y7b, ws, y8, y9, y10⟩ := (hJ _ _ _ _ _ _).mp qq0
      refine hP ?_
      clear hP
      rw [List.length_reverse, hvl, Nat.sub_self, List.drop_zero, ← Kids.mir_items] at y9
      have ks : Kp (hX h' L h₃.objs.size) h' := fun b o e => hX_of e
      refine wpAny_execs_cons (wpAny_Return_some ((Ev.go (s := s) (Ev.local hn y3 rfl rfl) fun tk₄ => ?_)))
      refine ret ws h' tk₄ y5 (y8.keeps ks) ?_
      have e : (Kids.mirT tl .nil).app K.mir = Kids.mirT tl K := by
        cases tl with
        | none => rfl
        | some x => rfl
      rw [← e]
      exact y9.keeps ks
theorem mir_all {prog : Program} {w : World} {p : Program} {loose : List Str} {mean : ExcName → Option Value} {mg mb : Str → Option Value} {ns : List Int} {b₀ : Heap} {da : Nat} {t1 t2 : Tok}
    (X : (hd.heap_1 w.params).In b₀) (T : Top p loose mean mg mb b₀) (n108 : b₀.get? 108 = none) (hA : b₀.DictOf (strKind prog w) da (attKvs (.str "" t1) (.int 1 t2) .none)) (hda : (da == sysModules) = false) :
    ∀ d n u, n + 10 * d ≤ 600 → u + 20 * d ≤ 4000 → MirC prog w ns b₀ da d n u := by
  intro d
  induction d using Nat.strongRecOn with
  | _ d IH => exact fun n u h1 h2 => mir_step (Nat.le_trans (Nat.le_add_right _ _) h1) (Nat.le_trans (Nat.le_add_right _ _) h2) X T n108 hA hda fun d' hd' => IH d' hd' _ _ (step_room h1 hd') (step_room h2 hd')
example : True := by k_with_none; trivial
example : True := by
  k_with "mine enter0" => (
      refine' enter ?kX ?kT ?k6 ?k7 ?k8 ?k9 ?kB ?_ ?c2 ?c3 ?c4 ?c5
      (case kX => assumption)
      (case kT => exact Top.nolimit (by assumption))
      (case k6 => k_is)
      (case k7 => k_is)
      (case k8 => decide)
      (case k9 => first | exact BindsTo.of_eq rfl | exact kp_binds (by assumption) (fun _ => rfl))
      (case c5 => decide)
      (case kB => exact locs rfl)
      (case c2 => exact rfl)
      (case c3 => exact rfl)
      (case c4 => exact rfl))
  k_with "mine enterC0" => (
      refine' enterC ?kX ?kT ?k6 ?k7 ?k8 ?k9 ?kB ?kD ?_ ?c2 ?c3 ?c4
      (case kX => assumption)
      (case kT => exact Top.nolimit (by assumption))
      (case k6 => k_is)
      (case k7 => k_is)
      (case k8 => decide)
      (case k9 => first | exact BindsTo.of_eq rfl | exact kp_binds (by assumption) (fun _ => rfl))
      (case kB => exact rfl)
      (case kD => decide +kernel)
      (case c2 => exact rfl)
      (case c3 => exact rfl)
      (case c4 => exact rfl))
  k_with "mine enterH" => (
      (case k6 => k_is)
      (case k7 => k_is)
      (case k8 => decide)
      (case k9 => first | exact fun _ => BindsTo.of_eq rfl | exact fun X' => kp_binds X' (fun _ => rfl))
      (case kB => exact rfl)
      (case kD => decide +kernel)
      (case c2 => exact rfl)
      (case c3 => exact rfl)
      (case c4 => exact rfl))
  k_with "mine tl" => (with_reducible first | exact tl_tag | exact tl_tail | exact tl_attrib | exact tl_kids | exact tl_append | exact tl_makeelement | exact tl_itertext)
  k_with "mine fnset0" => (
      refine' fnset0 ?F ?N ?U ?hc ?hdc ?hB ?_
      (case F => k_asm)
      (case N => k_asm)
      (case U => k_updF)
      (case hc => rfl)
      (case hdc => intro c q; cases q)
      (case hB => walk_at "mine tl"))
  k_with "mine fnset1" => (
      refine' fnset1 ?F ?N ?hf ?U ?hD ?hc ?hdf ?hdc ?hB ?hw ?hsz ?_
      (case F => k_asm)
      (case N => k_asm)
      (case hf => k_mem)
      (case U => k_updF)
      (case hD => with_reducible assumption)
      (case hc => rfl)
      (case hdf => first | k_ne | omega)
      (case hdc => intro c q; cases q)
      (case hB => walk_at "mine tl")
      (case hw => within_ways)
      (case hsz => decide))
  k_with "mine ne" => (with_reducible first
      | exact Nat.ne_of_lt (by assumption)
      | exact Nat.ne_of_lt (And.left (by assumption))
      | exact Nat.ne_of_lt (And.left (And.right (by assumption)))
      | exact Nat.ne_of_lt (And.right (by assumption))
      | exact Nat.ne_of_lt (And.left (And.right (And.right (by assumption))))
      | exact Nat.ne_of_lt (And.right (And.right (by assumption)))
      | exact Nat.ne_of_lt (And.left (And.right (And.right (And.right (by assumption)))))
      | exact Nat.ne_of_lt (And.right (And.right (And.right (by assumption))))
      | exact Nat.ne_of_lt (And.left (And.right (And.right (And.right (And.right (by assumption))))))
      | exact Nat.ne_of_lt (And.right (And.right (And.right (And.right (by assumption)))))
      | exact Nat.ne_of_lt (And.left (And.right (And.right (And.right (And.right (And.right (by assumption)))))))
      | exact Nat.ne_of_lt (And.right (And.right (And.right (And.right (And.right (by assumption))))))
      | exact Nat.ne_of_lt (And.left (And.right (And.right (And.right (And.right (And.right (And.right (by assumption))))))))
      | exact Nat.ne_of_lt (And.right (And.right (And.right (And.right (And.right (And.right (by assumption)))))))
      | exact Nat.ne_of_lt (And.left (And.right (And.right (And.right (And.right (And.right (And.right (And.right (by assumption)))))))))
      | exact Nat.ne_of_lt (And.right (And.right (And.right (And.right (And.right (And.right (And.right (by assumption))))))))
      | exact Nat.ne_of_lt (And.left (And.right (And.right (And.right (And.right (And.right (And.right (And.right (And.right (by assumption))))))))))
      | exact Nat.ne_of_lt (And.right (And.right (And.right (And.right (And.right (And.right (And.right (And.right (by assumption)))))))))
      | exact Nat.ne_of_lt (And.left (And.right (And.right (And.right (And.right (And.right (And.right (And.right (And.right (And.right (by assumption)))))))))))
      | exact Nat.ne_of_lt (And.right (And.right (And.right (And.right (And.right (And.right (And.right (And.right (And.right (by assumption))))))))))
      | exact Nat.ne_of_gt (by assumption)
      | exact Nat.ne_of_gt (And.left (by assumption))
      | exact Nat.ne_of_gt (And.left (And.right (by assumption)))
      | exact Nat.ne_of_gt (And.right (by assumption))
      | exact Nat.ne_of_gt (And.left (And.right (And.right (by assumption))))
      | exact Nat.ne_of_gt (And.right (And.right (by assumption)))
      | exact Nat.ne_of_gt (And.left (And.right (And.right (And.right (by assumption)))))
      | exact Nat.ne_of_gt (And.right (And.right (And.right (by assumption))))
      | exact Nat.ne_of_gt (And.left (And.right (And.right (And.right (And.right (by assumption))))))
      | exact Nat.ne_of_gt (And.right (And.right (And.right (And.right (by assumption)))))
      | exact Nat.ne_of_gt (And.left (And.right (And.right (And.right (And.right (And.right (by assumption)))))))
      | exact Nat.ne_of_gt (And.right (And.right (And.right (And.right (And.right (by assumption))))))
      | exact Nat.ne_of_gt (And.left (And.right (And.right (And.right (And.right (And.right (And.right (by assumption))))))))
      | exact Nat.ne_of_gt (And.right (And.right (And.right (And.right (And.right (And.right (by assumption)))))))
      | exact Nat.ne_of_gt (And.left (And.right (And.right (And.right (And.right (And.right (And.right (And.right (by assumption)))))))))
      | exact Nat.ne_of_gt (And.right (And.right (And.right (And.right (And.right (And.right (And.right (by assumption))))))))
      | exact Nat.ne_of_gt (And.left (And.right (And.right (And.right (And.right (And.right (And.right (And.right (And.right (by assumption))))))))))
      | exact Nat.ne_of_gt (And.right (And.right (And.right (And.right (And.right (And.right (And.right (And.right (by assumption)))))))))
      | exact Nat.ne_of_gt (And.left (And.right (And.right (And.right (And.right (And.right (And.right (And.right (And.right (And.right (by assumption)))))))))))
      | exact Nat.ne_of_gt (And.right (And.right (And.right (And.right (And.right (And.right (And.right (And.right (And.right (by assumption)))))))))))
  trivial
theorem ins_list {prog : Program} {w : World} {A : Around} {s : Shared} {D : Addr} {r n : Nat} {vs : List Value} {y : Value} {u : Tok} {Q E : Value → Shared → Prop} (hD : s.heap.get? D = some { cls := .type "list", data := .seq vs.toArray n }) (hr : r ≤ vs.length) (hz : vs.length ≤ 1000)
    (h : ∀ h', Upd D s.heap h' → ListAt h' D (vs.take r ++ [y] ++ vs.drop r) → Q .none { s with heap := h' }) : wpAny (model prog w) A (call (.builtin "list.insert") [.ref D, .int (r : Int) u, y]) Q E s := by
  generalize hk : (r : Int) = k
  have hf : Builtin.List.listFitsIndex k = true := by unfold Builtin.List.listFitsIndex; simp only [Bool.and_eq_true, decide_eq_true_eq]; omega
  have hs : vs.toArray.size ≤ sizeLine := by
    have : (2000 : Nat) ≤ sizeLine := by decide
    simp only [List.size_toArray]; omega
  generalize hv : vs.toArray = V at hD hs
  have hfn : ¬(!Builtin.List.listFitsIndex k) = true := by rw [hf]; decide
  refine call_meets PySem.F.slot_list_insert ⟨_, hD, rfl⟩ PySem.F.entry_list_insert (PySem.F.args_list_insert_3 _ _ _) (PySem.AutoSeq1.list_insert_list_int_val_1 D V n k u y hfn hs) ⟨hD, h _ (fun b o hb e => (Heap.get?_update_other _ _ (Ne.symm hb)).trans e) ?_⟩
  obtain ⟨F, hF⟩ : ∃ F : Array Value → Array Value, F = (fun xs : Array Value => have k := if k < 0 then (k + (xs.size : Int)).toNat else min k.toNat xs.size; (xs.extract 0 k).push y ++ xs.extract k) := ⟨_, rfl⟩
  have e : F V = (vs.take r ++ [y] ++ vs.drop r).toArray := by
    subst hv hk hF
    have h1 : ¬ (r : Int) < 0 := by omega
    simp only [h1, if_false, Int.toNat_natCast, List.size_toArray, Nat.min_eq_left hr]
    apply Array.toList_inj.mp
    simp [List.take_of_length_le]
  have q := PySem.IsL.update hD F
  rw [e, hF] at q
  exact ⟨_, q⟩
theorem bisect_left_spec4 {prog : Program} {w : World} {p loose mean mg mb} {s : Shared} {a : Addr} {vs : List Value} {ns : List Int} {x : Int} {tx t0 : Tok} {Q E : Value → Shared → Prop}
    (X : (hd.heap_1 w.params).In s.heap) (T : Top p loose mean mg mb s.heap) (hl : s.heap.IsList a vs.toArray) (hi : IntsAre vs ns) (hn : ns.length ≤ 100) (hr : Rising ns)
    (ret : ∀ (r : Nat) t h' tk', Kp s.heap h' → r ≤ ns.length → (∀ k : Nat, k < r → ns.getD k 0 < x) → (∀ k : Nat, r ≤ k → k < ns.length → x ≤ ns.getD k 0) → Q (.int r t) { s with heap := h', toks := tk' }) :
    wpAny (model prog w) (AX 700 5000) (call (.ref 48) [.ref a, .int x tx, .int 0 t0, .none]) Q E s :=
  bisect_left_any (fun o fd e d => by
    obtain rfl : o = _ := Option.some.inj (e.symm.trans rfl)
    cases d
    exact kp_binds X (fun _ => rfl)) X T hl hi hn hr ret
theorem insort_spec {prog : Program} {w : World} {p loose mean mg mb} {s : Shared} {b₀ : Heap} {a : Addr} {vs : List Value} {ns : List Int} {x : Int} {tx : Tok} {Q E : Value → Shared → Prop}
    (X : (hd.heap_1 w.params).In b₀) (T : Top p loose mean mg mb b₀) (k₀ : Kp b₀ s.heap) (hl : ListAt s.heap a vs) (na : b₀.get? a = none) (hi : IntsAre vs ns) (hn : ns.length ≤ 100) (hr : Rising ns)
    (ret : ∀ (r : Nat) t h' tk', Upd a s.heap h' → r ≤ ns.length → (∀ k : Nat, k < r → ns.getD k 0 < x) → (∀ k : Nat, r ≤ k → k < ns.length → x ≤ ns.getD k 0) → ListAt h' a (vs.take r ++ [.int x t] ++ vs.drop r) → Q .none { s with heap := h', toks := tk' }) :
    wpAny (model prog w) (AX 690 4990) (call (.ref 39) [.ref a, .int x tx]) Q E s := by
  obtain ⟨n₀, hl⟩ := hl
  refine' enterH (hid := [(a, { cls := .type "list", data := .seq vs.toArray n₀ })]) X T k₀ (fun q hq => by rw [List.mem_singleton.mp hq]; exact ⟨hl, na⟩) ?k6 ?k7 ?k8 ?k9 ?kB ?kD ?_ ?c2 ?c3 ?c4
  walk_at "mine enterH"
  intro g L₁ h₁ tk₁ cells₁ X₁ T₁ up dn hL F₁ N₁ Y₁
  obtain rfl : cells₁ = [] := by
    have Y₂ : CellsAre _ [] cells₁ := Y₁
    cases Y₂; rfl
  simp only [List.nil_append] at N₁
  clear Y₁
  (try dsimp only)
  k_steps
  refine wpAny_weaken (n := 700) (u := 5000) ?_ rfl (Nat.le_of_ble_eq_true rfl) rfl (Nat.le_of_ble_eq_true rfl)
  refine bisect_left_spec4 (X₁.keeps F₁.keep) (T₁.keeps F₁.keep) (ListAt.isList ⟨n₀, (N₁ _ (.head _)).1⟩) hi hn hr ?_
  intro r t' h' tk' k' hr' lt' ge'
  have F' := F₁.keeps k'
  have N' := News.grown N₁ k'
  clear F₁ N₁
  have hrv : r ≤ vs.length := by rw [hi.length]; exact hr'
  k_steps
  rename_i F9 N9
  refine ins_list (N9 _ (.head _)).1 hrv (by rw [hi.length]; omega) fun h₅ u₅ l₅ => ?_
  refine wpAny_execs_nil (ret r tx h₅ _ (fun b o hb e => u₅ b o hb (F9.keep b o (up b o e fun hm => hb (List.mem_singleton.mp hm)))) hr' lt' ge' l₅)
example : True := by k_with_none; trivial
example : True := by
  k_with "mine enter0" => (
      refine' enter ?kX ?kT ?k6 ?k7 ?k8 ?k9 ?kB ?_ ?c2 ?c3 ?c4 ?c5
      (case kX => assumption)
      (case kT => exact Top.nolimit (by assumption))
      (case k6 => k_is)
      (case k7 => k_is)
      (case k8 => decide)
      (case k9 => first | exact BindsTo.of_eq rfl | exact kp_binds (by assumption) (fun _ => rfl))
      (case c5 => decide)
      (case kB => exact locs rfl)
      (case c2 => exact rfl)
      (case c3 => exact rfl)
      (case c4 => exact rfl))
  k_with "mine enterC0" => (
      refine' enterC ?kX ?kT ?k6 ?k7 ?k8 ?k9 ?kB ?kD ?_ ?c2 ?c3 ?c4
      (case kX => assumption)
      (case kT => exact Top.nolimit (by assumption))
      (case k6 => k_is)
      (case k7 => k_is)
      (case k8 => decide)
      (case k9 => first | exact BindsTo.of_eq rfl | exact kp_binds (by assumption) (fun _ => rfl))
      (case kB => exact rfl)
      (case kD => decide +kernel)
      (case c2 => exact rfl)
      (case c3 => exact rfl)
      (case c4 => exact rfl))
  k_with "mine enterH" => (
      (case k6 => k_is)
      (case k7 => k_is)
      (case k8 => decide)
      (case k9 => first | exact fun _ => BindsTo.of_eq rfl | exact fun X' => kp_binds X' (fun _ => rfl))
      (case kB => exact rfl)
      (case kD => decide +kernel)
      (case c2 => exact rfl)
      (case c3 => exact rfl)
      (case c4 => exact rfl))
  k_with "mine tl" => (with_reducible first | exact tl_tag | exact tl_tail | exact tl_attrib | exact tl_kids | exact tl_append | exact tl_makeelement | exact tl_itertext)
  k_with "mine fnset0" => (
      refine' fnset0 ?F ?N ?U ?hc ?hdc ?hB ?_
      (case F => k_asm)
      (case N => k_asm)
      (case U => k_updF)
      (case hc => rfl)
      (case hdc => intro c q; cases q)
      (case hB => walk_at "mine tl"))
  k_with "mine fnset1" => (
      refine' fnset1 ?F ?N ?hf ?U ?hD ?hc ?hdf ?hdc ?hB ?hw ?hsz ?_
      (case F => k_asm)
      (case N => k_asm)
      (case hf => k_mem)
      (case U => k_updF)
      (case hD => with_reducible assumption)
      (case hc => rfl)
      (case hdf => first | k_ne | omega)
      (case hdc => intro c q; cases q)
      (case hB => walk_at "mine tl")
      (case hw => within_ways)
      (case hsz => decide))
  k_with "mine ne" => (with_reducible first
      | exact Nat.ne_of_lt (by assumption)
      | exact Nat.ne_of_lt (And.left (by assumption))
      | exact Nat.ne_of_lt (And.left (And.right (by assumption)))
      | exact Nat.ne_of_lt (And.right (by assumption))
      | exact Nat.ne_of_lt (And.left (And.right (And.right (by assumption))))
      | exact Nat.ne_of_lt (And.right (And.right (by assumption)))
      | exact Nat.ne_of_lt (And.left (And.right (And.right (And.right (by assumption)))))
      | exact Nat.ne_of_lt (And.right (And.right (And.right (by assumption))))
      | exact Nat.ne_of_lt (And.left (And.right (And.right (And.right (And.right (by assumption))))))
      | exact Nat.ne_of_lt (And.right (And.right (And.right (And.right (by assumption)))))
      | exact Nat.ne_of_lt (And.left (And.right (And.right (And.right (And.right (And.right (by assumption)))))))
      | exact Nat.ne_of_lt (And.right (And.right (And.right (And.right (And.right (by assumption))))))
      | exact Nat.ne_of_lt (And.left (And.right (And.right (And.right (And.right (And.right (And.right (by assumption))))))))
      | exact Nat.ne_of_lt (And.right (And.right (And.right (And.right (And.right (And.right (by assumption)))))))
      | exact Nat.ne_of_lt (And.left (And.right (And.right (And.right (And.right (And.right (And.right (And.right (by assumption)))))))))
      | exact Nat.ne_of_lt (And.right (And.right (And.right (And.right (And.right (And.right (And.right (by assumption))))))))
      | exact Nat.ne_of_lt (And.left (And.right (And.right (And.right (And.right (And.right (And.right (And.right (And.right (by assumption))))))))))
      | exact Nat.ne_of_lt (And.right (And.right (And.right (And.right (And.right (And.right (And.right (And.right (by assumption)))))))))
      | exact Nat.ne_of_lt (And.left (And.right (And.right (And.right (And.right (And.right (And.right (And.right (And.right (And.right (by assumption)))))))))))
      | exact Nat.ne_of_lt (And.right (And.right (And.right (And.right (And.right (And.right (And.right (And.right (And.right (by assumption))))))))))
      | exact Nat.ne_of_gt (by assumption)
      | exact Nat.ne_of_gt (And.left (by assumption))
      | exact Nat.ne_of_gt (And.left (And.right (by assumption)))
      | exact Nat.ne_of_gt (And.right (by assumption))
      | exact Nat.ne_of_gt (And.left (And.right (And.right (by assumption))))
      | exact Nat.ne_of_gt (And.right (And.right (by assumption)))
      | exact Nat.ne_of_gt (And.left (And.right (And.right (And.right (by assumption)))))
      | exact Nat.ne_of_gt (And.right (And.right (And.right (by assumption))))
      | exact Nat.ne_of_gt (And.left (And.right (And.right (And.right (And.right (by assumption))))))
      | exact Nat.ne_of_gt (And.right (And.right (And.right (And.right (by assumption)))))
      | exact Nat.ne_of_gt (And.left (And.right (And.right (And.right (And.right (And.right (by assumption)))))))
      | exact Nat.ne_of_gt (And.right (And.right (And.right (And.right (And.right (by assumption))))))
      | exact Nat.ne_of_gt (And.left (And.right (And.right (And.right (And.right (And.right (And.right (by assumption))))))))
      | exact Nat.ne_of_gt (And.right (And.right (And.right (And.right (And.right (And.right (by assumption)))))))
      | exact Nat.ne_of_gt (And.left (And.right (And.right (And.right (And.right (And.right (And.right (And.right (by assumption)))))))))
      | exact Nat.ne_of_gt (And.right (And.right (And.right (And.right (And.right (And.right (And.right (by assumption))))))))
      | exact Nat.ne_of_gt (And.left (And.right (And.right (And.right (And.right (And.right (And.right (And.right (And.right (by assumption))))))))))
      | exact Nat.ne_of_gt (And.right (And.right (And.right (And.right (And.right (And.right (And.right (And.right (by assumption)))))))))
      | exact Nat.ne_of_gt (And.left (And.right (And.right (And.right (And.right (And.right (And.right (And.right (And.right (And.right (by assumption)))))))))))
      | exact Nat.ne_of_gt (And.right (And.right (And.right (And.right (And.right (And.right (And.right (And.right (And.right (by assumption)))))))))))
  trivial
theorem intsSet : ∀ {vs : List Value} {ns : List Int}, IntsAre vs ns → ∀ (k : Nat) (x : Int) (t : Tok), IntsAre (vs.set k (.int x t)) (ns.set k x) := by
  intro vs ns h
  induction h with
  | nil => intro k x t; exact .nil
  | cons n u h ih =>
    intro k x t
    cases k with
    | zero => exact .cons x t h
    | succ k => exact .cons n u (ih k x t)
noncomputable def CellJ (D : Addr) (od : Obj) (C : Addr) (m : Str → Option Value) (news : List (Addr × Obj)) : Prop :=
  ∃ o vs xs k, news = [(D, od), (C, o)] ∧ o.cls = .type "list" ∧ o.data = .seq (vs : List Value).toArray k ∧ IntsAre vs xs ∧ xs.length = 17 ∧ m "cells" = some (.ref C)
local macro_rules | `(tactic| walk_at "exec For Tuple Call") => `(tactic| k_extra "mine fort")
theorem pairAt3_mk {prog : Program} {w : World} {A : Around} {h₀ : Heap} {env : Env} {xi xc : Str} {body : List Stmt} {Q : Flow → Shared → Prop} {E : Value → Shared → Prop} {s₂ : Shared} {I : Addr} {fp wr : List Addr} {n : Nat} {Pt : Nat → Array Value → Prop} {St : Nat → Heap → Prop} {Mid : Nat → Addr → Heap → Prop} (P2 : Nat → Value → Value → Prop) {m : Str → Option Value} {news : List (Addr × Obj)} (J : Nat → (Str → Option Value) → List (Addr × Obj) → Prop)
    (W : WalksT prog w A I fp wr n Pt St Mid) (h2 : ∀ i vals, Pt i vals → ∃ v0 v1, vals = #[v0, v1] ∧ P2 i v0 v1) (h3 : env.locals ∉ fp) (h4 : ∀ b ∈ wr, h₀.get? b = none) (h5 : ∀ p ∈ news, p.1 ∉ wr) (h6 : St 0 s₂.heap) (F : Fr h₀ env.locals s₂.heap m) (N : News h₀ env.locals s₂.heap news) (h0 : J 0 m news)
    (step : ∀ i v0 v1 m₁ news₁ s₁ own, (∃ h tk, s₁ = { s₂ with heap := h, toks := tk }) → i < n → P2 i v0 v1 → J i m₁ news₁ → news₁.map (·.1) = news.map (·.1) → (∀ p ∈ own, p.1 ∈ fp) →
      Fr h₀ env.locals s₁.heap (fun y => if y = xc then some v1 else if y = xi then some v0 else m₁ y) → News h₀ env.locals s₁.heap (own ++ news₁) →
      wpAny (model prog w) A (execs body env) (LoopStep3 h₀ env.locals own news₁ (J (i + 1)) s₁ (fun v s' => Q (.ret v) s') fun s' => Q .next s') E s₁)
    (done : ∀ h' tk m' news', Fr h₀ env.locals h' m' → News h₀ env.locals h' news' → news'.map (·.1) = news.map (·.1) → J n m' news' → Q .next { s₂ with heap := h', toks := tk }) : PairAt3 prog w A h₀ env xi xc body Q E (.ref I) s₂ :=
  ⟨I, fp, wr, n, Pt, St, Mid, P2, m, news, J, rfl, W, h2, h3, h4, h5, h6, F, N, h0, step, done⟩
theorem cells_spec {prog : Program} {w : World} {p loose mean mg mb} {s : Shared} {a : Addr} {vs : List Value} {ns : List Int} {Q E : Value → Shared → Prop}
    (X : (hd.heap_1 w.params).In s.heap) (T : Top p loose mean mg mb s.heap) (hl : s.heap.IsList a vs.toArray) (hi : IntsAre vs ns) (hn : vs.length ≤ 100)
    (ret : ∀ C ws xs h' tk', Kp s.heap h' → h'.IsList C ws.toArray → IntsAre ws xs → xs.length = 17 → Q (.ref C) { s with heap := h', toks := tk' }) :
    wpAny (model prog w) (AX 690 4990) (call (.ref 175) [.ref a]) Q E s := by
  k_with "mine fort" => (refine For_pair3 s.heap rfl rfl rfl rfl ?_ (fun _ => rfl))
  walk_at "mine enter"
  k_steps
  rename_i L₁ _ _ hL₁ C _ _ _ D ws h₁ F₁ N₁ I₁ C₁ _ lCD
  have hws : ws.length ≤ 60 := by rw [I₁.length, C₁]; omega
  have hD := (N₁ _ (.head _))
  have hC := (N₁ _ (.tail _ (.head _)))
  have hlt : D < h₁.objs.size := Heap.lt_size hD.1
  have hltC : C < h₁.objs.size := Heap.lt_size hC.1
  have hltL : L₁ < h₁.objs.size := F₁.ns.lt
  refine call_enumerate_list (items := ws.toArray) ⟨_, hD.1, rfl, _, rfl⟩ fun h₂ hE hI hsz hk => ?_
  refine wpAny_pyIter_enum hE ?_
  refine pairAt3_mk (fun i v0 v1 => ∃ t, v0 = .int i t ∧ ws.toArray[i]? = some v1) (fun _ m news => CellJ D (listOf ws.toArray 0) C m news) (WalksT.enumerate rfl (h₁.objs.size + 1) h₁.objs.size D (Nat.succ_ne_self _) (Nat.ne_of_lt (Nat.lt_succ_of_lt hlt)) (Nat.ne_of_lt hlt) ws.toArray) ?_ ?_ ?_ ?_ ⟨⟨_, hE⟩, hI, ⟨_, hk _ _ hD.1, rfl, _, rfl⟩⟩ (F₁.keeps hk) (N₁.grown hk) ?_ ?_ ?_
  · intro i vals qq0
    refine gg fun P hP => ?_
    obtain ⟨t, x, hPx, rfl⟩ := qq0
    refine hP ?_
    clear hP
    exact ⟨_, _, rfl, t, rfl, hPx⟩
  · intro q
    have q' : L₁ ∈ ([h₁.objs.size + 1, h₁.objs.size, D] : List Nat) := q
    simp only [List.mem_cons, List.not_mem_nil, or_false] at q'
    rcases q' with q' | q' | q'
    · exact absurd hltL (by rw [q']; exact Nat.not_lt.mpr (Nat.le_succ _))
    · exact absurd hltL (by rw [q']; exact Nat.lt_irrefl _)
    · exact hD.2.1 q'.symm
  · intro b hb
    have hab : s.heap.objs.size ≤ L₁ := F₁.above
    have : h₁.objs.size ≤ b := by
      rcases List.mem_cons.mp hb with q | hb
      · exact q ▸ Nat.le_succ _
      · exact List.mem_singleton.mp hb ▸ Nat.le_refl _
    exact Heap.get?_none_of_le (Nat.le_trans hab (Nat.le_trans (Nat.le_of_lt hltL) this))
  · intro q hq hb
    have : h₁.objs.size ≤ q.1 := by
      rcases List.mem_cons.mp hb with q' | hb
      · exact q' ▸ Nat.le_succ _
      · exact List.mem_singleton.mp hb ▸ Nat.le_refl _
    exact absurd (Heap.lt_size (N₁ q hq).1) (Nat.not_lt.mpr this)
  · exact ⟨_, _, _, _, rfl, rfl, rfl, .cons _ _ (.cons _ _ (.cons _ _ (.cons _ _ (.cons _ _ (.cons _ _ (.cons _ _ (.cons _ _ (.cons _ _ (.cons _ _ (.cons _ _ (.cons _ _ (.cons _ _ (.cons _ _ (.cons _ _ (.cons _ _ (.cons _ _ .nil)))))))))))))))), rfl, rfl⟩
  · intro i v0 v1 m news₁ s₁ own qq0 hi' qq1 qq2 ha hown F₃ N₃
    refine gg fun P hP => ?_
    obtain ⟨h₃, tk₃, rfl⟩ := qq0
    obtain ⟨t, rfl, hv⟩ := qq1
    obtain ⟨o, vs', xs, k, rfl, oc, od, ia, xl, mc⟩ := qq2
    obtain ⟨n, tv, rfl, hxn⟩ := IntsAre.at I₁ i v1 (by simpa using hv)
    refine hP ?_
    clear hP
    have hC₃ := N₃ (C, o) (List.mem_append_right _ (.tail _ (.head _)))
    have hvl := ia.length
    refine gg fun P hP => ?_
    obtain ⟨r, hr, hr17⟩ : ∃ r : Nat, ((i : Int).fmod 17) = r ∧ r < 17 := ⟨i % 17, by rw [Int.fmod_eq_emod_of_nonneg _ (by decide)]; omega, by omega⟩
    refine hP ?_
    clear hP
    have mc' : (if ("cells" : Str) = ("number" : Str) then some (Value.int n tv) else if ("cells" : Str) = ("place" : Str) then some (Value.int (i : Int) t) else m "cells") = some (.ref C) := by
      rw [if_neg (by decide), if_neg (by decide)]; exact mc
    refine wpAny_execs_cons (wpAny_AugAssign_SubscriptAny ?_)
    refine Ev.go (s := s) (Ev.local (x := "cells") (v := .ref C) F₃.ns mc' rfl rfl) fun tk₄ => ?_
    refine wpAny_BinOp ((Ev.go (s := s) (Ev.local (v := .int i t) F₃.ns rfl rfl rfl) fun tk₅ => ?_))
    refine wpAny_Constant_int (mod_int' (by decide) ?_)
    rw [hr]
    refine gg fun P hP => ?_
    obtain ⟨y, ty, hy, _⟩ : ∃ y ty, vs'[r]? = some (.int y ty) ∧ xs[r]? = some y := by
      have hlt : r < vs'.length := by omega
      obtain ⟨y, ty, e, e'⟩ := IntsAre.at ia r _ (List.getElem?_eq_getElem hlt)
      exact ⟨y, ty, by rw [List.getElem?_eq_getElem hlt, e], e'⟩
    refine hP ?_
    clear hP
    refine wpAny_getItem_list (items := vs'.toArray) ⟨o, hC₃.1, oc, k, od⟩ (by omega) (by omega) (x := .int y ty) (by simpa using hy) ?_
    refine Ev.go (s := s) (Ev.local (v := .int n tv) F₃.ns rfl rfl rfl) fun tk₆ => ?_
    refine iadd_int ?_
    refine wpAny_setItem_list (items := vs'.toArray) ⟨o, hC₃.1, oc, k, od⟩ (by omega) (by omega) (by simp only [List.size_toArray]; omega) fun h₄ hl₄ hs₄ => ?_
    refine gg fun P hP => ?_
    obtain ⟨o₄, ho₄, hc₄, k₄, hd₄⟩ := hl₄
    refine hP ?_
    clear hP
    have hCL : C ≠ L₁ := hC₃.2.1
    have hown' : ∀ q ∈ own ++ [(D, listOf ws.toArray 0)], q.1 ≠ C := by
      intro q hq
      rcases List.mem_append.mp hq with hq | hq
      · have q' : q.1 ∈ ([h₁.objs.size + 1, h₁.objs.size, D] : List Nat) := hown q hq
        simp only [List.mem_cons, List.not_mem_nil, or_false] at q'
        intro e
        rw [e] at q'
        rcases q' with q' | q' | q'
        · exact absurd hltC (by rw [q']; exact Nat.not_lt.mpr (Nat.le_succ _))
        · exact absurd hltC (by rw [q']; exact Nat.lt_irrefl _)
        · exact absurd lCD (by rw [q']; exact Nat.lt_irrefl _)
      · rw [List.mem_singleton.mp hq]; exact Nat.ne_of_gt lCD
    have F₄ := F₃.change hs₄ hC₃.2.1 hC₃.2.2
    have N₄ := News.setIn (own := own ++ [(D, listOf ws.toArray 0)]) (rest := []) (by simpa using N₃) hown' (by simp) hs₄ ho₄
    refine wpAny_execs_nil ?_
    refine LoopStep2.intro (Jn := CellJ D (listOf ws.toArray 0) C) (news₂ := [(D, listOf ws.toArray 0), (C, o₄)]) F₄ (by simpa using N₄) rfl ?_
    refine ⟨o₄, vs'.set r (.int (y + n) tk₆), xs.set r (y + n), k₄, rfl, hc₄, ?_, intsSet ia _ _ _, by simpa using xl, mc'⟩
    rw [hd₄]
    simp only [List.setIfInBounds_toArray, Int.toNat_natCast]
  · intro h' tk' m' news' F₃ N₃ ha qq0
    refine gg fun P hP => ?_
    obtain ⟨o, vs', xs, k, rfl, oc, od, ia, xl, mc⟩ := qq0
    refine hP ?_
    clear hP
    refine wpAny_execs_cons (wpAny_Return_some ?_)
    refine Ev.go (s := s) (Ev.local (v := .ref C) F₃.ns mc rfl rfl) fun tk₄ => ?_
    exact ret C vs' xs _ _ F₃.keep ⟨o, (N₃ _ (.tail _ (.head _))).1, oc, k, od⟩ ia xl
section
variable {prog : Program} {w : World} {A : Around} {env : Env} {E : Value → Shared → Prop} {s : Shared}
theorem sIf {test : Expr} {body orelse : List Stmt} {pos : Pos} {Q : Flow → Shared → Prop}
    (h : wpS (model prog w) A (isTrue test env (eval test env)) (fun b s₂ => if b then wpS (model prog w) A (execs body env) Q E s₂ else wpS (model prog w) A (execs orelse env) Q E s₂) E s) :
    wpS (model prog w) A (exec (.If test body orelse pos) env) Q E s := fun Γ p hΓ c1 c2 => by
  simp only [exec_If, Sem.wp_bind', Sem.wp_cmd_standAt]
  refine Sem.wp_mono _ Γ _ (fun b p₂ s₂ h₂ => ?_) (fun _ _ _ h' => h') _ _ (h Γ _ hΓ c1 c2)
  cases b <;> exact h₂ Γ p₂ hΓ c1 c2
theorem sIsTrue_or {x : Expr} {rest : List Expr} {pos : Pos} {whole : Sem Value} {Q : Bool → Shared → Prop}
    (h : wpS (model prog w) A (isTrue x env (eval x env)) (fun c s' => if c then Q true s' else wpS (model prog w) A (isTrue (.BoolOp .Or rest pos) env whole) Q E s') E s) :
    wpS (model prog w) A (isTrue (.BoolOp .Or (x :: rest) pos) env whole) Q E s := by
  show wpS _ A (do
    match BoolOp.Or, ← isTrue x env (eval x env) with
    | .And, false => Pure.pure false
    | .Or, true => Pure.pure true
    | _, _ => allTrue .Or rest env) Q E s
  refine S.bind (S.mono h (fun c s' h' => ?_) fun _ _ x => x)
  cases c with
  | false => exact h'
  | true => exact S.pure h'
theorem sCompare1 {l : Expr} {op : CmpOp} {r : Expr} {pos : Pos} {whole : Sem Value} {Q : Bool → Shared → Prop}
    (h : wpS (model prog w) A (eval l env) (fun a s₁ => wpS (model prog w) A (eval r env) (fun b s₂ => wpS (model prog w) A (compareOp op a b)
      (fun c s₃ => wpS (model prog w) A (truthy c) Q E s₃) E s₂) E s₁) E s)
    (hm : behindInMarks op r = false := by with_unfolding_all rfl) : wpS (model prog w) A (isTrue (.Compare l [op] [r] pos) env whole) Q E s := fun Γ p hΓ c1 c2 => by
  simp only [PySem.isTrue_Compare1, markedBehindIn_of_false hm, Sem.wp_bind', Sem.wp_holding, Sem.wp_cmd_standAt, Sem.wp_operate]
  exact Sem.wp_mono _ Γ _ (fun a p₁ s₁ h₁ => Sem.wp_mono _ Γ _ (fun b _ s₂ h₂ => Sem.wp_mono _ Γ _ (fun c p₃ s₃ h₃ => h₃ Γ p₃ hΓ c1 c2)
    (fun _ _ _ h' => h') _ _ (h₂ Γ _ hΓ c1 c2)) (fun _ _ _ h' => h') _ _ (h₁ Γ p₁ hΓ c1 c2)) (fun _ _ _ h' => h') _ _ (h Γ p hΓ c1 c2)
theorem sSplicedNil {Q : List Value → Shared → Prop} (h : Q [] s) : wpS (model prog w) A (spliced []) Q E s := S.pure h
theorem sSplicedCons {x : Sem Value} {rest : List (Bool × Sem Value)} {Q : List Value → Shared → Prop}
    (h : wpS (model prog w) A x (fun v s₁ => wpS (model prog w) A (spliced rest) (fun vs s₂ => Q (v :: vs) s₂) E s₁) E s) : wpS (model prog w) A (spliced ((false, x) :: rest)) Q E s := by
  rw [spliced]
  refine S.bind (S.mono h (fun v s₁ h₁ => ?_) fun _ _ x => x)
  simp only [Bool.false_eq_true, if_false]
  exact S.bind (S.pure (S.bind (S.holding (S.mono h₁ (fun vs s₂ h₂ => S.pure h₂) fun _ _ x => x))))
theorem sArgsCons {e : Expr} {rest : List Expr} {pos : Pos} {Q : List Value → Shared → Prop}
    (h : wpS (model prog w) A (eval e env) (fun v s₁ => wpS (model prog w) A (spliced (backTo pos (starEach rest env))) (fun vs s₂ => Q (v :: vs) s₂) E s₁) E s)
    (he : starEach (e :: rest) env = (false, eval e env) :: starEach rest env := by rfl) : wpS (model prog w) A (spliced (backTo pos (starEach (e :: rest) env))) Q E s := by
  rw [he]; exact sSplicedCons h
/-- a call with places alone, of a function, its arguments over the clean contexts -/
theorem sCallF {f : Expr} {es : List Expr} {pos : Pos} {a : Addr} {x : Sem Value} {rest : List (Bool × Sem Value)} {Q : Value → Shared → Prop} (hf : Ev prog w A env f s.heap (fun u => u = .ref a))
    (h : ∀ tk, wpS (model prog w) A (spliced ((false, x) :: rest)) (fun vs s₁ => FnO s₁.heap a ∧ wpS (model prog w) A (call (.ref a) vs) Q E s₁) E { s with toks := tk })
    (hs : backTo pos (starEach es env) = (false, x) :: rest)
    (hn : rest.any (·.1) = false)
    (he : eval (.Call f es [] pos) env = (do callWith pos (← eval f env) [] (backTo pos (starEach es env)) (backToKw pos (keywordEach [] env)))) :
    wpS (model prog w) A (eval (.Call f es [] pos) env) Q E s := by
  rw [he]
  refine S.bindA (hf s _ _ rfl fun u tk e => ?_)
  subst e
  rw [hs]
  show wpS _ _ (callWith pos (.ref a) [] ((false, x) :: rest) []) _ _ _
  unfold callWith
  have hh : wpS (model prog w) A (evalArgs (.ref a) true ((false, x) :: rest) []) (fun g s₁ => FnO s₁.heap a ∧ g.kw = [] ∧ wpS (model prog w) A (call (.ref a) g.pos) Q E s₁) E { s with toks := tk } := by
    unfold evalArgs
    show wpS _ A (spliced ((false, x) :: rest) >>= _) _ E _
    refine S.bind (S.mono (h tk) (fun vs s' h' => ?_) fun _ _ x => x)
    refine S.holding ?_
    exact S.bind (S.pure (S.bind (S.pure (S.pure ⟨h'.1, rfl, h'.2⟩))))
  refine S.bind (S.holding (S.mono hh (fun g s₁ h₁ => S.bindA (wpAny_standAt ?_)) fun _ _ x => x))
  obtain ⟨⟨ob, fd, hob, hdat⟩, hkw, h₂⟩ := h₁
  obtain ⟨gp, gk⟩ := g
  cases hkw
  have tail : ∀ {t : Sem Value}, wpS (model prog w) A t Q E s₁ → wpS (model prog w) A (t >>= fun r => holding [r] point >>= fun _ => Pure.pure r) Q E s₁ :=
    fun ht => S.bind (S.mono ht (fun r s₂ hr => S.bindA (wpAny_holding (wpAny_point (S.pure hr)))) fun _ _ x => x)
  simp only [List.any_cons, List.any_nil, Bool.or_false, Bool.false_or, hn]
  refine S.bind (m := keeperOf (.ref a)) (S.any ?_)
  unfold keeperOf
  refine wpAny_bind (wpAny_load hob ?_)
  rw [hdat]
  refine wpAny_pure ?_
  show wpS _ _ (if ((false, x) :: rest).length + 2 * ([] : List (Option Str × Sem Value)).length > 30 then (do let r ← call (.ref a) ([] ++ gp); let _ ← holding [r] point; Pure.pure r) else (do let r ← callMarked plainCall (.ref a) ([] ++ gp) []; let _ ← holding [r] point; Pure.pure r)) _ _ _
  split
  · exact tail h₂
  · exact tail (by unfold callMarked; exact S.keep h₂)
end
section
variable {prog : Program} {w : World} {A : Around} {env : Env} {E : Value → Shared → Prop} {s : Shared}
/-- `x, y = (e1, e2)`, both of the frame's own names -/
theorem sPair {x y : Str} {px py tpos p2 pos : Pos} {k k2 : Nat} {e1 e2 : Expr} {Q : Flow → Shared → Prop} (hh : A.handled = none) (hx : env.kindOf x = some .local) (hy : env.kindOf y = some .local) (hp : (env.scope.kind == .class || (env.scope.kind == .module && env.locals != env.globals)) = false)
    (h : wpS (model prog w) A (eval e1 env) (fun v1 s1 => wpS (model prog w) A (eval e2 env) (fun v2 s2 => ∃ m, s2.heap.Ns env.locals m ∧ ∀ h' tk, (∀ b o, @Ne Nat b env.locals → s2.heap.get? b = some o → h'.get? b = some o) → h'.Ns env.locals (fun z => if z = x then some v1 else if z = y then some v2 else m z) → Q .next { s2 with heap := h', toks := tk }) E s1) E s)
    (hs : backTo p2 (starEach [e1, e2] env) = [(false, eval e1 env), (false, eval e2 env)] := by rfl)
    (hsw : swapsWithSole [.Tuple [.Name x px, .Name y py] k tpos] (.Tuple [e1, e2] k2 p2) pos.line env = Pure.pure false := by rfl)
    (hst : swappedStores [.Tuple [.Name x px, .Name y py] k tpos] (.Tuple [e1, e2] k2 p2) env = Pure.pure (some [x, y]) := by rfl) :
    wpS (model prog w) A (exec (.Assign [.Tuple [.Name x px, .Name y py] k tpos] (.Tuple [e1, e2] k2 p2) pos) env) Q E s := by
  rw [exec_Assign]
  refine S.bindA (wpAny_standAt ?_)
  rw [hsw]
  refine S.bindA (wpAny_pure ?_)
  refine S.iteF rfl ?_
  rw [arm_eval_Tuple, hs]
  refine S.bind (S.bindA (wpAny_standAt (S.bind (sSplicedCons (S.mono h (fun v1 s1 h1 => sSplicedCons (S.mono h1 (fun v2 s2 h2 => sSplicedNil ?_) fun _ _ x => x)) fun _ _ x => x)))))
  obtain ⟨m, hn, hq⟩ := h2
  refine S.any (wpAny_newObj_type (data := .seq [v1, v2].toArray) (dict := none) ?_ (hd := by
    have : (2000 : Nat) ≤ sizeLine := by decide
    show (2 : Nat) ≤ _; omega))
  rw [hst]
  refine S.bindA (wpAny_pure ?_)
  show wpS _ _ (do rule "assign.swapped-stores"; let items ← unpackItems (.ref s2.heap.objs.size) 2 none; assignInOrder [bindName env y, bindName env x] items.reverse; Pure.pure Flow.next) _ _ _
  refine S.any (wpAny_bind (wpAny_rule (wpAny_bind ?_)))
  have up : ∀ b o, s2.heap.get? b = some o → (s2.heap.push { cls := .type "tuple", dict := none, data := .seq [v1, v2].toArray }).get? b = some o := fun b o e => Heap.get?_push_of_some _ e
  refine unpackItems_tuple (items := #[v1, v2]) hh ⟨_, Heap.get?_push_size _ rfl, rfl, _, rfl⟩ fun h₁ x₁ => ?_
  have u₁ : ∀ b o, s2.heap.get? b = some o → h₁.get? b = some o := fun b o e => x₁ b o (by rw [Heap.size_push]; exact Nat.ne_of_lt (Nat.lt_succ_of_lt (Heap.lt_size e))) (up b o e)
  show wpAny _ _ (do assignInOrder [bindName env y, bindName env x] [v2, v1]; Pure.pure Flow.next) _ _ _
  refine wpAny_bind ?_
  show wpAny _ _ (do holding [v1] (bindName env y v2); (do holding [] (bindName env x v1); Pure.pure ())) _ _ _
  refine wpAny_bind (wpAny_holding (wpAny_bindName (wpAny_storeName_local hy (hn.keeps u₁) (fun h₂ n₂ s₂ => ?_) hp)))
  refine wpAny_bind (wpAny_holding (wpAny_bindName (wpAny_storeName_local hx n₂ (fun h₃ n₃ s₃ => wpAny_pure (wpAny_pure ?_)) hp)))
  exact hq h₃ _ (fun b o hb e => s₃.extBut b o hb (s₂.extBut b o hb (u₁ b o e))) n₃
/-- `x, y, z = (e1, e2, e3)`, x the frame's own, y and z cells -/
theorem sTriple {x y z : Str} {px py pz tpos p2 pos : Pos} {k k2 : Nat} {e1 e2 e3 : Expr} {cy cz : Addr} {Q : Flow → Shared → Prop} (hh : A.handled = none) (hk : env.scope.kind = .function) (hx : env.kindOf x = some .local) (hy : env.kindOf y = some .cell) (hz : env.kindOf z = some .cell) (hcy : env.cells.lookup y = some cy) (hcz : env.cells.lookup z = some cz) (hyz : @Ne Nat cy cz)
    (h : wpAny (model prog w) A (eval e1 env) (fun v1 s1 => wpAny (model prog w) A (eval e2 env) (fun v2 s2 => wpAny (model prog w) A (eval e3 env) (fun v3 s3 => ∃ m, s3.heap.Ns env.locals m ∧ (∃ u, s3.heap.IsCell cy u) ∧ (∃ u, s3.heap.IsCell cz u) ∧
      ∀ h' tk, (∀ b o, @Ne Nat b env.locals → @Ne Nat b cy → @Ne Nat b cz → s3.heap.get? b = some o → h'.get? b = some o) → h'.Ns env.locals (fun n => if n = x then some v1 else m n) → h'.IsCell cy (some v2) → h'.IsCell cz (some v3) → Q .next { s3 with heap := h', toks := tk }) E s2) E s1) E s)
    (hs : backTo p2 (starEach [e1, e2, e3] env) = [(false, eval e1 env), (false, eval e2 env), (false, eval e3 env)] := by rfl)
    (hsw : swapsWithSole [.Tuple [.Name x px, .Name y py, .Name z pz] k tpos] (.Tuple [e1, e2, e3] k2 p2) pos.line env = Pure.pure false := by rfl)
    (hst : swappedStores [.Tuple [.Name x px, .Name y py, .Name z pz] k tpos] (.Tuple [e1, e2, e3] k2 p2) env = Pure.pure none := by rfl) :
    wpAny (model prog w) A (exec (.Assign [.Tuple [.Name x px, .Name y py, .Name z pz] k tpos] (.Tuple [e1, e2, e3] k2 p2) pos) env) Q E s := by
  have hp : (env.scope.kind == .class || (env.scope.kind == .module && env.locals != env.globals)) = false := by rw [hk]; rfl
  refine Assign_Tuple ?_ hsw hst
  refine wpAny_Tuple ?_
  rw [hs]
  refine Calls.spliced_cons (wpAny_mono h (fun v1 s1 h1 => Calls.spliced_cons (wpAny_mono h1 (fun v2 s2 h2 => Calls.spliced_cons (wpAny_mono h2 (fun v3 s3 h3 => Calls.spliced_nil ?_) fun _ _ x => x)) fun _ _ x => x)) fun _ _ x => x)
  obtain ⟨m, hn, ⟨uy, ey⟩, ⟨uz, ez⟩, hq⟩ := h3
  refine ⟨by
    have : (2000 : Nat) ≤ sizeLine := by decide
    show (3 : Nat) ≤ _; omega, ?_⟩
  have up : ∀ b o, s3.heap.get? b = some o → (s3.heap.push { cls := .type "tuple", data := .seq [v1, v2, v3].toArray }).get? b = some o := fun b o e => Heap.get?_push_of_some _ e
  refine wpAny_assign_Tuple (items := #[v1, v2, v3]) hh ⟨_, Heap.get?_push_size _ rfl, rfl, _, rfl⟩ rfl rfl fun h₁ x₁ => ?_
  have u₁ : ∀ b o, s3.heap.get? b = some o → h₁.get? b = some o := fun b o e => x₁ b o (by rw [Heap.size_push]; exact Nat.ne_of_lt (Nat.lt_succ_of_lt (Heap.lt_size e))) (up b o e)
  show wpAny _ _ (do holding [v2, v3] (assign (.Name x px) env v1); (do holding [v3] (assign (.Name y py) env v2); (do holding [] (assign (.Name z pz) env v3); Pure.pure ()))) _ _ _
  refine wpAny_bind (wpAny_holding (wpAny_assign_Name (wpAny_storeName_local hx (hn.keeps u₁) (fun h₂ n₂ s₂ => ?_) hp)))
  have nL : ∀ {c : Addr} {u : Option Value}, s3.heap.IsCell c u → @Ne Nat c env.locals := fun {c u} e q => by
    obtain ⟨o, es, ep, e', d, _⟩ := hn
    obtain ⟨o', e, d'⟩ := e
    rw [show c = env.locals from q, e'] at e
    cases e; rw [d] at d'; cases d'
  have mv : ∀ {c : Addr} {u : Option Value} {h h' : Heap}, h.IsCell c u → (∀ o, h.get? c = some o → h'.get? c = some o) → h'.IsCell c u := fun ⟨o, e, d⟩ k => ⟨o, k _ e, d⟩
  refine wpAny_bind (wpAny_holding (wpAny_assign_Name (wpAny_storeName_cell hk hy hcy (mv ey fun o e => s₂.extBut _ o (nL ey) (u₁ _ o e)) fun h₃ e₃ s₃ => ?_)))
  refine wpAny_bind (wpAny_holding (wpAny_assign_Name (wpAny_storeName_cell hk hz hcz (mv ez fun o e => s₃.extBut _ o hyz.symm (s₂.extBut _ o (nL ez) (u₁ _ o e))) fun h₄ e₄ s₄ => wpAny_pure ?_)))
  exact hq h₄ _ (fun b o b1 b2 b3 e => s₄.extBut b o b3 (s₃.extBut b o b2 (s₂.extBut b o b1 (u₁ b o e)))) ((n₂.sameBut s₃ (nL ey).symm).sameBut s₄ (nL ez).symm) (mv e₃ fun o e => s₄.extBut _ o hyz e) e₄
end
section
variable {prog : Program} {w : World} {A : Around} {E : Value → Shared → Prop} {s : Shared}
theorem hasattr_bytes0 {b : Array UInt8} {tb t : Tok} {Q : Value → Shared → Prop} (hg : s.gens = #[]) (X : (hd.heap_1 w.params).In s.heap)
    (ret : ∀ (h' : Heap) (tk : Nat) (nw : List (Addr × Obj)), Mem s.heap h' [] nw → Q (.bool false) { heap := h', drawn := s.drawn, toks := tk, os := s.os }) : wpAny (model prog w) (AX 700 5000) (call (.builtin "hasattr") [.bytes b tb, .str "tag" t]) Q E s := by
  x_run
end
section
variable {prog : Program} {w : World} {A : Around} {E : Value → Shared → Prop} {s : Shared}
theorem getAttrBy_fn {f : Addr} {m : Str → Option Value} {name : Str} {tk : Tok} {b : Bool} {v : Value} {Q : Value → Shared → Prop} (hf : FnAt s.heap f m) (hv : m name = some v) (hpv : PlainV v) (hB : typeLookup (.type "function") name = pure none) (h : ∀ tk, Q v { s with toks := tk }) :
    wpAny (model prog w) A (getAttrBy (.ref f) (.str name tk) b) Q E s := by
  obtain ⟨o, d, fd, ho, hc, hd, hdat, hn⟩ := id hf.out
  obtain ⟨hp, g, dr, tks, os⟩ := s
  obtain ⟨oc, od, odt, osl⟩ := o
  dsimp only at hc hd hdat
  subst hc hd hdat
  have hT : ∀ tk', (⟨hp, g, dr, tk', os⟩ : Shared).TypeIs (.ref f) "function" := fun _ => ⟨_, ho, rfl⟩
  have f3 := slot_ga_fn.lookup
  have f4 := slot_ga_fn.bind (.ref f)
  unfold getAttrBy
  repeat (any_goals (first | assumption | exact hT _ | ((with_reducible show wpAny _ _ (call (Value.builtin "object.__getattribute__") _ _) _ _ _); refine call_ga_fn hf hv hB ?_) | wp_step))
  cases v with
  | builtin id => exact hpv.elim
  | _ => exact wpAny_pure (h _)
theorem fn_no_tag : typeLookup (.type "function") "tag" = pure none := by rw [typeLookup_type, builtinLookup_eq_fast]; kernel_rfl
theorem sub_fn_module : isSubtype (.type "function") (.type "module") = pure false := by rw [isSubtype_type]; kernel_rfl
theorem hasattr_fn {f : Addr} {m : Str → Option Value} {t : Tok} {v : Value} {Q : Value → Shared → Prop} (hf : FnAt s.heap f m) (hv : m "tag" = some v) (hpv : PlainV v) (h : ∀ tk, Q (.bool true) { s with toks := tk }) :
    wpAny (model prog w) A (call (.builtin "hasattr") [.ref f, .str "tag" t]) Q E s := by
  refine Calls.call_function_entry kind_hasattr plain_hasattr entry_hasattr (args_hasattr _ _) ?_
  obtain ⟨o, d, fd, ho, hc, hd, hdat, hn⟩ := id hf.out
  have hT : s.TypeIs (.ref f) "function" := ⟨_, ho, hc⟩
  unfold Builtin.«hasattr»
  refine wpAny_bind (m := someArgs "hasattr" 2 2 _) (wpAny_pure ?_)
  refine wpAny_bind (wpAny_pure (a := ()) ?_)
  rw [if_neg (by intro q; cases eq_of_beq q)]
  refine wpAny_bind (wpAny_typeOf hT ?_)
  dsimp only
  refine wpAny_bind (m := asStr? _) (wpAny_pure (a := some ("tag" : Str)) ?_)
  dsimp only
  refine wpAny_bind (wpAny_of_eq fn_no_tag ?_)
  dsimp only
  refine wpAny_bind (wpAny_bind (m := asStr? (.str "tag" t)) (wpAny_pure (a := some ("tag" : Str)) ?_))
  dsimp only
  refine wpAny_bind (wpAny_isInstance (T := "function") (b := false) hT sub_fn_module ?_)
  refine wpAny_pure (a := (0 : Nat)) ?_
  rw [if_neg (by decide)]
  refine wpAny_bind ?_
  unfold getAttrBy?
  refine wpAny_bind (wpAny_attempt (getAttrBy_fn hf hv hpv fn_no_tag fun tk => ?_))
  refine wpAny_pure ?_
  exact wpAny_pure ⟨_, rfl, h tk⟩
end
example : True := by k_with_none; trivial
example : True := by
  k_with "mine enter0" => (
      refine' enter ?kX ?kT ?k6 ?k7 ?k8 ?k9 ?kB ?_ ?c2 ?c3 ?c4 ?c5
      (case kX => assumption)
      (case kT => exact Top.nolimit (by assumption))
      (case k6 => k_is)
      (case k7 => k_is)
      (case k8 => decide)
      (case k9 => first | exact BindsTo.of_eq rfl | exact kp_binds (by assumption) (fun _ => rfl))
      (case c5 => decide)
      (case kB => exact locs rfl)
      (case c2 => exact rfl)
      (case c3 => exact rfl)
      (case c4 => exact rfl))
  k_with "mine enterC0" => (
      refine' enterC ?kX ?kT ?k6 ?k7 ?k8 ?k9 ?kB ?kD ?_ ?c2 ?c3 ?c4
      (case kX => assumption)
      (case kT => exact Top.nolimit (by assumption))
      (case k6 => k_is)
      (case k7 => k_is)
      (case k8 => decide)
      (case k9 => first | exact BindsTo.of_eq rfl | exact kp_binds (by assumption) (fun _ => rfl))
      (case kB => exact rfl)
      (case kD => decide +kernel)
      (case c2 => exact rfl)
      (case c3 => exact rfl)
      (case c4 => exact rfl))
  k_with "mine enterH" => (
      (case k6 => k_is)
      (case k7 => k_is)
      (case k8 => decide)
      (case k9 => first | exact fun _ => BindsTo.of_eq rfl | exact fun X' => kp_binds X' (fun _ => rfl))
      (case kB => exact rfl)
      (case kD => decide +kernel)
      (case c2 => exact rfl)
      (case c3 => exact rfl)
      (case c4 => exact rfl))
  k_with "mine tl" => (with_reducible first | exact tl_tag | exact tl_tail | exact tl_attrib | exact tl_kids | exact tl_append | exact tl_makeelement | exact tl_itertext)
  k_with "mine fnset0" => (
      refine' fnset0 ?F ?N ?U ?hc ?hdc ?hB ?_
      (case F => k_asm)
      (case N => k_asm)
      (case U => k_updF)
      (case hc => rfl)
      (case hdc => intro c q; cases q)
      (case hB => walk_at "mine tl"))
  k_with "mine fnset1" => (
      refine' fnset1 ?F ?N ?hf ?U ?hD ?hc ?hdf ?hdc ?hB ?hw ?hsz ?_
      (case F => k_asm)
      (case N => k_asm)
      (case hf => k_mem)
      (case U => k_updF)
      (case hD => with_reducible assumption)
      (case hc => rfl)
      (case hdf => first | k_ne | omega)
      (case hdc => intro c q; cases q)
      (case hB => walk_at "mine tl")
      (case hw => within_ways)
      (case hsz => decide))
  k_with "mine ne" => (with_reducible first
      | exact Nat.ne_of_lt (by assumption)
      | exact Nat.ne_of_lt (And.left (by assumption))
      | exact Nat.ne_of_lt (And.left (And.right (by assumption)))
      | exact Nat.ne_of_lt (And.right (by assumption))
      | exact Nat.ne_of_lt (And.left (And.right (And.right (by assumption))))
      | exact Nat.ne_of_lt (And.right (And.right (by assumption)))
      | exact Nat.ne_of_lt (And.left (And.right (And.right (And.right (by assumption)))))
      | exact Nat.ne_of_lt (And.right (And.right (And.right (by assumption))))
      | exact Nat.ne_of_lt (And.left (And.right (And.right (And.right (And.right (by assumption))))))
      | exact Nat.ne_of_lt (And.right (And.right (And.right (And.right (by assumption)))))
      | exact Nat.ne_of_lt (And.left (And.right (And.right (And.right (And.right (And.right (by assumption)))))))
      | exact Nat.ne_of_lt (And.right (And.right (And.right (And.right (And.right (by assumption))))))
      | exact Nat.ne_of_lt (And.left (And.right (And.right (And.right (And.right (And.right (And.right (by assumption))))))))
      | exact Nat.ne_of_lt (And.right (And.right (And.right (And.right (And.right (And.right (by assumption)))))))
      | exact Nat.ne_of_lt (And.left (And.right (And.right (And.right (And.right (And.right (And.right (And.right (by assumption)))))))))
      | exact Nat.ne_of_lt (And.right (And.right (And.right (And.right (And.right (And.right (And.right (by assumption))))))))
      | exact Nat.ne_of_lt (And.left (And.right (And.right (And.right (And.right (And.right (And.right (And.right (And.right (by assumption))))))))))
      | exact Nat.ne_of_lt (And.right (And.right (And.right (And.right (And.right (And.right (And.right (And.right (by assumption)))))))))
      | exact Nat.ne_of_lt (And.left (And.right (And.right (And.right (And.right (And.right (And.right (And.right (And.right (And.right (by assumption)))))))))))
      | exact Nat.ne_of_lt (And.right (And.right (And.right (And.right (And.right (And.right (And.right (And.right (And.right (by assumption))))))))))
      | exact Nat.ne_of_gt (by assumption)
      | exact Nat.ne_of_gt (And.left (by assumption))
      | exact Nat.ne_of_gt (And.left (And.right (by assumption)))
      | exact Nat.ne_of_gt (And.right (by assumption))
      | exact Nat.ne_of_gt (And.left (And.right (And.right (by assumption))))
      | exact Nat.ne_of_gt (And.right (And.right (by assumption)))
      | exact Nat.ne_of_gt (And.left (And.right (And.right (And.right (by assumption)))))
      | exact Nat.ne_of_gt (And.right (And.right (And.right (by assumption))))
      | exact Nat.ne_of_gt (And.left (And.right (And.right (And.right (And.right (by assumption))))))
      | exact Nat.ne_of_gt (And.right (And.right (And.right (And.right (by assumption)))))
      | exact Nat.ne_of_gt (And.left (And.right (And.right (And.right (And.right (And.right (by assumption)))))))
      | exact Nat.ne_of_gt (And.right (And.right (And.right (And.right (And.right (by assumption))))))
      | exact Nat.ne_of_gt (And.left (And.right (And.right (And.right (And.right (And.right (And.right (by assumption))))))))
      | exact Nat.ne_of_gt (And.right (And.right (And.right (And.right (And.right (And.right (by assumption)))))))
      | exact Nat.ne_of_gt (And.left (And.right (And.right (And.right (And.right (And.right (And.right (And.right (by assumption)))))))))
      | exact Nat.ne_of_gt (And.right (And.right (And.right (And.right (And.right (And.right (And.right (by assumption))))))))
      | exact Nat.ne_of_gt (And.left (And.right (And.right (And.right (And.right (And.right (And.right (And.right (And.right (by assumption))))))))))
      | exact Nat.ne_of_gt (And.right (And.right (And.right (And.right (And.right (And.right (And.right (And.right (by assumption)))))))))
      | exact Nat.ne_of_gt (And.left (And.right (And.right (And.right (And.right (And.right (And.right (And.right (And.right (And.right (by assumption)))))))))))
      | exact Nat.ne_of_gt (And.right (And.right (And.right (And.right (And.right (And.right (And.right (And.right (And.right (by assumption)))))))))))
  trivial
theorem isel_any {prog : Program} {w : World} {p loose mean mg mb} {s : Shared} {u : Value} {b : Bool} {Q E : Value → Shared → Prop}
    (X : (hd.heap_1 w.params).In s.heap) (T : Top p loose mean mg mb s.heap)
    (H : ∀ (s' : Shared) (Q' E' : Value → Shared → Prop) (t : Tok), Kp s.heap s'.heap → s'.gens = s.gens → (∀ h' tk, Kp s'.heap h' → Q' (.bool b) { s' with heap := h', toks := tk }) → wpAny (model prog w) (AX 700 5000) (call (.builtin "hasattr") [u, .str "tag" t]) Q' E' s')
    (ret : ∀ h' tk', Kp s.heap h' → Q (.bool b) { s with heap := h', toks := tk' }) :
    wpAny (model prog w) (AX 690 4990) (call (.ref 90) [u]) Q E s := by
  k_with "mine hasattr" => (
    refine wpAny_weaken (n := 700) (u := 5000) ?_ rfl (Nat.le_of_ble_eq_true rfl) rfl (Nat.le_of_ble_eq_true rfl)
    refine H _ _ _ _ (Fr.keep (by assumption)) rfl ?_
    intro h' tk' k'
    have F' := Fr.keeps (by assumption) k')
  walk_at "mine enter"
  k_steps
  all_goals exact ret _ _ (Fr.keep (by assumption))
theorem isel_fn {prog : Program} {w : World} {p loose mean mg mb} {s : Shared} {f : Addr} {m : Str → Option Value} {v : Value} {Q E : Value → Shared → Prop}
    (X : (hd.heap_1 w.params).In s.heap) (T : Top p loose mean mg mb s.heap) (hf : FnAt s.heap f m) (hv : m "tag" = some v) (hpv : PlainV v)
    (ret : ∀ h' tk', Kp s.heap h' → Q (.bool true) { s with heap := h', toks := tk' }) : wpAny (model prog w) (AX 690 4990) (call (.ref 90) [.ref f]) Q E s :=
  isel_any X T (fun s' Q' E' t k _ r => hasattr_fn (hf.keeps k) hv hpv fun tk => r _ tk fun _ _ e => e) ret
theorem isel_bytes {prog : Program} {w : World} {p loose mean mg mb} {s : Shared} {b : Array UInt8} {tb : Tok} {Q E : Value → Shared → Prop}
    (X : (hd.heap_1 w.params).In s.heap) (T : Top p loose mean mg mb s.heap) (hg : s.gens = #[])
    (ret : ∀ h' tk', Kp s.heap h' → Q (.bool false) { s with heap := h', toks := tk' }) : wpAny (model prog w) (AX 690 4990) (call (.ref 90) [.bytes b tb]) Q E s :=
  isel_any X T (fun s' Q' E' t k g r => hasattr_bytes0 (g.trans hg) (X.keeps k) fun h' tk nw D => bare_state (g.trans hg) h' tk ▸ r h' tk fun b o e => D.keep b o e (by simp [away])) ret
theorem isel_dict {prog : Program} {w : World} {p loose mean mg mb} {s : Shared} {a : Addr} {kvs : List (Str × Value)} {Q E : Value → Shared → Prop}
    (X : (hd.heap_1 w.params).In s.heap) (T : Top p loose mean mg mb s.heap) (hg : s.gens = #[]) (hd : s.heap.DictOf (strKind prog w) a kvs)
    (ret : ∀ h' tk', Kp s.heap h' → Q (.bool false) { s with heap := h', toks := tk' }) : wpAny (model prog w) (AX 690 4990) (call (.ref 90) [.ref a]) Q E s := by
  obtain ⟨o, es, ep, ho, ⟨c1, c2, c3⟩, hdt, _⟩ := hd
  obtain ⟨oc, od, odt, osl⟩ := o
  dsimp only at c1 c2 c3 hdt
  subst c1 c2 c3 hdt
  exact isel_any X T (fun s' Q' E' t k g r => hasattr_dictA (k _ _ ho) rfl fun h' tk k' => r h' tk k') ret
section
variable {prog : Program} {w : World} {A : Around} {env : Env} {E : Value → Shared → Prop} {s : Shared}
/-- `{'text': '', 'times': 1, 'tail': None}` -/
theorem dictLit {k1 k2 k3 k4 k5 k6 : Nat} {p1 p2 p3 p4 p5 p6 pos : Pos} {Q : Value → Shared → Prop}
    (h : ∀ a h₁ tk t1 t2, s.heap.objs.size ≤ a → h₁.DictOf (strKind prog w) a (attKvs (.str "" t1) (.int 1 t2) .none) → Kp s.heap h₁ → Q (.ref a) { s with heap := h₁, toks := tk }) :
    wpAny (model prog w) A (eval (.Dict [some (.Constant (.str "text") k1 p1), some (.Constant (.str "times") k2 p2), some (.Constant (.str "tail") k3 p3)] [.Constant (.str "") k4 p4, .Constant (.int 1) k5 p5, .Constant .none k6 p6] pos) env) Q E s := by
  refine Dict_lits_str (D := [(.str "text", .str ""), (.str "times", .int 1), (.str "tail", .none)]) (by with_unfolding_all rfl) (by rfl) (by decide) (by rfl) (by rfl) (by exact List.cons_ne_nil _ _) (Nat.le_of_ble_eq_true rfl) fun a o h₁ tk ha ho ht hk => ?_
  obtain ⟨kvs, hd, fp⟩ := ht
  cases fp with
  | cons f1 fp =>
  cases fp with
  | cons f2 fp =>
  cases fp with
  | cons f3 fp =>
  cases fp with
  | nil =>
  obtain ⟨t1, rfl⟩ := f1.str_inv
  obtain ⟨t2, rfl⟩ := f2.int_inv
  obtain rfl := f3.none_inv
  exact h a h₁ tk t1 t2 ha (Heap.dictOf_iff.mpr ⟨o, ho, hd⟩) hk
theorem neDict {a b : Addr} {t1 t2 t3 t4 : Tok} {Q : Value → Shared → Prop} (ha : (a == sysModules) = false) (hb : (b == sysModules) = false)
    (da : s.heap.DictOf (strKind prog w) a (attKvs (.str "" t1) (.int 1 t2) .none)) (db : s.heap.DictOf (strKind prog w) b (attKvs (.str "" t3) (.int 1 t4) .none)) (hu : A.units < cLine) (h : Q (.bool false) s) :
    wpAny (model prog w) A (compareOp .NotEq (.ref a) (.ref b)) Q E s := by
  refine keq_ne (r := true) ha hb da db hu (fun _ => ?_) h
  have e1 : SeqAt.EqAt A.in1 s (.str "" t1) (.str "" t3) true := keq_flat (.str _ _) (.str _ _)
  have e2 : SeqAt.EqAt A.in1 s (.int 1 t2) (.int 1 t4) true := keq_flat (.int _ _) (.int _ _)
  have e3 : SeqAt.EqAt A.in1 s .none .none true := keq_flat .none .none
  exact KeqHits.hit (e := true) (b := true) rfl e1 (KeqHits.hit (e := true) (b := true) rfl e2 (KeqHits.hit (e := true) (b := true) rfl e3 .nil))
theorem inst_bytes {b : Array UInt8} {t : Tok} {Q : Value → Shared → Prop} (h : Q (.bool true) s) : wpAny (model prog w) A (call (.builtin "isinstance") [.bytes b t, .type "bytes"]) Q E s :=
  call_isinstance_yes (Tx := "bytes") rfl (by rfl) (by rw [isSubtype_type]; kernel_rfl) h
end
section
variable {prog : Program} {w : World} {A : Around} {env : Env} {E : Value → Shared → Prop} {s : Shared}
/-- `not isinstance(x, bytes)` of bytes -/
theorem testInst {x : Expr} {p1 p2 p3 p4 : Pos} {b : Array UInt8} {t : Tok} {whole : Sem Value} {Q : Bool → Shared → Prop} (bi : Bi s.heap "isinstance" (.builtin "isinstance")) (bb : Bi s.heap "bytes" (.type "bytes")) (hg : env.globals = mainGlobals) (hb : env.builtins = builtinsNs) (hk : env.scope.kind = .function) (hx1 : env.kindOf "isinstance" = some .globalImplicit) (hx2 : env.kindOf "bytes" = some .globalImplicit)
    (hx : Ev prog w A env x s.heap (fun u => u = .bytes b t)) (h : ∀ tk, Q false { s with toks := tk }) (hs : starEach [x, .Name "bytes" p2] env = [(false, eval x env), (false, eval (.Name "bytes" p2) env)] := by rfl) :
    wpAny (model prog w) A (isTrue (.UnaryOp .Not (.Call (.Name "isinstance" p1) [x, .Name "bytes" p2] [] p3) p4) env whole) Q E s := by
  refine isTrue_not (isTrue_plain (Call_Name2 ((Ev.builtin (v := .builtin "isinstance") bi hg hb hk hx1) s _ _ rfl fun v tk e => ?_) hs) ?_)
  · subst e
    refine Calls.callWith_builtin rfl (Calls.evalArgs_plain (Calls.spliced_cons (hx { s with toks := tk } _ _ rfl fun v tk₂ e => Calls.spliced_cons ((Ev.builtin (v := .type "bytes") bb hg hb hk hx2) { s with toks := tk₂ } _ _ rfl fun v tk₃ e' => Calls.spliced_nil ?_))))
    subst e e'
    exact inst_bytes (wpAny_truthy_bool (h _))
  all_goals rfl
end
namespace Kids
noncomputable def steps : Kids → List Stp
  | nil => []
  | step i d j r => (i, d, j) :: r.steps
  | loop a r => a.steps ++ a.steps ++ r.steps
noncomputable def stT (ns : List Int) (x : Stp) : Str := stText ns x.1 x.2.1 x.2.2
theorem texts_steps (ns : List Int) : ∀ K : Kids, K.texts ns = K.steps.map (stT ns)
  | nil => rfl
  | step i d j r => by simp [texts, steps, texts_steps ns r, stT]
  | loop a r => by simp [texts, steps, texts_steps ns r, texts_steps ns a]
noncomputable def SOk (x : Stp) : Prop := x.1 < 4 ∧ x.2.1 < 7 ∧ x.2.2 < 4 ∧ x.1 ≠ x.2.2
theorem steps_ok : ∀ {K : Kids}, K.ok → ∀ x ∈ K.steps, SOk x
  | nil, _, _, h => nomatch h
  | step i d j r, o, x, h => by
    rcases List.mem_cons.mp h with e | h
    · cases e; exact ⟨o.1, o.2.1, o.2.2.1, o.2.2.2.1⟩
    · exact steps_ok (K := r) o.2.2.2.2 x h
  | loop a r, o, x, h => by
    rcases List.mem_append.mp h with h | h
    · rcases List.mem_append.mp h with h | h <;> exact steps_ok (K := a) o.1 x h
    · exact steps_ok (K := r) o.2 x h
noncomputable def matS (T : Mt) (x : Stp) : Mt := stepE T x.1 x.2.2 ((x.2.1 : Int) - 3)
theorem mat_steps : ∀ (K : Kids) (T : Mt), K.mat T = K.steps.foldl matS T
  | nil, _ => rfl
  | step i d j r, T => mat_steps r _
  | loop a r, T => by simp only [mat, steps, List.foldl_append, mat_steps r, mat_steps a]
noncomputable def swp (x : Stp) : Stp := (x.2.2, x.2.1, x.1)
theorem app_steps : ∀ a b : Kids, (a.app b).steps = a.steps ++ b.steps
  | nil, _ => rfl
  | step i d j r, b => by simp [app, steps, app_steps r b]
  | loop a r, b => by simp [app, steps, app_steps r b]
theorem mir_steps : ∀ K : Kids, K.mir.steps = K.steps.reverse.map swp
  | nil => rfl
  | step i d j r => by simp [mir, app_steps, steps, mir_steps r, swp]
  | loop a r => by simp [mir, app_steps, steps, mir_steps r, mir_steps a]
theorem mirT_steps (K : Kids) (x : Stp) : (mirT (some x) K).steps = (K.steps ++ [x]).reverse.map swp := by
  simp [mirT, app_steps, steps, mir_steps, swp]
theorem mir_dep : ∀ K : Kids, K.mir.dep = K.dep
  | nil => rfl
  | step i d j r => by simp [mir, app_dep, dep, mir_dep r, Nat.max_comm]
  | loop a r => by simp [mir, app_dep, dep, mir_dep r, mir_dep a, Nat.max_comm]
theorem mir_sz : ∀ K : Kids, K.mir.sz = K.sz
  | nil => rfl
  | step i d j r => by simp [mir, app_sz, sz, mir_sz r]
  | loop a r => by simp [mir, app_sz, sz, mir_sz r, mir_sz a]; omega
end Kids
open Kids (stT SOk matS swp)
theorem SOk.stp {x : Stp} (h : SOk x) : StpOk x := ⟨h.1, h.2.1, h.2.2.1⟩
theorem SOk.swp {x : Stp} (h : SOk x) : SOk (swp x) := ⟨h.2.2.1, h.2.1, h.1, h.2.2.2.symm⟩
theorem Names.nn {ns : List Int} (N : Names ns) {i : Nat} (hi : i < 4) : 65 ≤ ns.getD i 0 ∧ ns.getD i 0 ≤ 92 := ⟨N.lo _ (getD_mem (by rw [N.len]; exact hi)), N.hi _ (getD_mem (by rw [N.len]; exact hi))⟩
theorem codes_st {ns : List Int} (N : Names ns) {x : Stp} (h : SOk x) : codesOf (stT ns x) = [ns.getD x.1 0, 48 + (x.2.1 : Int), ns.getD x.2.2 0] := by
  have h1 := N.nn h.1
  have h2 := N.nn h.2.2.1
  show [(((ns.getD x.1 0).toNat : Nat) : Int), ((48 + x.2.1 : Nat) : Int), (((ns.getD x.2.2 0).toNat : Nat) : Int)] = _
  rw [Int.toNat_of_nonneg (by omega), Int.toNat_of_nonneg (by omega)]
  rfl
theorem codes_tape {ns : List Int} (N : Names ns) : ∀ {l : List Stp}, (∀ x ∈ l, SOk x) → (l.map (stT ns)).flatMap codesOf = tapeC ns l
  | [], _ => rfl
  | x :: l, h => by
    have := codes_tape N (l := l) fun y hy => h y (.tail _ hy)
    simp only [List.map_cons, List.flatMap_cons, tapeC, codes_st N (h x (.head _))] at this ⊢
    rw [this]
theorem tape_lim {ns : List Int} (N : Names ns) {l : List Stp} (h : ∀ x ∈ l, SOk x) : ∀ n ∈ tapeC ns l, 0 ≤ n ∧ n < 256 := by
  intro n hn
  obtain ⟨x, hx, hn⟩ := List.mem_flatMap.mp hn
  have o := h x hx
  have h1 := N.nn o.1
  have h2 := N.nn o.2.2.1
  have h3 := o.2.1
  simp only [List.mem_cons, List.not_mem_nil, or_false] at hn
  rcases hn with rfl | rfl | rfl <;> omega
theorem bInts_of : ∀ {cs : List Int}, (∀ n ∈ cs, 0 ≤ n ∧ n < 256) → KBw.bInts (bytesOf cs) = cs
  | [], _ => rfl
  | c :: cs, h => by
    have := bInts_of (cs := cs) fun n hn => h n (.tail _ hn)
    have hc := h c (.head _)
    simp only [KBw.bInts, bytesOf, List.map_cons, List.map_map] at this ⊢
    rw [show ((c.toNat.toUInt8.toNat : Nat) : Int) = c by simp; omega]
    simpa using this
theorem tape_rev (ns : List Int) (l : List Stp) : tapeC ns (l.reverse.map swp) = (tapeC ns l).reverse := by
  induction l with
  | nil => rfl
  | cons x l ih =>
    simp only [tapeC, List.reverse_cons, List.map_append, List.flatMap_append, List.flatMap_cons, List.reverse_append] at ih ⊢
    rw [ih]
    simp [swp]
/-- a row of four under a table -/
noncomputable def vec (M : Mt) (v : List Int) : List Int := [dot4 fun k => M 0 k * v.getD k 0, dot4 fun k => M 1 k * v.getD k 0, dot4 fun k => M 2 k * v.getD k 0, dot4 fun k => M 3 k * v.getD k 0]
noncomputable def vecT (M : Mt) (v : List Int) : List Int := vec (fun i j => M j i) v
theorem listEq {v w : List Int} (hl : v.length = w.length) (h : ∀ i, i < v.length → v.getD i 0 = w.getD i 0) : v = w := by
  refine List.ext_getElem hl fun i h1 h2 => ?_
  have := h i h1
  rwa [List.getD_eq_getElem?_getD, List.getD_eq_getElem?_getD, List.getElem?_eq_getElem h1, List.getElem?_eq_getElem h2] at this
theorem four {v w : List Int} (hv : v.length = 4) (hw : w.length = 4) (h : ∀ i, i < 4 → v.getD i 0 = w.getD i 0) : v = w := listEq (hv.trans hw.symm) fun i hi => h i (hv ▸ hi)
theorem vec_at (M : Mt) (v : List Int) {i : Nat} (hi : i < 4) : (vec M v).getD i 0 = dot4 fun k => M i k * v.getD k 0 :=
  all4 (P := fun i => (vec M v).getD i 0 = dot4 fun k => M i k * v.getD k 0) rfl rfl rfl rfl i hi
theorem vec_id {v : List Int} (hv : v.length = 4) : vec idM v = v := four rfl hv fun i hi => (vec_at _ _ hi).trans (idM_row hi)
theorem rowStep_at (sg : Int) {v : List Int} {x : Stp} (hv : v.length = 4) (hx : x.1 < 4) (i : Nat) : (rowStep sg v x).getD i 0 = v.getD i 0 + (if i = x.1 then sg * ((x.2.1 : Int) - 3) * v.getD x.2.2 0 else 0) := by
  unfold rowStep
  rw [List.getD_eq_getElem?_getD, List.getElem?_set]
  by_cases e : x.1 = i
  · subst e
    rw [if_pos rfl, if_pos (by omega), if_pos rfl]
    rfl
  · rw [if_neg e, if_neg (fun q => e q.symm), ← List.getD_eq_getElem?_getD, Int.add_zero]
theorem rowStep_l (sg : Int) (v : List Int) (x : Stp) : (rowStep sg v x).length = v.length := by simp [rowStep]
theorem row_step {M : Mt} {v : List Int} {x : Stp} (hx : SOk x) : rowStep 1 (vec M v) x = vec (matS M x) v := by
  refine four (by rw [rowStep_l]; rfl) rfl fun i hi => ?_
  rw [rowStep_at 1 rfl hx.1, vec_at _ _ hi, vec_at _ _ hi, vec_at _ _ hx.2.2.1]
  unfold matS stepE dot4
  by_cases e : i = x.1
  · simp only [if_pos e]; grind
  · simp only [if_neg e, Int.add_zero]
theorem row_fold {v : List Int} : ∀ {l : List Stp} {M : Mt}, (∀ x ∈ l, SOk x) → l.foldl (rowStep 1) (vec M v) = vec (l.foldl matS M) v
  | [], _, _ => rfl
  | x :: l, M, h => by
    rw [List.foldl_cons, List.foldl_cons, row_step (h x (.head _))]
    exact row_fold fun y hy => h y (.tail _ hy)
theorem run_there {l : List Stp} {v : List Int} (h : ∀ x ∈ l, SOk x) (hv : v.length = 4) : l.foldl (rowStep 1) v = vec (l.foldl matS idM) v := by
  rw [← row_fold h, vec_id hv]
theorem col_step {M : Mt} {v : List Int} {x : Stp} (hx : SOk x) (hv : v.length = 4) : vecT M (rowStep 1 v (swp x)) = vecT (matS M x) v := by
  refine four rfl rfl fun c hc => ?_
  unfold vecT
  rw [vec_at _ _ hc, vec_at _ _ hc]
  have e1 : ∀ k, M k c * (rowStep 1 v (swp x)).getD k 0 = M k c * v.getD k 0 + (if k = x.2.2 then M k c * (((x.2.1 : Int) - 3) * v.getD x.1 0) else 0) := fun k => by
    rw [rowStep_at 1 (x := swp x) hv hx.2.2.1 k, Int.mul_add]
    show _ + M k c * (if k = x.2.2 then 1 * ((x.2.1 : Int) - 3) * v.getD x.1 0 else 0) = _
    by_cases q : k = x.2.2
    · rw [if_pos q, if_pos q, Int.one_mul]
    · rw [if_neg q, if_neg q, Int.mul_zero]
  have e2 : ∀ k, matS M x k c * v.getD k 0 = M k c * v.getD k 0 + (if k = x.1 then ((x.2.1 : Int) - 3) * M x.2.2 c * v.getD k 0 else 0) := fun k => by
    show (M k c + (if k = x.1 then ((x.2.1 : Int) - 3) * M x.2.2 c else 0)) * v.getD k 0 = _
    rw [Int.add_mul]
    by_cases q : k = x.1
    · rw [if_pos q, if_pos q]
    · rw [if_neg q, if_neg q, Int.zero_mul]
  rw [funext e1, funext e2, dot4_add, dot4_add, dot4_single _ hx.2.2.1, dot4_single _ hx.1, Int.mul_comm (M x.2.2 c), Int.mul_assoc, Int.mul_assoc, Int.mul_comm (v.getD x.1 0)]
theorem run_turned' : ∀ {r : List Stp} {v : List Int}, (∀ x ∈ r, SOk x) → v.length = 4 → (r.map swp).foldl (rowStep 1) v = vecT (r.reverse.foldl matS idM) v
  | [], v, _, hv => (vec_id hv).symm.trans (by unfold vecT; congr 1; funext i j; show idM i j = idM j i; unfold idM; simp only [eq_comm])
  | x :: r, v, h, hv => by
    rw [List.reverse_cons, List.foldl_append]
    show List.foldl (rowStep 1) (rowStep 1 v (swp x)) (r.map swp) = vecT (matS (r.reverse.foldl matS idM) x) v
    rw [run_turned' (r := r) (fun y hy => h y (.tail _ hy)) (by rw [rowStep_l]; exact hv), col_step (h x (.head _)) hv]
theorem run_turned {l : List Stp} {v : List Int} (h : ∀ x ∈ l, SOk x) (hv : v.length = 4) : (l.reverse.map swp).foldl (rowStep 1) v = vecT (l.foldl matS idM) v := by
  have := run_turned' (v := v) (r := l.reverse) (fun x hx => h x (List.mem_reverse.mp hx)) hv
  rwa [List.reverse_reverse] at this
theorem row_back {v : List Int} {x : Stp} (hx : SOk x) (hv : v.length = 4) : rowStep (-1) (rowStep 1 v x) x = v := by
  refine four (by rw [rowStep_l, rowStep_l]; exact hv) hv fun i hi => ?_
  rw [rowStep_at (-1) (by rw [rowStep_l]; exact hv) hx.1, rowStep_at 1 hv hx.1 i, rowStep_at 1 hv hx.1 x.2.2, if_neg (c := x.2.2 = x.1) (fun q => hx.2.2.2 q.symm)]
  by_cases e : i = x.1
  · simp only [if_pos e]; grind
  · simp only [if_neg e, Int.add_zero]
theorem run_back : ∀ {l : List Stp} {v : List Int}, (∀ x ∈ l, SOk x) → v.length = 4 → l.reverse.foldl (rowStep (-1)) (l.foldl (rowStep 1) v) = v
  | [], _, _, _ => rfl
  | x :: l, v, h, hv => by
    rw [List.reverse_cons, List.foldl_append]
    show rowStep (-1) (List.foldl (rowStep (-1)) (List.foldl (rowStep 1) (rowStep 1 v x) l) l.reverse) x = v
    rw [run_back (l := l) (fun y hy => h y (.tail _ hy)) (by rw [rowStep_l]; exact hv)]
    exact row_back (h x (.head _)) hv
theorem bInts_at (b : Array UInt8) (i : Nat) : (KBw.bInts b).getD i 0 = ((b.getD i 0).toNat : Int) := by
  unfold KBw.bInts
  rw [List.getD_eq_getElem?_getD, List.getElem?_map, Array.getElem?_toList, Array.getD_eq_getD_getElem?]
  cases b[i]? <;> rfl
/-- turned about as a whole -/
theorem swap_whole {b r : Array UInt8} {n : Nat} (hn : b.size = n) (hr : r.size = b.size) (h : ∀ i j, i < 1 → j < n → r.getD (i * n + (n - 1 - j)) 0 = b.getD (i * n + j) 0) : KBw.bInts r = (KBw.bInts b).reverse := by
  have l1 := KBw.ints_length r
  have l2 := KBw.ints_length b
  refine listEq (by rw [List.length_reverse, l1, l2, hr]) fun i hi => ?_
  rw [l1, hr, hn] at hi
  have q := h 0 (n - 1 - i) (by decide) (Nat.lt_of_le_of_lt (Nat.sub_le _ _) (Nat.sub_one_lt (Nat.ne_of_gt (Nat.lt_of_le_of_lt (Nat.zero_le _) hi))))
  rw [Nat.zero_mul, Nat.zero_add, Nat.zero_add, Nat.sub_sub_self (Nat.le_sub_one_of_lt hi)] at q
  rw [bInts_at, q, ← bInts_at, List.getD_eq_getElem?_getD, List.getD_eq_getElem?_getD, List.getElem?_reverse (by rw [l2, hn]; exact hi), l2, hn]
/-- turned about by threes -/
theorem swap_threes {ns : List Int} {l : List Stp} {b r : Array UInt8} (hb : KBw.bInts b = tapeC ns l) (hr : r.size = b.size) (h : ∀ i j, i < l.length → j < 3 → r.getD (i * 3 + (3 - 1 - j)) 0 = b.getD (i * 3 + j) 0) : KBw.bInts r = tapeC ns (l.map swp) := by
  have l1 := KBw.ints_length r
  have l2 := KBw.ints_length b
  have l3 := tapeC_length ns l
  have l4 := tapeC_length ns (l.map swp)
  rw [List.length_map] at l4
  rw [hb] at l2
  refine listEq (by rw [l1, l4, hr, ← l2, l3]) fun i hi => ?_
  rw [l1, hr, ← l2, l3] at hi
  obtain ⟨k, j, rfl, hj⟩ : ∃ k j, i = 3 * k + j ∧ j < 3 := ⟨i / 3, i % 3, (Nat.div_add_mod i 3).symm, Nat.mod_lt _ (by decide)⟩
  have hk : k < l.length := Nat.lt_of_mul_lt_mul_left (a := 3) (Nat.lt_of_le_of_lt (Nat.le_add_right _ _) hi)
  obtain ⟨t1, t2, t3⟩ := tapeC_get ns l k l[k] (List.getElem?_eq_getElem hk)
  obtain ⟨u1, u2, u3⟩ := tapeC_get ns (l.map swp) k (swp l[k]) (by rw [List.getElem?_map, List.getElem?_eq_getElem hk]; rfl)
  have q : ∀ j, j < 3 → (KBw.bInts r).getD (3 * k + (2 - j)) 0 = (tapeC ns l).getD (3 * k + j) 0 := fun j hj => by
    have := h k j hk hj
    rw [bInts_at, ← hb, bInts_at, Nat.mul_comm 3 k]
    rw [this]
  rcases j with _ | _ | _ | j
  · exact (q 2 (by decide)).trans (t3.trans u1.symm)
  · exact (q 1 (by decide)).trans (t2.trans u2.symm)
  · exact (q 0 (by decide)).trans (t1.trans u3.symm)
  · exact absurd hj (Nat.not_lt.mpr (Nat.le_add_left 3 j))
theorem mapInj : ∀ {a b : List UInt8}, a.map (fun c => (c.toNat : Int)) = b.map (fun c => (c.toNat : Int)) → a = b
  | [], [], _ => rfl
  | [], _ :: _, h => by simp at h
  | _ :: _, [], h => by simp at h
  | x :: a, y :: b, h => by
    simp only [List.map_cons, List.cons.injEq] at h
    have e : x = y := UInt8.toNat_inj.mp (Int.ofNat.inj h.1)
    rw [e, mapInj h.2]
theorem bInts_inj {b c : Array UInt8} (h : KBw.bInts b = KBw.bInts c) : b.toList = c.toList := mapInj h
/-- what a thing made before never looks into -/
noncomputable def Loose (h : Heap) (b : Addr) : Prop := (∃ m : Str → Option Value, h.Ns b m ∧ m "tag" = none ∧ m "text" = none) ∨ (∃ o, h.get? b = some o ∧ o.data = .cell none) ∨ (∃ o vs, h.get? b = some o ∧ o.data = .fields vs ∧ ∀ x t, (vs[1]? : Option Value) ≠ some (.str x t))
theorem Loose.notIn {g h : Heap} {b : Addr} (x : Loose h b) (nl : NoLists g) (k : Kp g h) : g.get? b = none := by
  cases e : g.get? b with
  | none => rfl
  | some o =>
    have e' := k _ _ e
    rcases x with ⟨m, n, mt, _⟩ | ⟨o', e2, d⟩ | ⟨o', vs, e2, d, q⟩
    · obtain ⟨o', es, ep, e2, d, sk, f⟩ := n
      rw [e'] at e2; cases e2
      exact absurd mt (nl.dct b m ⟨o, es, ep, e, d, sk, f⟩)
    · rw [e'] at e2; cases e2
      obtain ⟨r, q⟩ := nl.cel b o _ e d
      cases q
    · rw [e'] at e2; cases e2
      obtain ⟨x, t, z⟩ := nl.rcd b o vs e d
      exact absurd z (q x t)
theorem Loose.list {h : Heap} {a b : Addr} {xs : List Value} (x : Loose h b) (l : ListAt h a xs) : a ≠ b := by
  rintro rfl
  obtain ⟨n, e⟩ := l
  rcases x with ⟨m, ⟨o', es, ep, e2, d, _⟩, _⟩ | ⟨o', e2, d⟩ | ⟨o', vs, e2, d, q⟩ <;> (rw [e] at e2; cases e2; cases d)
section
variable {prog : Program} {w : World} {ns : List Int} {lo : Nat}
theorem dict_text {h : Heap} {a : Addr} {m : Str → Option Value} {vt vn vl : Value} (d : h.DictOf (strKind prog w) a (attKvs vt vn vl)) (n : h.Ns a m) : m "text" ≠ none := by
  obtain ⟨o, es, ep, e, _, d, _, pr, _⟩ := d
  obtain ⟨o', es', ep', e', d', _, f⟩ := n
  rw [e] at e'; cases e'
  rw [d] at d'; cases d'
  obtain ⟨l⟩ := es
  cases pr with
  | cons hk hv pr =>
    obtain ⟨t, hk'⟩ := Value.isStrOf_shape hk
    rw [← f "text"]
    unfold nsFind findBy
    rw [List.find?_toArray, List.find?_cons_of_pos (by rw [hk']; exact beq_self_eq_true _)]
    exact fun q => by cases q
theorem Loose.dict {h : Heap} {a b : Addr} {vt vn vl : Value} (x : Loose h b) (d : h.DictOf (strKind prog w) a (attKvs vt vn vl)) : a ≠ b := by
  rintro rfl
  rcases x with ⟨m, n, _, mt⟩ | ⟨o', e2, d2⟩ | ⟨o', vs, e2, d2, q⟩
  · exact dict_text d n mt
  · obtain ⟨o, es, ep, e, _, d, _⟩ := d
    rw [e] at e2; cases e2; rw [d] at d2; cases d2
  · obtain ⟨o, es, ep, e, _, d, _⟩ := d
    rw [e] at e2; cases e2; rw [d] at d2; cases d2
theorem Th.hid {h : Heap} {hid : List Addr} {t : Addr} {tag text : Str} {times : Int} {vl : Value} {ka : Addr} (x : Th prog w h t tag text times vl ka) (l : ∀ b ∈ hid, Loose h b) : Th prog w (hideAll h hid) t tag text times vl ka :=
  let ⟨g, da, tx, tn, a, b, c, d⟩ := x
  ⟨g, da, tx, tn, a, fun b' o e => hideAll_get _ (b b' o e) (fun hm => absurd e (by rw [(l b' hm).notIn c b]; exact fun q => nomatch q)), c, d.at fun o e => hideAll_get _ e fun hm => (l _ hm).dict d rfl⟩
theorem ListAt.hid {h : Heap} {hid : List Addr} {a : Addr} {xs : List Value} (x : ListAt h a xs) (l : ∀ b ∈ hid, Loose h b) : ListAt (hideAll h hid) a xs :=
  let ⟨n, e⟩ := x; ⟨n, hideAll_get _ e fun hm => (l _ hm).list ⟨n, e⟩ rfl⟩
theorem KidsAt.hid {h : Heap} {hid : List Addr} (l : ∀ b ∈ hid, Loose h b) : ∀ {K : Kids} {vs : List Value}, KidsAt prog w ns h lo vs K → KidsAt prog w ns (hideAll h hid) lo vs K
  | .nil, _, x => x
  | .step i d j r, _, x => by obtain ⟨t, ka, vs', e, lk, th, la, q⟩ := x; exact ⟨t, ka, vs', e, lk, th.hid l, la.hid l, KidsAt.hid l q⟩
  | .loop a r, _, x => by obtain ⟨t, ka, ws, vs', e, lk, th, la, q, q'⟩ := x; exact ⟨t, ka, ws, vs', e, lk, th.hid l, la.hid l, KidsAt.hid l q, KidsAt.hid l q'⟩
theorem KidsAt.toIn {h : Heap} : ∀ {K : Kids} {vs : List Value}, KidsAt prog w ns h lo vs K → KidsIn prog w ns h (fun a => @LT.lt Nat _ a h.objs.size) vs K
  | .nil, _, x => x
  | .step i d j r, _, x => by obtain ⟨t, ka, vs', e, lk, th, la, q⟩ := x; exact ⟨t, ka, vs', e, la.lt, th, la, KidsAt.toIn q⟩
  | .loop a r, _, x => by obtain ⟨t, ka, ws, vs', e, lk, th, la, q, q'⟩ := x; exact ⟨t, ka, ws, vs', e, la.lt, th, la, KidsAt.toIn q, KidsAt.toIn q'⟩
end
section
variable {prog : Program} {w : World} {A : Around} {env : Env} {E : Value → Shared → Prop} {s : Shared}
/-- a call with places alone, of a function -/
theorem callA {f : Expr} {es : List Expr} {pos : Pos} {a : Addr} {x : Sem Value} {rest : List (Bool × Sem Value)} {Q : Value → Shared → Prop} (hf : Ev prog w A env f s.heap (fun u => u = .ref a))
    (h : ∀ tk, wpAny (model prog w) A (spliced ((false, x) :: rest)) (fun vs s₁ => FnO s₁.heap a ∧ wpAny (model prog w) A (call (.ref a) vs) Q E s₁) E { s with toks := tk })
    (hs : backTo pos (starEach es env) = (false, x) :: rest)
    (he : eval (.Call f es [] pos) env = (do callWith pos (← eval f env) [] (backTo pos (starEach es env)) (backToKw pos (keywordEach [] env)))) :
    wpAny (model prog w) A (eval (.Call f es [] pos) env) Q E s := by
  refine PyProof.Rows.Call_ (hf s _ _ rfl fun u tk e => ?_) he
  subst e
  rw [hs]
  show wpAny _ _ (callWith pos (.ref a) [] ((false, x) :: rest) []) _ _ _
  unfold callWith
  have hh : wpAny (model prog w) A (evalArgs (.ref a) true ((false, x) :: rest) []) (fun g s₁ => FnO s₁.heap a ∧ g.kw = [] ∧ wpAny (model prog w) A (call (.ref a) g.pos) Q E s₁) E { s with toks := tk } :=
    Calls.evalArgs_plain (wpAny_mono (h tk) (fun vs s' h' => ⟨h'.1, rfl, h'.2⟩) fun _ _ x => x)
  refine wpAny_bind (wpAny_holding (wpAny_mono hh (fun g s₁ h₁ => wpAny_bind (wpAny_standAt ?_)) fun _ _ x => x))
  obtain ⟨⟨ob, fd, hob, hdat⟩, hkw, h₂⟩ := h₁
  obtain ⟨gp, gk⟩ := g
  cases hkw
  have tail : ∀ {t : Sem Value}, wpAny (model prog w) A t Q E s₁ → wpAny (model prog w) A (t >>= fun r => holding [r] point >>= fun _ => Pure.pure r) Q E s₁ :=
    fun ht => wpAny_bind (wpAny_mono ht (fun r s₂ hr => wpAny_bind (wpAny_holding (wpAny_point (wpAny_pure hr)))) fun _ _ x => x)
  cases hn : rest.any (·.1) <;> simp only [List.any_cons, List.any_nil, Bool.or_false, Bool.false_or, hn] <;> refine wpAny_bind (m := keeperOf (.ref a)) ?_ <;> unfold keeperOf <;> refine wpAny_bind (wpAny_load hob ?_) <;> rw [hdat] <;> refine wpAny_pure ?_
  · show wpAny _ _ (if ((false, x) :: rest).length + 2 * ([] : List (Option Str × Sem Value)).length > 30 then (do let r ← call (.ref a) ([] ++ gp); let _ ← holding [r] point; Pure.pure r) else (do let r ← callMarked plainCall (.ref a) ([] ++ gp) []; let _ ← holding [r] point; Pure.pure r)) _ _ _
    split
    · exact tail h₂
    · exact tail (by unfold callMarked; exact Calls.wpAny_keep h₂)
  · exact tail (by unfold callMarked; exact Calls.wpAny_keep h₂)
/-- `numbers[a:b]` -/
theorem cutMid {value : Expr} {p₁ p₂ p₃ pos : Pos} {kk kk' i k : Nat} {l : Addr} {ys : List Value} {Q : Value → Shared → Prop} (hv : Ev prog w A env value s.heap (fun u => u = .ref l)) (hl : s.heap.IsList l ys.toArray) (hz : ys.length ≤ 1000) (hik : i ≤ k) (hk : k ≤ ys.length)
    (h : ∀ r h' tk, Kp s.heap h' → s.heap.objs.size ≤ r → ListAt h' r ((ys.drop i).take (k - i)) → Q (.ref r) { s with heap := h', toks := tk })
    (ht : ∀ o r, letTemporaryGo value o r = pure () := by intro _ _; rfl) :
    wpAny (model prog w) A (eval (.Subscript value (.Slice (some (.Constant (.int (i : Int)) kk' p₁)) (some (.Constant (.int (k : Int)) kk p₂)) none p₃) pos) env) Q E s := by
  refine wpAny_Subscript_list_slice (hv s _ _ rfl fun o tk e => ?_) ht
  subst e
  rw [evalPart_some]
  refine wpAny_Constant_int ?_
  rw [evalPart_some]
  refine wpAny_Constant_int ?_
  have hsz : ys.toArray.size ≤ sizeLine := by
    have : (2000 : Nat) ≤ sizeLine := by decide
    simp only [List.size_toArray]; omega
  refine ⟨l, _, some (i : Int), some (k : Int), rfl, hl, hsz, .int _ _, .int _ _, ?_⟩
  rw [slicePick_plain]
  simp only [Option.elim, clipAt_nat, List.size_toArray, List.toList_toArray, Nat.min_eq_left hk, Nat.min_eq_left (Nat.le_trans hik hk)]
  have e := Heap.get?_push_size (s.heap.push { cls := .type "slice", data := .fields #[.int (i : Int) tk, .int (k : Int) (tk + 1), .none] }) (o := { cls := .type "list", data := .seq ((ys.drop i).take (k - i)).toArray }) rfl
  rw [Heap.size_push] at e
  exact h _ _ _ (fun b o e => Heap.get?_push_of_some _ (Heap.get?_push_of_some _ e)) (Nat.le_succ _) ⟨_, e⟩
end
section
variable {prog : Program} {w : World} {A : Around} {env : Env} {s : Shared} {h : Heap} {t : Nat} {E : Value → Shared → Prop}
theorem Ev.bool {b : Bool} {k pos} : Ev prog w A env (.Constant (.bool b) k pos) h (fun u => u = .bool b) := fun s Q E hs k => wpAny_Constant_bool (k _ s.toks rfl)
/-- arguments in places, all by Ev -/
noncomputable def Evs (prog : Program) (w : World) (A : Around) (env : Env) (pos : Pos) (es : List Expr) (h : Heap) (us : List Value) : Prop :=
  ∀ (s : Shared) (t : Nat) (Q : List Value → Shared → Prop) (E : Value → Shared → Prop), (∀ tk, Q us { s with heap := h, toks := tk }) → wpAny (model prog w) A (spliced (backTo pos (starEach es env))) Q E { s with heap := h, toks := t }
theorem Evs.nil {pos : Pos} : Evs prog w A env pos [] h [] := fun s t Q E k => args_nil (k t)
theorem Evs.cons {pos : Pos} {e : Expr} {rest : List Expr} {v : Value} {us : List Value} (x : Ev prog w A env e h (fun u => u = v)) (y : Evs prog w A env pos rest h us) (hs : starEach (e :: rest) env = (false, eval e env) :: starEach rest env := by rfl) : Evs prog w A env pos (e :: rest) h (v :: us) :=
  fun s t Q E k => args_cons (Ev.go x fun tk => y s tk _ E k) hs
/-- a call of a function, all its arguments by Ev, where there is room enough -/
theorem callE {f : Expr} {es : List Expr} {pos : Pos} {a : Addr} {us : List Value} {x : Sem Value} {rest : List (Bool × Sem Value)} {n u : Nat} {Q : Value → Shared → Prop} (hf : Ev prog w A env f h (fun u => u = .ref a)) (ha : Evs prog w A env pos es h us) (hfn : FnO h a)
    (h1 : A.handled = none) (h2 : A.depth ≤ n) (h3 : A.guards = some []) (h4 : A.units ≤ u)
    (hs : backTo pos (starEach es env) = (false, x) :: rest)
    (he : eval (.Call f es [] pos) env = (do callWith pos (← eval f env) [] (backTo pos (starEach es env)) (backToKw pos (keywordEach [] env))))
    (hc : ∀ tk, wpAny (model prog w) (AX n u) (call (.ref a) us) Q E { s with heap := h, toks := tk }) :
    wpAny (model prog w) A (eval (.Call f es [] pos) env) Q E { s with heap := h, toks := t } :=
  callA (s := { s with heap := h, toks := t }) hf (fun tk => hs ▸ ha s tk _ E fun tk₂ => ⟨hfn, wpAny_weaken (hc tk₂) h1 h2 h3 h4⟩) hs he
end
section
variable {prog : Program} {w : World} {A : Around} {env : Env} {E : Value → Shared → Prop} {s : Shared}
/-- `x, y, z = (e1, e2, e3)`, all of the frame's own names -/
theorem triL {x y z : Str} {px py pz tpos p2 pos : Pos} {k k2 : Nat} {e1 e2 e3 : Expr} {Q : Flow → Shared → Prop} (hh : A.handled = none) (hx : env.kindOf x = some .local) (hy : env.kindOf y = some .local) (hz : env.kindOf z = some .local) (hp : (env.scope.kind == .class || (env.scope.kind == .module && env.locals != env.globals)) = false)
    (h : wpAny (model prog w) A (eval e1 env) (fun v1 s1 => wpAny (model prog w) A (eval e2 env) (fun v2 s2 => wpAny (model prog w) A (eval e3 env) (fun v3 s3 => ∃ m, s3.heap.Ns env.locals m ∧ ∀ h' tk, (∀ b o, @Ne Nat b env.locals → s3.heap.get? b = some o → h'.get? b = some o) → h'.Ns env.locals (fun n => if n = x then some v1 else if n = y then some v2 else if n = z then some v3 else m n) → Q .next { s3 with heap := h', toks := tk }) E s2) E s1) E s)
    (hs : backTo p2 (starEach [e1, e2, e3] env) = [(false, eval e1 env), (false, eval e2 env), (false, eval e3 env)] := by rfl)
    (hsw : swapsWithSole [.Tuple [.Name x px, .Name y py, .Name z pz] k tpos] (.Tuple [e1, e2, e3] k2 p2) pos.line env = Pure.pure false := by rfl)
    (hst : swappedStores [.Tuple [.Name x px, .Name y py, .Name z pz] k tpos] (.Tuple [e1, e2, e3] k2 p2) env = Pure.pure (some [x, y, z]) := by rfl) :
    wpAny (model prog w) A (exec (.Assign [.Tuple [.Name x px, .Name y py, .Name z pz] k tpos] (.Tuple [e1, e2, e3] k2 p2) pos) env) Q E s := by
  refine Assign_Tuple_swapped (names := [x, y, z]) ?_ hsw hst
  refine wpAny_Tuple ?_
  rw [hs]
  refine Calls.spliced_cons (wpAny_mono h (fun v1 s1 h1 => Calls.spliced_cons (wpAny_mono h1 (fun v2 s2 h2 => Calls.spliced_cons (wpAny_mono h2 (fun v3 s3 h3 => Calls.spliced_nil ?_) fun _ _ x => x)) fun _ _ x => x)) fun _ _ x => x)
  obtain ⟨m, hn, hq⟩ := h3
  refine ⟨by
    have : (2000 : Nat) ≤ sizeLine := by decide
    show (3 : Nat) ≤ _; omega, ?_⟩
  have up : ∀ b o, s3.heap.get? b = some o → (s3.heap.push { cls := .type "tuple", data := .seq [v1, v2, v3].toArray }).get? b = some o := fun b o e => Heap.get?_push_of_some _ e
  refine unpackItems_tuple (items := #[v1, v2, v3]) hh ⟨_, Heap.get?_push_size _ rfl, rfl, _, rfl⟩ fun h₁ x₁ => ?_
  have u₁ : ∀ b o, s3.heap.get? b = some o → h₁.get? b = some o := fun b o e => x₁ b o (by rw [Heap.size_push]; exact Nat.ne_of_lt (Nat.lt_succ_of_lt (Heap.lt_size e))) (up b o e)
  show wpAny _ _ (do holding [v2, v1] (bindName env z v3); (do holding [v1] (bindName env y v2); (do holding [] (bindName env x v1); Pure.pure ()))) _ _ _
  refine wpAny_bind (wpAny_holding (wpAny_bindName (wpAny_storeName_local hz (hn.keeps u₁) (fun h₂ n₂ s₂ => ?_) hp)))
  refine wpAny_bind (wpAny_holding (wpAny_bindName (wpAny_storeName_local hy n₂ (fun h₃ n₃ s₃ => ?_) hp)))
  refine wpAny_bind (wpAny_holding (wpAny_bindName (wpAny_storeName_local hx n₃ (fun h₄ n₄ s₄ => wpAny_pure ?_) hp)))
  exact hq h₄ _ (fun b o hb e => s₄.extBut b o hb (s₃.extBut b o hb (s₂.extBut b o hb (u₁ b o e)))) n₄
end
/-- the first k names -/
noncomputable def NK (k : Nat) (ns : List Int) : Prop := ns.length = k ∧ Rising ns ∧ ∀ n ∈ ns, 65 ≤ n ∧ n ≤ 92 ∧ (n - 65) % 4 < k
theorem ins_at (ns : List Int) (x : Int) {r : Nat} (hr : r ≤ ns.length) (i : Nat) : (ns.take r ++ [x] ++ ns.drop r).getD i 0 = if i < r then ns.getD i 0 else if i = r then x else ns.getD (i - 1) 0 := by
  simp only [List.getD_eq_getElem?_getD, List.append_assoc]
  rw [List.getElem?_append, List.length_take, Nat.min_eq_left hr]
  by_cases h : i < r
  · rw [if_pos h, if_pos h, List.getElem?_take, if_pos h]
  · rw [if_neg h, if_neg h]
    by_cases e : i = r
    · rw [if_pos e, e, Nat.sub_self]; rfl
    · obtain ⟨k, rfl⟩ := Nat.exists_eq_add_of_lt (Nat.lt_of_le_of_ne (Nat.not_lt.mp h) (Ne.symm e))
      have e1 : r + k + 1 - r = k + 1 := by rw [Nat.add_assoc, Nat.add_sub_cancel_left]
      rw [if_neg e, List.getElem?_append, List.length_singleton, e1, if_neg (Nat.not_lt.mpr (Nat.le_add_left 1 k)), List.getElem?_drop]
      rfl
theorem NK.ins {k : Nat} {ns : List Int} {x q : Int} {r : Nat} (h : NK k ns) (hk : k < 4) (hx : x = 65 + (k : Int) + 4 * q) (q0 : 0 ≤ q) (q1 : q < 7) (hr : r ≤ ns.length) (lt : ∀ j : Nat, j < r → ns.getD j 0 < x) (ge : ∀ j : Nat, r ≤ j → j < ns.length → x ≤ ns.getD j 0) : NK (k + 1) (ns.take r ++ [x] ++ ns.drop r) := by
  obtain ⟨hl, rs, bd⟩ := h
  have hlen : (ns.take r ++ [x] ++ ns.drop r).length = k + 1 := by
    rw [List.length_append, List.length_append, List.length_take, List.length_drop, List.length_singleton, Nat.min_eq_left hr, Nat.add_right_comm, Nat.add_sub_cancel' hr, hl]
  have xb : 65 ≤ x ∧ x ≤ 92 ∧ (x - 65) % 4 = (k : Int) := by clear lt ge rs bd hlen hl hr; omega
  have up : ∀ n ∈ ns, 65 ≤ n ∧ n ≤ 92 ∧ (n - 65) % 4 < ((k + 1 : Nat) : Int) := fun n hn => ⟨(bd n hn).1, (bd n hn).2.1, Int.lt_trans (bd n hn).2.2 (Int.ofNat_lt.mpr (Nat.lt_succ_self k))⟩
  have ge' : ∀ j : Nat, r ≤ j → j < ns.length → x < ns.getD j 0 := fun j h1 h2 => Int.lt_iff_le_and_ne.mpr ⟨ge j h1 h2, fun q => by
    have b := (bd _ (getD_mem h2)).2.2
    rw [← q, xb.2.2] at b
    exact Int.lt_irrefl _ b⟩
  refine ⟨hlen, fun i j hij hj => ?_, fun n hn => ?_⟩
  · rw [hlen, ← hl] at hj
    rw [ins_at ns x hr, ins_at ns x hr]
    have pr : ∀ {j : Nat}, r < j → 0 < j := fun q => Nat.lt_of_le_of_lt (Nat.zero_le _) q
    have jp : r < j → j - 1 < ns.length := fun q => Nat.lt_of_lt_of_le (Nat.sub_one_lt (Nat.ne_of_gt (pr q))) (Nat.le_of_lt_succ hj)
    by_cases h1 : i < r
    · rw [if_pos h1]
      by_cases h2 : j < r
      · rw [if_pos h2]; exact rs i j hij (Nat.lt_of_lt_of_le h2 hr)
      · rw [if_neg h2]
        by_cases h3 : j = r
        · rw [if_pos h3]; exact lt i h1
        · have h4 : r < j := Nat.lt_of_le_of_ne (Nat.not_lt.mp h2) (Ne.symm h3)
          rw [if_neg h3]; exact rs i (j - 1) (Nat.lt_of_lt_of_le h1 (Nat.le_sub_one_of_lt h4)) (jp h4)
    · have h2 : r < j := Nat.lt_of_le_of_lt (Nat.not_lt.mp h1) hij
      rw [if_neg h1, if_neg (Nat.lt_asymm h2), if_neg (Nat.ne_of_gt h2)]
      by_cases h3 : i = r
      · rw [if_pos h3]; exact ge' (j - 1) (Nat.le_sub_one_of_lt h2) (jp h2)
      · have h4 : r < i := Nat.lt_of_le_of_ne (Nat.not_lt.mp h1) (Ne.symm h3)
        rw [if_neg h3]; exact rs (i - 1) (j - 1) (Nat.sub_lt_sub_right (pr h4) hij) (jp h2)
  · rcases List.mem_append.mp hn with hn | hn
    · rcases List.mem_append.mp hn with hn | hn
      · exact up n (List.mem_of_mem_take hn)
      · rw [List.mem_singleton.mp hn]
        exact ⟨xb.1, xb.2.1, by rw [xb.2.2]; exact Int.ofNat_lt.mpr (Nat.lt_succ_self k)⟩
    · exact up n (List.mem_of_mem_drop hn)
theorem NK.names {ns : List Int} (h : NK 4 ns) : Names ns := ⟨h.1, h.2.1, fun n hn => (h.2.2 n hn).1, fun n hn => (h.2.2 n hn).2.1⟩
theorem rising_sorted {ns ns' : List Int} (h : Rising ns) (p : ns'.Perm ns) (q : ns'.Pairwise (· ≤ ·)) : ns' = ns := by
  refine List.Perm.eq_of_pairwise (le := (· ≤ ·)) (fun a b _ _ h1 h2 => Int.le_antisymm h1 h2) q ?_ p
  refine List.pairwise_iff_getElem.mpr fun i j hi hj hij => ?_
  have := h i j hij hj
  rw [List.getD_eq_getElem?_getD, List.getD_eq_getElem?_getD, List.getElem?_eq_getElem hi, List.getElem?_eq_getElem hj] at this
  exact Int.le_of_lt this
open Kids (stT SOk matS swp)
theorem fn175 (P : Params) : ∃ o fd, (hd.heap_1 P).lookup 175 = some o ∧ o.data = .func fd := ⟨_, _, rfl, rfl⟩
theorem fn39 (P : Params) : ∃ o fd, (hd.heap_1 P).lookup 39 = some o ∧ o.data = .func fd := ⟨_, _, rfl, rfl⟩
theorem fn134 (P : Params) : ∃ o fd, (hd.heap_1 P).lookup 134 = some o ∧ o.data = .func fd := ⟨_, _, rfl, rfl⟩
theorem fn146 (P : Params) : ∃ o fd, (hd.heap_1 P).lookup 146 = some o ∧ o.data = .func fd := ⟨_, _, rfl, rfl⟩
theorem fn21 (P : Params) : ∃ o fd, (hd.heap_1 P).lookup 21 = some o ∧ o.data = .func fd := ⟨_, _, rfl, rfl⟩
theorem fn153 (P : Params) : ∃ o fd, (hd.heap_1 P).lookup 153 = some o ∧ o.data = .func fd := ⟨_, _, rfl, rfl⟩
theorem fn90 (P : Params) : ∃ o fd, (hd.heap_1 P).lookup 90 = some o ∧ o.data = .func fd := ⟨_, _, rfl, rfl⟩
theorem FnO.of {K : Frag} {h : Heap} {a : Addr} (X : K.In h) (e : ∃ o fd, K.lookup a = some o ∧ o.data = .func fd) : FnO h a := by obtain ⟨o, fd, e, d⟩ := e; exact ⟨o, fd, X _ _ e, d⟩
/-- what a frame's map holds, and that it lacks a thing's names -/
structure MM (m : Str → Option Value) (l : List (Str × Value)) : Prop where
  get : ∀ p ∈ l, m p.1 = some p.2
  tag : m "tag" = none
  text : m "text" = none
theorem MM.set {m : Str → Option Value} {l : List (Str × Value)} (x : MM m l) (n : Str) (v : Value) (hn : (l.all fun p => p.1 != n) = true) (h1 : ("tag" : Str) ≠ n) (h2 : ("text" : Str) ≠ n) : MM (fun y => if y = n then some v else m y) ((n, v) :: l) := by
  refine ⟨fun p hp => ?_, ?_, ?_⟩
  · rcases List.mem_cons.mp hp with rfl | hp
    · exact if_pos rfl
    · have := List.all_eq_true.mp hn p hp
      show (if p.1 = n then some v else m p.1) = _
      rw [if_neg (by simpa using this)]
      exact x.get p hp
  · show (if _ then _ else _) = _
    rw [if_neg h1]; exact x.tag
  · show (if _ then _ else _) = _
    rw [if_neg h2]; exact x.text
theorem MM.at {m : Str → Option Value} {l : List (Str × Value)} (x : MM m l) {n : Str} {v : Value} (h : l.lookup n = some v) : m n = some v := by
  induction l with
  | nil => cases h
  | cons p l ih =>
    obtain ⟨k, u⟩ := p
    rw [List.lookup_cons] at h
    split at h
    · rename_i q
      cases h
      have : n = k := by simpa using q
      subst this
      exact x.get _ (.head _)
    · exact ih ⟨fun p hp => x.get p (.tail _ hp), x.tag, x.text⟩ h
theorem Ev.imod {prog : Program} {w : World} {A : Around} {env : Env} {h : Heap} {l : Expr} {p₁ pos : Pos} {k₁ : Nat} {a c : Int} (hl : Ev prog w A env l h (fun u => ∃ t, u = .int a t)) (hc : c ≠ 0) :
    Ev prog w A env (.BinOp l .Mod (.Constant (.int c) k₁ p₁) pos) h (fun u => ∃ t, u = .int (a.fmod c) t) := fun s Q E hh k => by
  refine wpAny_BinOp (hl s _ _ hh fun o tk ⟨t, e⟩ => ?_)
  subst e
  refine wpAny_Constant_int (mod_int' hc ?_)
  exact k _ _ ⟨_, rfl⟩
theorem notHid {h : Heap} {L b : Nat} {o : Obj} {m : Str → Option Value} {v1 v2 : Array Value} (n : h.Ns L m) (c3 : h.IsCell (L + 3) none) (h108 : h.get? 108 = some (tabObj v1)) (h143 : h.get? 143 = some (tabObj v2)) (e : h.get? b = some o) (d1 : ∀ es n, o.data ≠ .dict es n) (d2 : o.data ≠ .cell none) (d3 : ∀ vs, o.data ≠ .fields vs) : b ∉ ([L, L + 3, 108, 143] : List Nat) := fun hm => by
  simp only [List.mem_cons, List.not_mem_nil, or_false] at hm
  rcases hm with rfl | rfl | rfl | rfl
  · obtain ⟨o', es, ep, e', d', _⟩ := n
    rw [e] at e'; cases e'; exact d1 _ _ d'
  · obtain ⟨o', e', d'⟩ := c3
    rw [e] at e'; cases e'; exact d2 d'
  · rw [e] at h108; cases h108; exact d3 _ rfl
  · rw [e] at h143; cases h143; exact d3 _ rfl
theorem MatAt.to {h h' : Heap} {v : Value} {M : Mt} (x : MatAt h v M) (k : ∀ {b : Nat} {xs : List Value}, h.IsList b xs.toArray → h'.IsList b xs.toArray) : MatAt h' v M :=
  let ⟨a, ys, e, l, n, r⟩ := x; ⟨a, ys, e, k l, n, fun i hi => let ⟨b, zs, f1, f2, f3, f4⟩ := r i hi; ⟨b, zs, f1, k f2, f3, f4⟩⟩
theorem Th.fn {prog : Program} {w : World} {h : Heap} {t : Addr} {tag text : Str} {times : Int} {vl : Value} {ka : Addr} (x : Th prog w h t tag text times vl ka) : ∃ m tt, FnAt h t m ∧ m "tag" = some (.str tag tt) ∧ m "kids" = some (.ref ka) := by
  obtain ⟨g, da, tx, tn, sS, kg, _, _⟩ := x
  obtain ⟨m, fa, fi, hF, ⟨tt, m1⟩, _, _, m4, _⟩ := sS.m
  exact ⟨m, tt, hF.keeps kg, m1, m4⟩
theorem kidsHead {prog : Program} {w : World} {h : Heap} {ns : List Int} {lo : Nat} : ∀ {K : Kids} {vs : List Value}, KidsAt prog w ns h lo vs K → K.sz ≠ 0 → ∃ t vs' m tg tt, vs = .ref t :: vs' ∧ FnAt h t m ∧ m "tag" = some (.str tg tt)
  | .nil, _, _, hz => absurd rfl hz
  | .step i d j r, _, x, _ => by obtain ⟨t, ka, vs', e, _, th, _⟩ := x; obtain ⟨m, tt, f, q, _⟩ := th.fn; exact ⟨t, vs', m, _, tt, e, f, q⟩
  | .loop a r, _, x, _ => by obtain ⟨t, ka, ws, vs', e, _, th, _⟩ := x; obtain ⟨m, tt, f, q, _⟩ := th.fn; exact ⟨t, vs', m, _, tt, e, f, q⟩
/-- what the rest of the law starts from -/
theorem law_rest {prog : Program} {w : World} {p loose mean mg mb} {s : Shared} {g : Heap} {L C nb D a : Addr} {ws nvs : List Value} {zs ns : List Int} {t1 t2 : Tok} {m : Str → Option Value} {o : Obj} {fd : FuncData} {body : List Stmt} {Q : Flow → Shared → Prop} {E : Value → Shared → Prop}
    (ho : (hd.heap_1 w.params).lookup 180 = some o) (hfd : o.data = .func fd) (hb : fd.body = .stmts body)
    (X : (hd.heap_1 w.params).In g) (T : Top p loose mean mg mb g) (k₀ : Kp g s.heap) (hgn : ∀ b ∈ ([L, L + 1, L + 2, L + 3, nb, 108, 143] : List Nat), g.get? b = none) (hg : s.gens = #[])
    (h108 : s.heap.get? 108 = some (tabObj #[])) (h143 : s.heap.get? 143 = some (tabObj #[])) (c1 : s.heap.IsCell (L + 1) none) (c2 : s.heap.IsCell (L + 2) none) (c3 : s.heap.IsCell (L + 3) none)
    (n₀ : s.heap.Ns L m) (mm : MM m [("cells", .ref C), ("names", .ref nb), ("table", .ref D), ("script", .ref a)])
    (lC : g.IsList C ws.toArray) (iC : IntsAre ws zs) (zl : zs.length = 17) (dD : g.DictOf (strKind prog w) D (attKvs (.str "" t1) (.int 1 t2) .none)) (hDs : (D == sysModules) = false)
    (lN : ListAt s.heap nb nvs) (iN : IntsAre nvs ns) (NN : NK 4 ns)
    (ret : ∀ h' tk', Kp g h' → (∃ vs, h'.get? 108 = some (tabObj vs)) → (∃ vs, h'.get? 143 = some (tabObj vs)) → Q (.ret (.bool true)) { s with heap := h', toks := tk' }) :
    wpS (model prog w) ((AX 310 2000).deeper (envOfC fd.qualname fd.scope L 180 fd.code)) (execs (body.drop 2) (envOfC fd.qualname fd.scope L 180 fd.code)) Q E s := by
  obtain rfl : o = _ := Option.some.inj (ho.symm.trans rfl)
  cases hfd
  cases hb
  have nLg : g.get? L = none := hgn _ (by simp)
  have N := NN.names
  have nl := N.len
  have hws : ws.length = 17 := by rw [iC.length, zl]
  refine S.stmt (sTriple (cy := L + 1) (cz := L + 2) rfl rfl rfl rfl rfl rfl rfl (Nat.ne_of_lt (Nat.lt_succ_self (L + 1))) ?_)
  refine Call_Name1 ((Ev.builtin (v := .builtin "sorted") ((Bi.of X T (by k_is) (by decide +kernel) (by decide)).keeps k₀) rfl rfl rfl rfl) s _ _ rfl fun v tk e => ?_)
  subst e
  refine PySem.callWith_builtin1 ((Ev.local n₀ (mm.at rfl) rfl rfl) { s with toks := tk } _ _ rfl fun v tk₂ e => ?_)
  subst e
  refine sorted_ints (lN.isList) iN (by rw [iN.length, nl]; decide) fun out ns' io pp pw => ?_
  have hns' : ns' = ns := rising_sorted N.rise pp pw
  subst hns'
  have k₁ : Kp s.heap (sortedAll s.heap nvs out) := fun b o e => sortedAll_old e
  obtain ⟨ee, hK⟩ := sortedAll_at s.heap nvs out
  dsimp only
  generalize sortedAll s.heap nvs out = h₁ at k₁ hK
  generalize hKr : s.heap.objs.size + 1 = Kr at hK
  have lK : h₁.IsList Kr out.toList.toArray := ⟨_, hK, rfl, ee, rfl⟩
  have lC₁ : h₁.IsList C ws.toArray := lC.elim fun o z => ⟨o, k₁ _ _ (k₀ _ _ z.1), z.2⟩
  refine cutMid (s := { s with heap := h₁, toks := tk₂ }) (i := 9) (k := 13) (Ev.local (n₀.keeps k₁) (mm.at rfl) rfl rfl) lC₁ (by omega) (by decide) (by omega) fun O h₂ tk₃ k₂ zO lO => ?_
  dsimp only at k₂ zO
  refine cutMid (s := { s with heap := h₂, toks := tk₃ }) (i := 13) (k := 17) (Ev.local ((n₀.keeps k₁).keeps k₂) (mm.at rfl) rfl rfl) (lC₁.elim fun o z => ⟨o, k₂ _ _ z.1, z.2⟩) (by omega) (by decide) (by omega) fun W h₃ tk₄ k₃ zW lW => ?_
  dsimp only at k₃ zW
  have k₀₃ : Kp s.heap h₃ := fun b o e => k₃ _ _ (k₂ _ _ (k₁ _ _ e))
  refine ⟨m, n₀.keeps k₀₃, ⟨none, c1.keeps k₀₃⟩, ⟨none, c2.keeps k₀₃⟩, fun h₄ tk₅ k₄ n₄ e1 e2 => ?_⟩
  have mm₄ := mm.set "kept" (.ref Kr) (by rfl) (by decide) (by decide)
  generalize (fun n : Str => if n = "kept" then some (Value.ref Kr) else m n) = m₄ at n₄ mm₄
  have n₃ := n₀.keeps k₀₃
  have nk : ∀ {b : Nat} {o : Obj}, h₃.get? b = some o → (∀ es n, o.data ≠ .dict es n) → (o.data ≠ .cell none) → h₄.get? b = some o := fun {b o} e d1 d2 => by
    refine k₄ b o (fun q => ?_) (fun q => ?_) (fun q => ?_) e
    · refine gg fun P hP => ?_
      obtain ⟨o', es, ep, e', d', _⟩ := n₃
      refine hP ?_
      clear hP
      rw [show b = L from q, show h₃.get? L = some o' from e'] at e; cases e; exact d1 _ _ d'
    · refine gg fun P hP => ?_
      obtain ⟨o', e', d'⟩ := c1.keeps k₀₃
      refine hP ?_
      clear hP
      rw [q, e'] at e; cases e; exact d2 d'
    · refine gg fun P hP => ?_
      obtain ⟨o', e', d'⟩ := c2.keeps k₀₃
      refine hP ?_
      clear hP
      rw [q, e'] at e; cases e; exact d2 d'
  have p108 : h₄.get? 108 = some (tabObj #[]) := nk (k₀₃ _ _ h108) (fun _ _ q => by cases q) (fun q => by cases q)
  have p143 : h₄.get? 143 = some (tabObj #[]) := nk (k₀₃ _ _ h143) (fun _ _ q => by cases q) (fun q => by cases q)
  have p3 : h₄.IsCell (L + 3) none := by
    refine gg fun P hP => ?_
    obtain ⟨o, e, d⟩ := c3.keeps k₀₃
    refine hP ?_
    clear hP
    refine ⟨o, k₄ _ _ (fun q => ?_) (fun q => ?_) (fun q => ?_) e, d⟩
    · have q' : @Eq Nat (L + 3) L := q
      omega
    · have q' : @Eq Nat (L + 3) (L + 1) := q
      omega
    · have q' : @Eq Nat (L + 3) (L + 2) := q
      omega
  have tol : ∀ {b : Nat} {xs : List Value}, ListAt h₃ b xs → ListAt h₄ b xs := fun ⟨n, e⟩ => ⟨n, nk e (fun _ _ q => by cases q) (fun q => by cases q)⟩
  have toi : ∀ {b : Nat} {xs : List Value}, h₃.IsList b xs.toArray → h₄.IsList b xs.toArray := fun ⟨o, e, c, n, d⟩ => ⟨o, nk e (fun _ _ q => by rw [d] at q; cases q) (fun q => by rw [d] at q; cases q), c, n, d⟩
  have vl : ∀ {b : Nat} {xs : List Value}, ListAt h₄ b xs → ListAt (hideAll h₄ ([L, L + 3, 108, 143] : List Nat)) b xs := fun ⟨n, e⟩ => ⟨n, hideAll_get _ e (notHid n₄ p3 p108 p143 e (fun _ _ q => by cases q) (fun q => by cases q) (fun _ q => by cases q))⟩
  have vi : ∀ {b : Nat} {xs : List Value}, h₄.IsList b xs.toArray → (hideAll h₄ ([L, L + 3, 108, 143] : List Nat)).IsList b xs.toArray := fun ⟨o, e, c, n, d⟩ => ⟨o, hideAll_get _ e (notHid n₄ p3 p108 p143 e (fun _ _ q => by rw [d] at q; cases q) (fun q => by rw [d] at q; cases q) (fun _ q => by rw [d] at q; cases q)), c, n, d⟩
  have vc : ∀ {b : Nat} {v : Value}, h₄.IsCell b (some v) → (hideAll h₄ ([L, L + 3, 108, 143] : List Nat)).IsCell b (some v) := fun ⟨o, e, d⟩ => ⟨o, hideAll_get _ e (notHid n₄ p3 p108 p143 e (fun _ _ q => by rw [d] at q; cases q) (fun q => by rw [d] at q; cases q) (fun _ q => by rw [d] at q; cases q)), d⟩
  have kg4 : Kp g h₄ := fun b o e => k₄ b o (ne_of_none nLg e) (ne_of_none (hgn _ (by simp)) e) (ne_of_none (hgn _ (by simp)) e) (k₀₃ _ _ (k₀ _ _ e))
  refine gg fun P hP => ?_
  obtain ⟨g6, hgk6, hgn6, kg6, lN6, lK6, lO6, lW6, e16, e26⟩ : ∃ g6 : Heap, Kp g6 h₄ ∧ (∀ b ∈ ([L, L + 3, 108, 143] : List Nat), g6.get? b = none) ∧ Kp g g6 ∧ ListAt g6 nb nvs ∧ g6.IsList Kr out.toList.toArray ∧ ListAt g6 O ((ws.drop 9).take (13 - 9)) ∧ ListAt g6 W ((ws.drop 13).take (17 - 13)) ∧ g6.IsCell (L + 1) (some (.ref O)) ∧ g6.IsCell (L + 2) (some (.ref W)) := by
    refine ⟨hideAll h₄ ([L, L + 3, 108, 143] : List Nat), fun b o e => of_hideAll _ e, fun b hb => hideAll_none _ hb, fun b o e => hideAll_get _ (kg4 _ _ e) fun hm => ?_, vl (tol (lN.keeps k₀₃)), vi (toi (lK.elim fun o z => ⟨o, k₃ _ _ (k₂ _ _ z.1), z.2⟩)), vl (tol (lO.keeps k₃)), vl (tol lW), vc e1, vc e2⟩
    have : b ∈ ([L, L + 1, L + 2, L + 3, nb, 108, 143] : List Nat) := by
      simp only [List.mem_cons, List.not_mem_nil, or_false] at hm ⊢
      rcases hm with q | q | q | q <;> simp [q]
    rw [hgn _ this] at e; cases e
  refine hP ?_
  clear hP
  have X6 := X.keeps kg6
  have T6 := T.keeps kg6
  have lC6 : g6.IsList C ws.toArray := lC.elim fun o z => ⟨o, kg6 _ _ z.1, z.2⟩
  have dD6 := dD.keep kg6
  have nL6 : g6.get? L = none := hgn6 _ (by simp)
  have n36 : g6.get? (L + 3) = none := hgn6 _ (by simp)
  have n108 : g6.get? 108 = none := hgn6 _ (by simp)
  have n143 : g6.get? 143 = none := hgn6 _ (by simp)
  have iO : IntsAre ((ws.drop 9).take (13 - 9)) ((zs.drop 9).take (13 - 9)) := (iC.drop 9).take _
  have iW : IntsAre ((ws.drop 13).take (17 - 13)) ((zs.drop 13).take (17 - 13)) := (iC.drop 13).take _
  have one4 : ((zs.drop 9).take (13 - 9)).length = 4 := by rw [List.length_take, List.length_drop, zl]; rfl
  have two4 : ((zs.drop 13).take (17 - 13)).length = 4 := by rw [List.length_take, List.length_drop, zl]; rfl
  generalize (zs.drop 9).take (13 - 9) = one at iO one4
  generalize (zs.drop 13).take (17 - 13) = two at iW two4
  generalize (ws.drop 9).take (13 - 9) = onev at iO lO6 lO
  generalize (ws.drop 13).take (17 - 13) = twov at iW lW6 lW
  replace ret : ∀ h' tk', Kp g6 h' → (∃ vs, h'.get? 108 = some (tabObj vs)) → (∃ vs, h'.get? 143 = some (tabObj vs)) → Q (.ret (.bool true)) { s with heap := h', toks := tk' } := fun h' tk' k => ret h' tk' fun b o e => k _ _ (kg6 _ _ e)
  clear vl vi vc tol toi nk k₀₃ k₁ k₂ k₃ k₄ kg4 n₃ n₀ mm c1 c2 c3 h108 h143 lO lW lN lC lC₁ lK hK hKr zO zW e1 e2
  -- the sheet
  refine S.stmt (wpAny_Assign_Name ?_)
  show wpAny _ _ _ _ _ { s with heap := h₄, toks := tk₅ }
  refine callA (s := { s with heap := h₄, toks := tk₅ }) (Ev.global (Gl.of (X6.keeps hgk6) (T6.keeps hgk6) (by k_is)) rfl rfl rfl) (fun tk => Calls.spliced_cons (cutMid (s := { s with heap := h₄, toks := tk }) (i := 4) (k := 9) (Ev.local n₄ (mm₄.at rfl) rfl rfl) (lC6.elim fun o z => ⟨o, hgk6 _ _ z.1, z.2⟩) (by omega) (by decide) (by omega) fun R h₅ tk₆ k₅ zR lR => ?_)) rfl rfl
  dsimp only at k₅ zR
  have hgk5 : Kp g6 h₅ := fun b o e => k₅ _ _ (hgk6 _ _ e)
  have n₅ := n₄.keeps k₅
  refine Calls.spliced_cons (Ev.go (s := s) (Ev.local n₅ (mm₄.at rfl) rfl rfl) fun tk₇ => ?_)
  refine Calls.spliced_cons (Ev.go (s := s) (Ev.local n₅ (mm₄.at rfl) rfl rfl) fun tk₈ => ?_)
  refine Calls.spliced_nil ⟨FnO.of (X6.keeps hgk5) (fn134 _), wpAny_weaken (n := 680) (u := 4980) ?_ rfl (Nat.le_of_ble_eq_true rfl) rfl (Nat.le_of_ble_eq_true rfl)⟩
  refine sheet_spec X6 T6 hgk5 (k₅ _ _ p108) n108 ⟨(iC.drop 4).take (9 - 4), lR⟩ (by rw [List.length_take, List.length_drop, zl]; rfl) ⟨iN, lN6.keeps hgk5⟩ N (dD6.keep hgk5) hDs fun t ka kvs K h₆ tk₉ t1' t2' t3' i d j tt k₆ tab₆ th₆ lka₆ ki₆ sv hi4 hd7 hj4 hij => ?_
  dsimp only at k₆
  have ls5 : @LT.lt Nat _ L h₄.objs.size := n₄.lt
  have ne5 : ∀ {b : Nat} {o : Obj}, h₅.get? b = some o → (∀ vs, o.data ≠ .fields vs) → h₆.get? b = some o := fun {b o} e d => k₆ b o (fun q => by
    rw [q, k₅ _ _ p108] at e; cases e; exact d _ rfl) e
  have n₆ : h₆.Ns L m₄ := by
    refine gg fun P hP => ?_
    obtain ⟨o, es, ep, e, d, r⟩ := n₅
    refine hP ?_
    clear hP
    exact ⟨o, es, ep, ne5 e (fun vs q => by rw [d] at q; cases q), d, r⟩
  have p36 : h₆.IsCell (L + 3) none := by
    refine gg fun P hP => ?_
    obtain ⟨o, e, d⟩ := p3
    refine hP ?_
    clear hP
    exact ⟨o, ne5 (k₅ _ _ e) (fun vs q => by rw [d] at q; cases q), d⟩
  have p1436 : h₆.get? 143 = some (tabObj #[]) := k₆ _ _ (by decide) (k₅ _ _ p143)
  have kg6' : Kp g6 h₆ := fun b o e => k₆ b o (ne_of_none (n108) e) (hgk5 _ _ e)
  have loose : ∀ b ∈ ([L, L + 3, 143] : List Nat), Loose h₆ b := fun b hb => by
    simp only [List.mem_cons, List.not_mem_nil, or_false] at hb
    rcases hb with rfl | rfl | rfl
    · exact .inl ⟨m₄, n₆, mm₄.tag, mm₄.text⟩
    · exact .inr (.inl p36)
    · exact .inr (.inr ⟨_, _, p1436, rfl, fun x t q => by cases q⟩)
  refine gg fun P hP => ?_
  obtain ⟨g7, hgk7, hgn7, k67, th7, lka7, ki7, tab7⟩ : ∃ g7 : Heap, Kp g7 h₆ ∧ (∀ b ∈ ([L, L + 3, 143] : List Nat), g7.get? b = none) ∧ Kp g6 g7 ∧ Th prog w g7 t "sheet" "" 1 (.str (stText ns' i d j) tt) ka ∧ ListAt g7 ka kvs ∧ KidsAt prog w ns' g7 0 kvs K ∧ Tab3 g7 t1' t2' t3' := by
    refine ⟨hideAll h₆ ([L, L + 3, 143] : List Nat), fun b o e => of_hideAll _ e, fun b hb => hideAll_none _ hb, fun b o e => hideAll_get _ (kg6' _ _ e) fun hm => ?_, th₆.hid loose, lka₆.hid loose, ki₆.hid loose, ?_⟩
    · have : b ∈ ([L, L + 3, 108, 143] : List Nat) := by
        simp only [List.mem_cons, List.not_mem_nil, or_false] at hm ⊢
        rcases hm with q | q | q <;> simp [q]
      rw [hgn6 _ this] at e; cases e
    · have fl : ∀ {b : Nat} {o : Obj} {vs : Array Value}, h₆.get? b = some o → o.data = .fields vs → vs ≠ #[] → (hideAll h₆ ([L, L + 3, 143] : List Nat)).get? b = some o := fun {b o vs} e d nv => hideAll_get _ e fun hm => by
        simp only [List.mem_cons, List.not_mem_nil, or_false] at hm
        rcases hm with rfl | rfl | rfl
        · obtain ⟨o', es, ep, e', d', _⟩ := n₆
          rw [e] at e'; cases e'; rw [d] at d'; cases d'
        · obtain ⟨o', e', d'⟩ := p36
          rw [e] at e'; cases e'; rw [d] at d'; cases d'
        · rw [e] at p1436; cases p1436; cases d; exact nv rfl
      have cr : ∀ {cd : Value} {q : Str}, h₆.CodeRec cd q → (hideAll h₆ ([L, L + 3, 143] : List Nat)).CodeRec cd q := by
        rintro cd q ⟨c, oc, vs, tq, e1, e2, e3, e4⟩
        exact ⟨c, oc, vs, tq, e1, fl e2 e3 (fun z => by rw [z] at e4; cases e4), e3, e4⟩
      exact ⟨fl tab₆.1 rfl (fun z => by cases z), cr tab₆.2.1, cr tab₆.2.2.1, cr tab₆.2.2.2⟩
  refine hP ?_
  clear hP
  clear loose kg6' ne5 th₆ lka₆ ki₆ tab₆ hgk6 hgk5 k₅ k₆ n₅ n₄ p108 p143 p3 lR zR
  dsimp only
  refine wpAny_storeName_local rfl n₆ (fun h₇ n₇ s₇ => ?_) rfl
  have mm₇ := mm₄.set "sheet" (.ref t) (by rfl) (by decide) (by decide)
  generalize (fun n : Str => if n = "sheet" then some (Value.ref t) else m₄ n) = m₇ at n₇ mm₇
  have u₇ : ∀ b o, @Ne Nat b L → h₆.get? b = some o → h₇.get? b = some o := fun b o hb e => s₇.extBut b o hb e
  have nL7 : g7.get? L = none := hgn7 _ (by simp)
  have n37 : g7.get? (L + 3) = none := hgn7 _ (by simp)
  have n1437 : g7.get? 143 = none := hgn7 _ (by simp)
  have kg7 : Kp g7 h₇ := fun b o e => u₇ b o (ne_of_none nL7 e) (hgk7 _ _ e)
  have nd : ∀ {b : Nat} {o : Obj}, h₆.get? b = some o → (∀ es n, o.data ≠ .dict es n) → b ≠ L := fun {b o} e d q => by
    refine gg fun P hP => ?_
    obtain ⟨o', es, ep, e', d', _⟩ := n₆
    refine hP ?_
    clear hP
    rw [show b = L from q, e'] at e; cases e; exact d _ _ d'
  have p37 : h₇.IsCell (L + 3) none := by
    refine gg fun P hP => ?_
    obtain ⟨o, e, d⟩ := p36
    refine hP ?_
    clear hP
    exact ⟨o, u₇ _ _ (nd e fun _ _ q => by rw [d] at q; cases q) e, d⟩
  have p1437 : h₇.get? 143 = some (tabObj #[]) := u₇ _ _ (nd p1436 fun _ _ q => by cases q) p1436
  clear u₇ s₇ nd n₆ p36 p1436 hgk7 mm₄
  -- the tape
  have X7 := X6.keeps k67
  have T7 := T6.keeps k67
  refine gg fun P hP => ?_
  obtain ⟨hz3, hz2, hz1, hok⟩ : (K.texts ns').length ≤ 16 ∧ K.sz ≤ 8 ∧ K.dep ≤ 3 ∧ K.ok := by
    have e1 := sv.tl
    have e2 := sv.zl
    have e3 := sv.dl
    simp only [Kids.tl, Kids.zl, Kids.dl, List.length_nil, Nat.pow_zero, if_true] at e1 e2 e3
    rw [Kids.texts_len ns' [] K]
    exact ⟨by omega, by omega, by omega, sv.ok K (.head _)⟩
  obtain ⟨l, hl⟩ : ∃ l, l = K.steps ++ [(i, d, j)] := ⟨_, rfl⟩
  refine hP ?_
  clear hP
  have lok : ∀ x ∈ l, SOk x := fun x hx => by
    rw [hl] at hx
    rcases List.mem_append.mp hx with hx | hx
    · exact Kids.steps_ok hok x hx
    · rw [List.mem_singleton.mp hx]; exact ⟨hi4, hd7, hj4, hij⟩
  have tx : K.texts ns' ++ tailT (.str (stText ns' i d j) tt) = l.map (stT ns') := by
    rw [hl, List.map_append, ← Kids.texts_steps]; rfl
  have hll : l.length ≤ 17 ∧ 1 ≤ l.length := by
    have e := congrArg List.length tx
    simp only [List.length_append, tailT, List.length_cons, List.length_nil, List.length_map] at e
    omega
  have cd : (K.texts ns' ++ tailT (.str (stText ns' i d j) tt)).flatMap codesOf = tapeC ns' l := by rw [tx]; exact codes_tape N lok
  refine S.stmt (wpAny_Assign_Name ?_)
  refine callE (s := s) (n := 480) (u := 2900) (Ev.global (Gl.of (X7.keeps kg7) (T7.keeps kg7) (by k_is)) rfl rfl rfl) (.cons (Ev.local n₇ (mm₇.at rfl) rfl rfl) .nil) (FnO.of (X7.keeps kg7) (fn146 _)) rfl (Nat.le_of_ble_eq_true rfl) rfl (Nat.le_of_ble_eq_true rfl) rfl rfl fun tk₇ => ?_
  refine tape_spec1 X6 T6 (fun b o e => kg7 _ _ (k67 _ _ e)) p1437 n143 hg (th7.keeps kg7) (lka7.keeps kg7) (ki7.keeps kg7) hz1 (by omega) (by omega) (.inr ⟨_, _, rfl, rfl⟩) (fun x hx => ?_) (by rw [cd]; exact tape_lim N lok) fun h₈ tk₈ tb c k₈ tab₈ => ?_
  · rw [tx] at hx
    refine gg fun P hP => ?_
    obtain ⟨y, _, rfl⟩ := List.mem_map.mp hx
    refine hP ?_
    clear hP
    exact Nat.le_refl 3
  rw [cd]
  dsimp only at k₈
  have hB := bInts_of (tape_lim N lok)
  generalize bytesOf (tapeC ns' l) = B at hB
  have hBz : B.size = 3 * l.length := by rw [← KBw.ints_length, hB, tapeC_length]
  have n₈ : h₈.Ns L m₇ := n₇.at' fun o e => k₈ L o (fun q => by
    refine gg fun P hP => ?_
    obtain ⟨o', es, ep, e', d', _⟩ := n₇
    refine hP ?_
    clear hP
    rw [show (L : Nat) = 143 from q] at e'
    rw [show h₇.get? 143 = some o' from e'] at p1437; cases p1437; cases d') e
  have kg8 : Kp g7 h₈ := fun b o e => k₈ b o (ne_of_none (n1437) e) (kg7 _ _ e)
  have p38 : h₈.IsCell (L + 3) none := by
    refine gg fun P hP => ?_
    obtain ⟨o, e, d⟩ := p37
    refine hP ?_
    clear hP
    exact ⟨o, k₈ _ _ (fun q => by rw [q, p1437] at e; cases e; cases d) e, d⟩
  refine wpAny_storeName_local rfl n₈ (fun h₉ n₉ s₉ => ?_) rfl
  have mm₉ := mm₇.set "tape" (.bytes B tb) (by rfl) (by decide) (by decide)
  generalize (fun n : Str => if n = "tape" then some (Value.bytes B tb) else m₇ n) = m₉ at n₉ mm₉
  have u₉ : ∀ b o, @Ne Nat b L → h₈.get? b = some o → h₉.get? b = some o := fun b o hb e => s₉.extBut b o hb e
  have nd : ∀ {b : Nat} {o : Obj}, h₈.get? b = some o → (∀ es n, o.data ≠ .dict es n) → b ≠ L := fun {b o} e d q => by
    refine gg fun P hP => ?_
    obtain ⟨o', es, ep, e', d', _⟩ := n₈
    refine hP ?_
    clear hP
    rw [show b = L from q, e'] at e; cases e; exact d _ _ d'
  have p39 : h₉.IsCell (L + 3) none := by
    refine gg fun P hP => ?_
    obtain ⟨o, e, d⟩ := p38
    refine hP ?_
    clear hP
    exact ⟨o, u₉ _ _ (nd e fun _ _ q => by rw [d] at q; cases q) e, d⟩
  -- all that stays from here: all but the frame and the cell of rows
  have fl : ∀ {b : Nat} {o : Obj} {vs : Array Value}, h₈.get? b = some o → o.data = .fields vs → (hideAll h₉ ([L, L + 3] : List Nat)).get? b = some o := fun {b o vs} e d => by
    have hL := nd e fun _ _ q => by rw [d] at q; cases q
    refine hideAll_get _ (u₉ _ _ hL e) fun hm => ?_
    simp only [List.mem_cons, List.not_mem_nil, or_false] at hm
    rcases hm with rfl | rfl
    · exact hL rfl
    · refine gg fun P hP => ?_
      obtain ⟨o', e', d'⟩ := p38
      refine hP ?_
      clear hP
      rw [e] at e'; cases e'; rw [d] at d'; cases d'
  refine gg fun P hP => ?_
  obtain ⟨G, hGk, nLG, n3G, k7G, tabG⟩ : ∃ G : Heap, Kp G h₉ ∧ G.get? L = none ∧ G.get? (L + 3) = none ∧ Kp g7 G ∧ Tab1 G c := by
    refine ⟨hideAll h₉ ([L, L + 3] : List Nat), fun b o e => of_hideAll _ e, hideAll_none _ (.head _), hideAll_none _ (.tail _ (.head _)), fun b o e => ?_, fl tab₈.1 rfl, ?_⟩
    · refine hideAll_get _ (u₉ b o (ne_of_none nL7 e) (kg8 _ _ e)) fun hm => ?_
      simp only [List.mem_cons, List.not_mem_nil, or_false] at hm
      rcases hm with q | q
      · rw [q, nL7] at e; cases e
      · rw [q, n37] at e; cases e
    · obtain ⟨c', oc, vs, tq, e1, e2, e3, e4⟩ := tab₈.2
      exact ⟨c', oc, vs, tq, e1, fl e2 e3, e3, e4⟩
  refine hP ?_
  clear hP
  have XG := X7.keeps k7G
  have TG := T7.keeps k7G
  have k6G : Kp g6 G := fun b o e => k7G _ _ (k67 _ _ e)
  have lNG := lN6.keeps k6G
  have lKG : G.IsList Kr out.toList.toArray := lK6.elim fun o z => ⟨o, k6G _ _ z.1, z.2⟩
  have lOG := lO6.keeps k6G
  have lWG := lW6.keeps k6G
  have e1G : G.IsCell (L + 1) (some (.ref O)) := e16.keeps k6G
  have e2G : G.IsCell (L + 2) (some (.ref W)) := e26.keeps k6G
  have dDG := dD6.keep k6G
  have thG := th7.keeps k7G
  have lkaG := lka7.keeps k7G
  have kiG := ki7.keeps k7G
  have tab3G := tab7.keeps k7G
  clear fl nd u₉ s₉ n₈ p38 kg8 k₈ tab₈ p1437 p37 kg7 n₇ mm₇ lN6 lK6 lO6 lW6 e16 e26 th7 lka7 ki7 tab7 lC6
  -- both turned tapes
  refine S.execs_cons (sPair rfl rfl rfl rfl ?_)
  refine sCallF (s := { s with heap := h₉, toks := _ }) (Ev.global (Gl.of (XG.keeps hGk) (TG.keeps hGk) (by k_is)) rfl rfl rfl) (fun tk => sSplicedCons (S.any ((Ev.local n₉ (mm₉.at rfl) rfl rfl) { s with heap := h₉, toks := tk } _ _ rfl fun v tk₇ e => ?_))) rfl rfl rfl
  subst e
  refine sSplicedCons (S.any ((Ev.lenB (h := h₉) (b := B) (tb := tb) (Bi.of (XG.keeps hGk) (TG.keeps hGk) (by k_is) boot_len (by decide)) rfl rfl rfl rfl (Ev.local (x := "tape") n₉ (mm₉.at rfl) rfl rfl) (by omega)) { s with heap := h₉, toks := tk₇ } _ _ rfl fun v tk₈ e => ?_))
  obtain ⟨t5, rfl⟩ := e
  refine sSplicedNil ⟨FnO.of (XG.keeps hGk) (fn21 _), S.weaken (n := 700) (u := 5000) ?_ rfl (Nat.le_of_ble_eq_true rfl) rfl (Nat.le_of_ble_eq_true rfl)⟩
  refine swap_spec (q := 1) (wd := B.size) (XG.keeps hGk) (TG.keeps hGk) (by omega) (by omega) (by omega) (by omega) fun B1 tb1 h₁₀ tk₉ k₁₀ z1 r1 => ?_
  dsimp only at k₁₀
  have hB1 : KBw.bInts B1 = tapeC ns' (l.reverse.map swp) := by rw [swap_whole rfl z1 r1, hB, tape_rev]
  have hGk10 : Kp G h₁₀ := fun b o e => k₁₀ _ _ (hGk _ _ e)
  have n₁₀ := n₉.keeps k₁₀
  refine sCallF (s := { s with heap := h₁₀, toks := _ }) (Ev.global (Gl.of (XG.keeps hGk10) (TG.keeps hGk10) (by k_is)) rfl rfl rfl) (fun tk => sSplicedCons (S.any ((Ev.local n₁₀ (mm₉.at rfl) rfl rfl) { s with heap := h₁₀, toks := tk } _ _ rfl fun v tk₇ e => ?_))) rfl rfl rfl
  subst e
  refine sArgsCons (S.any (wpAny_Constant_int ?_))
  refine sSplicedNil ⟨FnO.of (XG.keeps hGk10) (fn21 _), S.weaken (n := 700) (u := 5000) ?_ rfl (Nat.le_of_ble_eq_true rfl) rfl (Nat.le_of_ble_eq_true rfl)⟩
  refine swap_spec (q := l.length) (wd := 3) (XG.keeps hGk10) (TG.keeps hGk10) (by rw [hBz, Nat.mul_comm]) (by decide) (by decide) (by omega) fun B2 tb2 h₁₁ tk₁₀ k₁₁ z2 r2 => ?_
  dsimp only at k₁₁
  have hB2 : KBw.bInts B2 = tapeC ns' (l.map swp) := swap_threes hB z2 r2
  refine ⟨m₉, n₁₀.keeps k₁₁, fun h₁₂ tk₁₂ k₁₂ n₁₂ => ?_⟩
  have mm₁₂ := (mm₉.set "threes" (.bytes B2 tb2) (by rfl) (by decide) (by decide)).set "whole" (.bytes B1 tb1) (by rfl) (by decide) (by decide)
  generalize (fun z : Str => if z = "whole" then some (Value.bytes B1 tb1) else if z = "threes" then some (Value.bytes B2 tb2) else m₉ z) = m₁₂ at n₁₂ mm₁₂
  have hGk12 : Kp G h₁₂ := fun b o e => k₁₂ b o (ne_of_none nLG e) (k₁₁ _ _ (hGk10 _ _ e))
  have p312 : h₁₂.IsCell (L + 3) none := by
    refine gg fun P hP => ?_
    obtain ⟨o, e, d⟩ := p39
    refine hP ?_
    clear hP
    exact ⟨o, k₁₂ _ _ (fun q => by have q' : @Eq Nat (L + 3) L := q; omega) (k₁₁ _ _ (k₁₀ _ _ e)), d⟩
  clear k₁₀ k₁₁ k₁₂ n₁₀ n₉ hGk hGk10 p39 r1 r2 mm₉
  -- both runs
  have lokR : ∀ x ∈ l.reverse.map swp, SOk x := fun x hx => by
    refine gg fun P hP => ?_
    obtain ⟨y, hy, rfl⟩ := List.mem_map.mp hx
    refine hP ?_
    clear hP
    exact SOk.swp (lok y (List.mem_reverse.mp hy))
  refine S.execs_cons (sPair rfl rfl rfl rfl (S.any ?_))
  refine gg fun P hP => ?_
  obtain ⟨oO, eO, dO⟩ := e1G
  obtain ⟨oW, eW, dW⟩ := e2G
  refine hP ?_
  clear hP
  refine callA (s := { s with heap := h₁₂, toks := _ }) (Ev.global (Gl.of (XG.keeps hGk12) (TG.keeps hGk12) (by k_is)) rfl rfl rfl) (fun tk => Calls.spliced_cons ((Ev.local n₁₂ (mm₁₂.at rfl) rfl rfl) { s with heap := h₁₂, toks := tk } _ _ rfl fun v tk₇ e => ?_)) rfl rfl
  subst e
  refine args_cons (wpAny_Constant_bool ?_)
  refine args_cons (Ev.go (s := s) (Ev.cell (hGk12 _ _ eO) dO rfl rfl rfl) fun tk₈ => ?_)
  refine args_cons (Ev.go (s := s) (Ev.local n₁₂ (mm₁₂.at rfl) rfl rfl) fun tk₉ => ?_)
  refine args_nil ⟨FnO.of (XG.keeps hGk12) (fn153 _), wpAny_weaken (n := 600) (u := 4000) ?_ rfl (Nat.le_of_ble_eq_true rfl) rfl (Nat.le_of_ble_eq_true rfl)⟩
  refine run_spec (l := l) (XG.keeps hGk12) (TG.keeps hGk12) ⟨iN, lNG.keeps hGk12⟩ N (lOG.keeps hGk12).isList iO one4 (fun x hx => SOk.stp (lok x hx)) (by omega) hB fun A1 av h₁₃ tk₁₃ k₁₃ fA lA iA => ?_
  simp only [Bool.false_eq_true, if_false] at iA
  dsimp only at k₁₃ fA
  have hGk13 : Kp G h₁₃ := fun b o e => k₁₃ _ _ (hGk12 _ _ e)
  have n₁₃ := n₁₂.keeps k₁₃
  refine S.any ?_
  refine callE (s := s) (n := 600) (u := 4000) (Ev.global (Gl.of (XG.keeps hGk13) (TG.keeps hGk13) (by k_is)) rfl rfl rfl) (.cons (Ev.local n₁₃ (mm₁₂.at rfl) rfl rfl) (.cons .bool (.cons (Ev.cell (hGk13 _ _ eW) dW rfl rfl rfl) (.cons (Ev.local n₁₃ (mm₁₂.at rfl) rfl rfl) .nil)))) (FnO.of (XG.keeps hGk13) (fn153 _)) rfl (Nat.le_of_ble_eq_true rfl) rfl (Nat.le_of_ble_eq_true rfl) rfl rfl fun tk₉ => ?_
  refine run_spec (l := l.reverse.map swp) (XG.keeps hGk13) (TG.keeps hGk13) ⟨iN, lNG.keeps hGk13⟩ N (lWG.keeps hGk13).isList iW two4 (fun x hx => SOk.stp (lokR x hx)) (by rw [List.length_map, List.length_reverse]; omega) hB1 fun A2 bv h₁₄ tk₁₄ k₁₄ fB lB iB => ?_
  simp only [Bool.false_eq_true, if_false] at iB
  dsimp only at k₁₄ fB
  refine ⟨m₁₂, n₁₃.keeps k₁₄, fun h₁₅ tk₁₅ k₁₅ n₁₅ => ?_⟩
  have mm₁₅ := (mm₁₂.set "turned" (.ref A2) (by rfl) (by decide) (by decide)).set "there" (.ref A1) (by rfl) (by decide) (by decide)
  generalize (fun z : Str => if z = "there" then some (Value.ref A1) else if z = "turned" then some (Value.ref A2) else m₁₂ z) = m₁₅ at n₁₅ mm₁₅
  have f_names := mm₁₅.at (n := "names") rfl
  have f_table := mm₁₅.at (n := "table") rfl
  have f_sheet := mm₁₅.at (n := "sheet") rfl
  have f_tape := mm₁₅.at (n := "tape") rfl
  have f_whole := mm₁₅.at (n := "whole") rfl
  have f_threes := mm₁₅.at (n := "threes") rfl
  have f_there := mm₁₅.at (n := "there") rfl
  have f_turned := mm₁₅.at (n := "turned") rfl
  have f_kept := mm₁₅.at (n := "kept") rfl
  have ne15 : ∀ {b : Nat} {xs : List Value}, h₁₄.IsList b xs.toArray → b ≠ L := fun {b xs} ⟨o, e, _, n, d⟩ q => by
    refine gg fun P hP => ?_
    obtain ⟨o', es, ep, e', d', _⟩ := n₁₃.keeps k₁₄
    refine hP ?_
    clear hP
    rw [show b = L from q, show h₁₄.get? L = some o' from e'] at e; cases e; rw [d] at d'; cases d'
  have lA' : h₁₄.IsList A1 av.toArray := lA.elim fun o z => ⟨o, k₁₄ _ _ z.1, z.2⟩
  have lA15 : h₁₅.IsList A1 av.toArray := lA'.elim fun o z => ⟨o, k₁₅ _ _ (ne15 lA') z.1, z.2⟩
  have lB15 : h₁₅.IsList A2 bv.toArray := lB.elim fun o z => ⟨o, k₁₅ _ _ (ne15 lB) z.1, z.2⟩
  have hGk15 : Kp G h₁₅ := fun b o e => k₁₅ b o (ne_of_none nLG e) (k₁₄ _ _ (hGk13 _ _ e))
  have p315 : h₁₅.IsCell (L + 3) none := by
    refine gg fun P hP => ?_
    obtain ⟨o, e, d⟩ := p312
    refine hP ?_
    clear hP
    exact ⟨o, k₁₅ _ _ (fun q => by have q' : @Eq Nat (L + 3) L := q; omega) (k₁₄ _ _ (k₁₃ _ _ e)), d⟩
  clear k₁₃ k₁₄ k₁₅ n₁₃ n₁₂ hGk12 hGk13 p312 lA lB lA' ne15 mm₁₂ fA fB
  -- the table
  refine gg fun P hP => ?_
  obtain ⟨M, hM⟩ : ∃ M, M = l.foldl matS idM := ⟨_, rfl⟩
  refine hP ?_
  clear hP
  have hMT : matT (some (i, d, j)) (K.mat idM) = M := by rw [hM, hl, List.foldl_append, ← Kids.mat_steps]; rfl
  refine S.stmt (wpAny_Assign_Name ?_)
  refine callE (s := s) (n := 500) (u := 3000) (Ev.global (Gl.of (XG.keeps hGk15) (TG.keeps hGk15) (by k_is)) rfl rfl rfl) (.cons (Ev.local n₁₅ (by with_reducible assumption) rfl rfl) (.cons (Ev.local n₁₅ (by with_reducible assumption) rfl rfl) .nil)) (FnO.of (XG.keeps hGk15) (fn168 _)) rfl (Nat.le_of_ble_eq_true rfl) rfl (Nat.le_of_ble_eq_true rfl) rfl rfl fun tk₈ => ?_
  refine table_all N 3 500 3000 (by decide) (by decide) { s with heap := h₁₅, toks := tk₈ } t ka 0 kvs "sheet" "" 1 (.str (stText ns' i d j) tt) (some (i, d, j)) K _ _ (XG.keeps hGk15) (TG.keeps hGk15) ⟨iN, lNG.keeps hGk15⟩ (thG.keeps hGk15) (lkaG.keeps hGk15) (kiG.keeps hGk15) hz1 hok (by omega) (by omega) ⟨⟨tt, rfl⟩, hi4, hd7, hj4, hij⟩ fun R h₁₆ tk₁₆ k₁₆ mR => ?_
  rw [hMT] at mR
  dsimp only at k₁₆
  refine wpAny_storeName_cell rfl rfl rfl (p315.keeps k₁₆) fun h₁₇ e₁₇ s₁₇ => ?_
  dsimp only
  have n3' : ∀ {b : Nat} {o : Obj}, h₁₆.get? b = some o → o.data ≠ .cell none → b ≠ L + 3 := fun {b o} e d q => by
    refine gg fun P hP => ?_
    obtain ⟨o', e', d'⟩ := p315.keeps k₁₆
    refine hP ?_
    clear hP
    rw [q, e'] at e; cases e; exact d d'
  have u₁₇ : ∀ b o, @Ne Nat b (L + 3) → h₁₆.get? b = some o → h₁₇.get? b = some o := fun b o hb e => s₁₇.extBut b o hb e
  have n₁₇ : h₁₇.Ns L m₁₅ := (n₁₅.keeps k₁₆).sameBut s₁₇ (show @Ne Nat L (L + 3) by omega)
  have ul : ∀ {b : Nat} {xs : List Value}, h₁₆.IsList b xs.toArray → h₁₇.IsList b xs.toArray := fun ⟨o, e, c, n, d⟩ => ⟨o, u₁₇ _ _ (n3' e fun q => by rw [d] at q; cases q) e, c, n, d⟩
  have m17 : MatAt h₁₇ (.ref R) M := mR.to ul
  have lA17 := ul (lA15.elim fun o z => ⟨o, k₁₆ _ _ z.1, z.2⟩)
  have lB17 := ul (lB15.elim fun o z => ⟨o, k₁₆ _ _ z.1, z.2⟩)
  have hGk17 : Kp G h₁₇ := fun b o e => u₁₇ b o (ne_of_none (n3G) e) (k₁₆ _ _ (hGk15 _ _ e))
  have nl17 : ∀ {b : Nat} {o : Obj}, h₁₇.get? b = some o → (∀ es n, o.data ≠ .dict es n) → b ∉ ([L] : List Nat) := fun {b o} e d hm => by
    refine gg fun P hP => ?_
    obtain ⟨o', es, ep, e', d', _⟩ := n₁₇
    refine hP ?_
    clear hP
    rw [List.mem_singleton.mp hm, show h₁₇.get? L = some o' from e'] at e; cases e; exact d _ _ d'
  have vl : ∀ {b : Nat} {xs : List Value}, h₁₇.IsList b xs.toArray → (hideAll h₁₇ ([L] : List Nat)).IsList b xs.toArray := fun ⟨o, e, c, n, d⟩ => ⟨o, hideAll_get _ e (nl17 e fun _ _ q => by rw [d] at q; cases q), c, n, d⟩
  refine gg fun P hP => ?_
  obtain ⟨G8, hk8, nL8, kG8, lA8, lB8, m8, oR, eR, dR⟩ : ∃ G8 : Heap, Kp G8 h₁₇ ∧ G8.get? L = none ∧ Kp G G8 ∧ G8.IsList A1 av.toArray ∧ G8.IsList A2 bv.toArray ∧ MatAt G8 (.ref R) M ∧ ∃ oR, G8.get? (L + 3) = some oR ∧ oR.data = .cell (some (.ref R)) := by
    obtain ⟨oR, eR, dR⟩ := e₁₇
    exact ⟨hideAll h₁₇ ([L] : List Nat), fun b o e => of_hideAll _ e, hideAll_none _ (.head _), fun b o e => hideAll_get _ (hGk17 _ _ e) fun hm => (by rw [List.mem_singleton.mp hm, nLG] at e; cases e), vl lA17, vl lB17, m17.to vl, oR, hideAll_get _ eR (nl17 eR fun _ _ q => by rw [dR] at q; cases q), dR⟩
  refine hP ?_
  clear hP
  have X8 := XG.keeps kG8
  have T8 := TG.keeps kG8
  have k68 : Kp g6 G8 := fun b o e => kG8 _ _ (k6G _ _ e)
  replace lNG := lNG.keeps kG8
  replace lKG : G8.IsList Kr out.toList.toArray := lKG.elim fun o z => ⟨o, kG8 _ _ z.1, z.2⟩
  replace lOG := lOG.keeps kG8
  replace lWG := lWG.keeps kG8
  replace eO := kG8 _ _ eO
  replace eW := kG8 _ _ eW
  replace dDG := dDG.keep kG8
  replace thG := thG.keeps kG8
  replace lkaG := lkaG.keeps kG8
  replace kiG := kiG.keeps kG8
  replace tab3G := tab3G.keeps kG8
  replace tabG := tabG.keeps kG8
  clear vl nl17 ul n3' u₁₇ s₁₇ e₁₇ mR k₁₆ m17 lA17 lB17 hGk17 lA15 lB15 hGk15 p315 n₁₅
  -- the two sums
  have hbit : ∀ i k, i < 4 → k < 4 → Builtin.Int.intBits (M i k) ≤ 64 := by
    intro i' k' hi' hk'
    have b1 : BdM 1 idM := fun a b _ _ => by unfold idM; split <;> simp
    have b2 := Kids.mat_bd ns' hok b1
    have b3 := stepE_bd (a := i) (b := j) (d := d) hj4 hd7 b2 i' k' hi' hk'
    have e : stepE (K.mat idM) i j ((d : Int) - 3) = M := hMT
    rw [e] at b3
    refine bits_small (Nat.lt_of_le_of_lt b3 ?_)
    have p16 : 4 ^ (K.texts ns').length ≤ 4 ^ 16 := Nat.pow_le_pow_right (by decide) hz3
    have : (4 : Nat) ^ 16 * 4 < 2 ^ 60 := by decide
    omega
  have bR : Bi G8 "range" (.type "range") := Bi.of X8 T8 (by k_is) boot_range (by decide)
  have bS : Bi G8 "sum" (.builtin "sum") := Bi.of X8 T8 (by k_is) (by decide +kernel) (by decide)
  refine S.stmt (wpAny_If (wpAny_isTrue_Compare1 (Ev.go (s := s) (Ev.local n₁₇ (by with_reducible assumption) rfl rfl) fun tk => ?_)))
  refine comp_cell (s := { s with heap := h₁₇, toks := tk }) (n := 4) (h₀ := G8) (G := fun i v g => ∃ t, v = .int (dot4 fun k => M i k * one.getD k 0) t) rfl (by decide) (by decide) (by decide) hk8 rfl rfl (by decide) rfl (fun _ => rfl) (fun _ => rfl) ?_ ?_ ?_
  · exact Ev_rangeC (bR.keeps hk8) rfl rfl rfl rfl
  · intro i' C' c' m' h₂ t' tk' hi' hC' hc' F₂ N₂
    have k₂ : Kp G8 h₂ := fun b o e => F₂.keep b o (hk8 b o e)
    have cr := (N₂ _ (.head _)).1
    refine Ev_sumcomp (f := fun k => M i' k * one.getD k 0) rfl (bS.keeps k₂) rfl rfl rfl rfl (fun tk' Q' hQ' => ?_) fun h' tk t k => ⟨_, _, rfl, k, fun _ _ => ⟨_, rfl⟩⟩
    refine comp_local (s := { s with heap := h₂, toks := tk' }) (n := 4) (h₀ := G8) (G := fun k v g => ∃ t, v = .int (M i' k * one.getD k 0) t) rfl (by decide) (by decide) (by decide) k₂ rfl rfl (by decide) rfl (fun _ => rfl) (fun _ => rfl) ?_ ?_ ?_
    · exact Ev_rangeC (bR.keeps k₂) rfl rfl rfl rfl
    · intro k C₄ m₄ h₄ t₄ tk₄ hk hC₄ F₄ hm₄
      have k₄ : Kp G8 h₄ := fun b o e => F₄.keep b o (k₂ b o e)
      refine Ev.mul (h := h₄) (a := M i' k) (b := one.getD k 0) ?_ ?_ (IntMulOk.of_left (hbit i' k hi' hk)) _ _ _ rfl fun v tk ⟨t, e⟩ => ⟨_, _, rfl, fun _ _ e => e, fun _ _ => ⟨t, e⟩⟩
      · exact Ev.mat (m8.keeps k₄) (Ev.cell (k₄ _ _ eR) dR rfl rfl rfl) ((Ev.cell (F₄.keep _ _ cr) rfl rfl rfl rfl).mono fun v e => ⟨_, e⟩) ((Ev.local F₄.ns hm₄ rfl rfl).mono fun v e => ⟨_, e⟩) hi' hk
      · exact Ev.ints (Ev.cell (k₄ _ _ eO) dO rfl rfl rfl) ((Ev.local F₄.ns hm₄ rfl rfl).mono fun v e => ⟨_, e⟩) (lOG.keeps k₄).isList iO one4 hk
    · intro D' h' tk ys k hD e hl hg
      exact hQ' D' h' tk ys k (isList_of e) (intsAre4 hl (hg _ Sup.refl))
  intro D1 h₁₈ tk₁₈ ys k₁₈ zD e hyl hyg
  have iy : IntsAre ys (vec M one) := intsAre4 hyl (hyg _ Sup.refl)
  dsimp only at k₁₈
  have hk18 : Kp G8 h₁₈ := fun b o e => k₁₈ _ _ (hk8 _ _ e)
  refine ne_intsK (lA8.elim fun o z => ⟨o, hk18 _ _ z.1, z.2⟩) iA (isList_of e) iy (Nat.le_of_ble_eq_true rfl) ?_
  rw [run_there lok one4, ← hM, decide_eq_true rfl]
  refine wpAny_truthy_bool ?_
  simp only [Bool.not_true, Bool.false_eq_true, if_false]
  refine wpAny_execs_nil ?_
  have n₁₈ := n₁₇.keeps k₁₈
  refine S.stmt (wpAny_If (wpAny_isTrue_Compare1 (Ev.go (s := s) (Ev.local n₁₈ (by with_reducible assumption) rfl rfl) fun tk => ?_)))
  refine comp_cell (s := { s with heap := h₁₈, toks := tk }) (n := 4) (h₀ := G8) (G := fun i v g => ∃ t, v = .int (dot4 fun k => M k i * two.getD k 0) t) rfl (by decide) (by decide) (by decide) hk18 rfl rfl (by decide) rfl (fun _ => rfl) (fun _ => rfl) ?_ ?_ ?_
  · exact Ev_rangeC (bR.keeps hk18) rfl rfl rfl rfl
  · intro i' C' c' m' h₂ t' tk' hi' hC' hc' F₂ N₂
    have k₂ : Kp G8 h₂ := fun b o e => F₂.keep b o (hk18 b o e)
    have cr := (N₂ _ (.head _)).1
    refine Ev_sumcomp (f := fun k => M k i' * two.getD k 0) rfl (bS.keeps k₂) rfl rfl rfl rfl (fun tk' Q' hQ' => ?_) fun h' tk t k => ⟨_, _, rfl, k, fun _ _ => ⟨_, rfl⟩⟩
    refine comp_local (s := { s with heap := h₂, toks := tk' }) (n := 4) (h₀ := G8) (G := fun k v g => ∃ t, v = .int (M k i' * two.getD k 0) t) rfl (by decide) (by decide) (by decide) k₂ rfl rfl (by decide) rfl (fun _ => rfl) (fun _ => rfl) ?_ ?_ ?_
    · exact Ev_rangeC (bR.keeps k₂) rfl rfl rfl rfl
    · intro k C₄ m₄ h₄ t₄ tk₄ hk hC₄ F₄ hm₄
      have k₄ : Kp G8 h₄ := fun b o e => F₄.keep b o (k₂ b o e)
      refine Ev.mul (h := h₄) (a := M k i') (b := two.getD k 0) ?_ ?_ (IntMulOk.of_left (hbit k i' hk hi')) _ _ _ rfl fun v tk ⟨t, e⟩ => ⟨_, _, rfl, fun _ _ e => e, fun _ _ => ⟨t, e⟩⟩
      · exact Ev.mat (m8.keeps k₄) (Ev.cell (k₄ _ _ eR) dR rfl rfl rfl) ((Ev.local F₄.ns hm₄ rfl rfl).mono fun v e => ⟨_, e⟩) ((Ev.cell (F₄.keep _ _ cr) rfl rfl rfl rfl).mono fun v e => ⟨_, e⟩) hk hi'
      · exact Ev.ints (Ev.cell (k₄ _ _ eW) dW rfl rfl rfl) ((Ev.local F₄.ns hm₄ rfl rfl).mono fun v e => ⟨_, e⟩) (lWG.keeps k₄).isList iW two4 hk
    · intro D' h' tk ys k hD e hl hg
      exact hQ' D' h' tk ys k (isList_of e) (intsAre4 hl (hg _ Sup.refl))
  intro D2 h₁₉ tk₁₉ ys' k₁₉ zD' e' hyl' hyg'
  have iy' : IntsAre ys' (vecT M two) := intsAre4 hyl' (hyg' _ Sup.refl)
  dsimp only at k₁₉
  have hk19 : Kp G8 h₁₉ := fun b o e => k₁₉ _ _ (hk18 _ _ e)
  refine ne_intsK (lB8.elim fun o z => ⟨o, hk19 _ _ z.1, z.2⟩) iB (isList_of e') iy' (Nat.le_of_ble_eq_true rfl) ?_
  rw [run_turned lok two4, ← hM, decide_eq_true rfl]
  refine wpAny_truthy_bool ?_
  simp only [Bool.not_true, Bool.false_eq_true, if_false]
  refine wpAny_execs_nil ?_
  have n₁₉ := n₁₈.keeps k₁₉
  clear k₁₈ k₁₉ hk8 hk18 n₁₇ n₁₈ iy iy' hyg hyg' e e'
  -- back again
  have swsw : (l.reverse.map swp).map swp = l.reverse := by rw [List.map_map]; exact List.map_id'' (fun x => rfl) _
  have lokV : ∀ x ∈ l.reverse, SOk x := fun x hx => lok x (List.mem_reverse.mp hx)
  have lokS : ∀ x ∈ l.map swp, SOk x := fun x hx => by
    refine gg fun P hP => ?_
    obtain ⟨y, hy, rfl⟩ := List.mem_map.mp hx
    refine hP ?_
    clear hP
    exact SOk.swp (lok y hy)
  have lrev : (l.reverse.map swp).length = l.length := by rw [List.length_map, List.length_reverse]
  refine S.execs_cons (sIf (sIsTrue_or (sCompare1 ?_)))
  refine sCallF (s := { s with heap := h₁₉, toks := _ }) (Ev.global (Gl.of (X8.keeps hk19) (T8.keeps hk19) (by k_is)) rfl rfl rfl) (fun tk => sSplicedCons ?_) rfl rfl rfl
  refine sCallF (s := { s with heap := h₁₉, toks := tk }) (Ev.global (Gl.of (X8.keeps hk19) (T8.keeps hk19) (by k_is)) rfl rfl rfl) (fun tk => sSplicedCons (S.any ((Ev.local n₁₉ (by with_reducible assumption) rfl rfl) { s with heap := h₁₉, toks := tk } _ _ rfl fun v tk₇ e => ?_))) rfl rfl rfl
  subst e
  refine sArgsCons (S.any (wpAny_Constant_int ?_))
  refine sSplicedNil ⟨FnO.of (X8.keeps hk19) (fn21 _), S.weaken (n := 700) (u := 5000) ?_ rfl (Nat.le_of_ble_eq_true rfl) rfl (Nat.le_of_ble_eq_true rfl)⟩
  refine swap_spec (q := l.length) (wd := 3) (X8.keeps hk19) (T8.keeps hk19) (by rw [z1, hBz, Nat.mul_comm]) (by decide) (by decide) (by omega) fun B3 tb3 h₂₀ tk₂₀ k₂₀ z3 r3 => ?_
  dsimp only at k₂₀
  have hB3 : KBw.bInts B3 = tapeC ns' l.reverse := by
    rw [swap_threes hB1 z3 (by rw [lrev]; exact r3), swsw]
  have hk20 : Kp G8 h₂₀ := fun b o e => k₂₀ _ _ (hk19 _ _ e)
  have n₂₀ := n₁₉.keeps k₂₀
  refine sArgsCons (S.any (wpAny_Constant_bool ?_))
  refine sArgsCons (S.any (Ev.go (s := s) (Ev.local n₂₀ (by with_reducible assumption) rfl rfl) fun tk₈ => ?_))
  refine sArgsCons (S.any (Ev.go (s := s) (Ev.local n₂₀ (by with_reducible assumption) rfl rfl) fun tk₉ => ?_))
  refine sSplicedNil ⟨FnO.of (X8.keeps hk20) (fn153 _), S.any (wpAny_weaken (n := 600) (u := 4000) ?_ rfl (Nat.le_of_ble_eq_true rfl) rfl (Nat.le_of_ble_eq_true rfl))⟩
  refine run_spec (l := l.reverse) (X8.keeps hk20) (T8.keeps hk20) ⟨iN, lNG.keeps hk20⟩ N (lA8.elim fun o z => ⟨o, hk20 _ _ z.1, z.2⟩) iA (by rw [rowStep_len, one4]) (fun x hx => SOk.stp (lokV x hx)) (by rw [List.length_reverse]; omega) hB3 fun A3 cv h₂₁ tk₂₁ k₂₁ fC lC3 iC3 => ?_
  simp only [if_true] at iC3
  rw [run_back lok one4] at iC3
  dsimp only at k₂₁
  have hk21 : Kp G8 h₂₁ := fun b o e => k₂₁ _ _ (hk20 _ _ e)
  have n₂₁ := n₂₀.keeps k₂₁
  refine S.any (Ev.go (s := s) (Ev.cell (hk21 _ _ eO) dO rfl rfl rfl) fun tk₈ => ?_)
  refine S.any (ne_intsK lC3 iC3 (lOG.keeps hk21).isList iO (Nat.le_of_ble_eq_true rfl) ?_)
  rw [decide_eq_true rfl]
  refine S.any (wpAny_truthy_bool ?_)
  simp only [Bool.not_true, Bool.false_eq_true, if_false]
  refine S.any (isTrue_or (wpAny_isTrue_Compare1 ?_))
  refine callE (s := s) (n := 600) (u := 4000) (Ev.global (Gl.of (X8.keeps hk21) (T8.keeps hk21) (by k_is)) rfl rfl rfl) (.cons (Ev.local n₂₁ (by with_reducible assumption) rfl rfl) (.cons .bool (.cons (Ev.local n₂₁ (by with_reducible assumption) rfl rfl) (.cons (Ev.local n₂₁ (by with_reducible assumption) rfl rfl) .nil)))) (FnO.of (X8.keeps hk21) (fn153 _)) rfl (Nat.le_of_ble_eq_true rfl) rfl (Nat.le_of_ble_eq_true rfl) rfl rfl fun tk₉ => ?_
  refine run_spec (l := l.map swp) (X8.keeps hk21) (T8.keeps hk21) ⟨iN, lNG.keeps hk21⟩ N (lB8.elim fun o z => ⟨o, hk21 _ _ z.1, z.2⟩) iB (by rw [rowStep_len, two4]) (fun x hx => SOk.stp (lokS x hx)) (by rw [List.length_map]; omega) hB2 fun A4 dv h₂₂ tk₂₂ k₂₂ fD lD4 iD4 => ?_
  simp only [if_true] at iD4
  have back := run_back lokR two4
  rw [← List.map_reverse, List.reverse_reverse] at back
  rw [back] at iD4
  dsimp only at k₂₂
  have hk22 : Kp G8 h₂₂ := fun b o e => k₂₂ _ _ (hk21 _ _ e)
  have n₂₂ := n₂₁.keeps k₂₂
  refine Ev.go (s := s) (Ev.cell (hk22 _ _ eW) dW rfl rfl rfl) fun tk₈ => ?_
  refine ne_intsK lD4 iD4 (lWG.keeps hk22).isList iW (Nat.le_of_ble_eq_true rfl) ?_
  rw [decide_eq_true rfl]
  refine wpAny_truthy_bool ?_
  simp only [Bool.not_true, Bool.false_eq_true, if_false]
  refine isTrue_or_nil ?_
  simp only [Bool.false_eq_true, if_false]
  refine S.any (wpAny_execs_nil ?_)
  clear k₂₀ k₂₁ k₂₂ hk19 hk20 hk21 n₁₉ n₂₀ n₂₁ back iC3 iD4 lC3 lD4 fC fD z3 r3 hB3 lokV lokS swsw
  -- the mirror
  refine S.stmt (wpAny_If (wpAny_isTrue_Compare1 (Ev.go (s := s) (Ev.local n₂₂ (by with_reducible assumption) rfl rfl) fun tk => ?_)))
  refine callA (s := { s with heap := h₂₂, toks := tk }) (Ev.global (Gl.of (X8.keeps hk22) (T8.keeps hk22) (by k_is)) rfl rfl rfl) (fun tk => Calls.spliced_cons ?_) rfl rfl
  refine callA (s := { s with heap := h₂₂, toks := tk }) (Ev.global (Gl.of (X8.keeps hk22) (T8.keeps hk22) (by k_is)) rfl rfl rfl) (fun tk => Calls.spliced_cons ((Ev.local n₂₂ (by with_reducible assumption) rfl rfl) { s with heap := h₂₂, toks := tk } _ _ rfl fun v tk₇ e => ?_)) rfl rfl
  subst e
  refine args_cons ?_
  refine callA (s := { s with heap := h₂₂, toks := tk₇ }) (Ev.global (Gl.of (X8.keeps hk22) (T8.keeps hk22) (by k_is)) rfl rfl rfl) (fun tk => ?_) rfl rfl
  refine Calls.spliced_cons ?_
  rw [if_neg Bool.false_ne_true]
  refine wpAny_Constant_str ?_
  refine args_cons (dictLit fun D' h₂₃ tk₂₃ u1 u2 zD2 dD2 k₂₃ => ?_)
  dsimp only at zD2 k₂₃
  have hk23 : Kp G8 h₂₃ := fun b o e => k₂₃ _ _ (hk22 _ _ e)
  refine args_nil ⟨FnO.of (X8.keeps hk23) (fn113 _), wpAny_weaken (n := 700) (u := 5000) ?_ rfl (Nat.le_of_ble_eq_true rfl) rfl (Nat.le_of_ble_eq_true rfl)⟩
  refine thing_spec2 X6 T6 (fun b o e => hk23 _ _ (k68 _ _ e)) (tab3G.keeps hk23) n108 dD2 fun t' ka' gT h₂₄ tk₂₄ k₂₄ kgT nlT nwT sT lka' zka' zt' => ?_
  dsimp only at k₂₄ zka' zt'
  have hk24 : Kp G8 h₂₄ := fun b o e => k₂₄ _ _ (hk23 _ _ e)
  have n₂₄ := (n₂₂.keeps k₂₃).keeps k₂₄
  refine args_cons (Ev.go (s := s) (Ev.local n₂₄ (by with_reducible assumption) rfl rfl) fun tk₉ => ?_)
  refine args_nil ⟨FnO.of (X8.keeps hk24) (fn141 _), wpAny_weaken (n := 500) (u := 3000) ?_ rfl (Nat.le_of_ble_eq_true rfl) rfl (Nat.le_of_ble_eq_true rfl)⟩
  have nka : G8.get? ka' = none := by
    cases q : G8.get? ka' with
    | none => rfl
    | some o => exact absurd (Heap.lt_size (hk23 _ _ q)) (Nat.not_lt.mpr zka')
  have n6ka : g6.get? ka' = none := by
    cases q : g6.get? ka' with
    | none => rfl
    | some o => rw [k68 _ _ q] at nka; cases nka
  have th' : Th prog w h₂₄ t' "sheet" "" 1 .none ka' := ⟨gT, D', u1, u2, sT, kgT, nlT, dD2.keep k₂₄⟩
  have kaka : @Ne Nat ka ka' := Nat.ne_of_lt (Nat.lt_of_lt_of_le (lkaG.keeps hk23).lt zka')
  have kiV : KidsIn prog w ns' h₂₄ (fun a => @LT.lt Nat _ a h₂₃.objs.size) kvs K := ((kiG.keeps hk23).toIn).keeps k₂₄
  refine mir_all X6 T6 n108 dD6 hDs 3 500 3000 (by decide) (by decide) { s with heap := h₂₄, toks := tk₉ } t ka t' ka' kvs [] "sheet" "" "sheet" "" 1 1 (.str (stText ns' i d j) tt) .none (some (i, d, j)) K (fun a => @LT.lt Nat _ a h₂₃.objs.size) t1' t2' t3' _ _ (fun b o e => hk24 _ _ (k68 _ _ e)) n6ka (tab3G.keeps hk24) (thG.keeps hk24) (lkaG.keeps hk24) kiV kaka (Nat.not_lt.mpr zka') th' lka' (Nat.zero_le _) hz1 (by omega) ⟨⟨tt, rfl⟩, hi4, hd7, hj4, hij⟩ fun mws h₂₅ tk₂₅ u₂₅ l₂₅ ki₂₅ => ?_
  rw [List.nil_append] at l₂₅
  have kaL : @Ne Nat L ka' := (lka'.neNs n₂₄).symm
  have n₂₅ : h₂₅.Ns L m₁₅ := n₂₄.at' fun o e => u₂₅ _ o kaL e
  have hk25 : Kp G8 h₂₅ := fun b o e => u₂₅ b o (ne_of_none nka e) (hk24 _ _ e)
  have th25 := th'.upd u₂₅ lka'.mut
  have st' := Kids.mirT_steps K (i, d, j)
  rw [← hl] at st'
  have tx' : (Kids.mirT (some (i, d, j)) K).texts ns' ++ tailT .none = (l.reverse.map swp).map (stT ns') := by
    rw [Kids.texts_steps, st']; exact List.append_nil _
  have cd' : ((Kids.mirT (some (i, d, j)) K).texts ns' ++ tailT .none).flatMap codesOf = tapeC ns' (l.reverse.map swp) := by rw [tx']; exact codes_tape N lokR
  have hdep' : (Kids.mirT (some (i, d, j)) K).dep ≤ 3 := by
    simp only [Kids.mirT, Kids.app_dep, Kids.mir_dep, Kids.dep]; omega
  have hsz' : (Kids.mirT (some (i, d, j)) K).sz ≤ 300 := by
    simp only [Kids.mirT, Kids.app_sz, Kids.mir_sz, Kids.sz]; omega
  have htx' : ((Kids.mirT (some (i, d, j)) K).texts ns').length ≤ 300 := by
    rw [Kids.texts_steps, st', List.length_map, lrev]; omega
  dsimp only
  refine args_nil ⟨FnO.of (X8.keeps hk25) (fn146 _), wpAny_weaken (n := 480) (u := 2900) ?_ rfl (Nat.le_of_ble_eq_true rfl) rfl (Nat.le_of_ble_eq_true rfl)⟩
  refine tape_spec2 X6 T6 (fun b o e => hk25 _ _ (k68 _ _ e)) (tabG.keeps hk25) n143 hg th25 l₂₅ ki₂₅.at hdep' htx' hsz' (.inl rfl) (fun x hx => ?_) (by rw [cd']; exact tape_lim N lokR) fun h₂₆ tk₂₆ tb4 k₂₆ => ?_
  · rw [tx'] at hx
    refine gg fun P hP => ?_
    obtain ⟨y, _, rfl⟩ := List.mem_map.mp hx
    refine hP ?_
    clear hP
    exact Nat.le_refl 3
  rw [cd']
  dsimp only at k₂₆
  have hk26 : Kp G8 h₂₆ := fun b o e => k₂₆ _ _ (hk25 _ _ e)
  have n₂₆ := n₂₅.keeps k₂₆
  refine ne_bytes ?_
  rw [bInts_inj (hB1.trans (bInts_of (tape_lim N lokR)).symm)]
  refine wpAny_truthy_bool ?_
  simp only [bne_self_eq_false, Bool.false_eq_true, if_false]
  refine wpAny_execs_nil ?_
  have bI : Bi h₂₆ "isinstance" (.builtin "isinstance") := (Bi.of X8 T8 (by k_is) (by decide +kernel) (by decide)).keeps hk26
  have bB : Bi h₂₆ "bytes" (.type "bytes") := (Bi.of X8 T8 (by k_is) (by decide +kernel) (by decide)).keeps hk26
  refine S.stmt (wpAny_If (isTrue_or (testInst (s := { s with heap := h₂₆, toks := _ }) bI bB rfl rfl rfl rfl rfl (Ev.local n₂₆ (by with_reducible assumption) rfl rfl) fun tk => ?_)))
  simp only [Bool.false_eq_true, if_false]
  refine isTrue_or (testInst (s := { s with heap := h₂₆, toks := tk }) bI bB rfl rfl rfl rfl rfl (Ev.local n₂₆ (by with_reducible assumption) rfl rfl) fun tk => ?_)
  simp only [Bool.false_eq_true, if_false]
  refine isTrue_or (wpAny_isTrue_Compare1 (Ev.go (s := s) (Ev.local n₂₆ (by with_reducible assumption) rfl rfl) fun tk₂ => ?_))
  refine Ev.go (s := s) (Ev.local n₂₆ (by with_reducible assumption) rfl rfl) fun tk₃ => ?_
  refine ne_intsK (lNG.keeps hk26).isList iN (lKG.elim fun o z => ⟨o, hk26 _ _ z.1, z.2⟩) io (Nat.le_of_ble_eq_true rfl) ?_
  rw [decide_eq_true rfl]
  refine wpAny_truthy_bool ?_
  simp only [Bool.not_true, Bool.false_eq_true, if_false]
  refine isTrue_or (wpAny_isTrue_Compare1 (Ev.go (s := s) (Ev.local n₂₆ (by with_reducible assumption) rfl rfl) fun tk₄ => ?_))
  refine dictLit fun Dz h₂₇ tk₂₇ w1 w2 zDz dDz k₂₇ => ?_
  dsimp only at zDz k₂₇
  have hk27 : Kp G8 h₂₇ := fun b o e => k₂₇ _ _ (hk26 _ _ e)
  have hDz : (Dz == sysModules) = false := beq_eq_false_iff_ne.mpr (Nat.ne_of_gt (Nat.lt_of_lt_of_le (modules_low (Top.nolimit (T8.keeps hk26))) zDz))
  refine neDict hDs hDz (dDG.keep hk27) dDz (Nat.le_of_ble_eq_true rfl) ?_
  refine wpAny_truthy_bool ?_
  simp only [Bool.false_eq_true, if_false]
  refine isTrue_or_nil ?_
  simp only [Bool.false_eq_true, if_false]
  refine wpAny_execs_nil ?_
  have n₂₇ := n₂₆.keeps k₂₇
  -- the last line
  have hKz : K.sz ≠ 0 := by
    have e2 := sv.zl
    simp only [Kids.zl, if_true] at e2
    omega
  refine gg fun P hP => ?_
  obtain ⟨tc, kvs', mc, tgc, ttc, hkv, fnc, tagc⟩ := kidsHead kiG hKz
  obtain ⟨ms, tts, fns, tags, kidss⟩ := thG.fn
  refine hP ?_
  clear hP
  have isf : ∀ {h : Heap}, Kp G8 h → Gl h "iselement" (.ref 90) := fun k => Gl.of (X8.keeps k) (T8.keeps k) (by k_is)
  refine S.stmt (wpAny_Return_some (BoolOp_and (wpAny_Compare1 ?_)))
  refine callE (s := s) (n := 690) (u := 4990) (Ev.global (isf hk27) rfl rfl rfl) (.cons (Ev.local n₂₇ (by with_reducible assumption) rfl rfl) .nil) (FnO.of (X8.keeps hk27) (fn90 _)) rfl (Nat.le_of_ble_eq_true rfl) rfl (Nat.le_of_ble_eq_true rfl) rfl rfl fun tk₇ => ?_
  refine isel_fn (X8.keeps hk27) (T8.keeps hk27) (fns.keeps hk27) tags trivial fun h₂₈ tk₂₈ k₂₈ => ?_
  dsimp only at k₂₈
  have hk28 : Kp G8 h₂₈ := fun b o e => k₂₈ _ _ (hk27 _ _ e)
  have n₂₈ := n₂₇.keeps k₂₈
  refine wpAny_Constant_bool (is_bool (wpAny_truthy_bool ?_))
  simp only [beq_self_eq_true, if_true]
  refine BoolOp_and (wpAny_Compare1 ?_)
  refine callE (s := s) (n := 690) (u := 4990) (Ev.global (isf hk28) rfl rfl rfl) (.cons ((Ev.sub (i := 0) (ys := kvs) (Ev.attr (Ev.local n₂₈ (by with_reducible assumption) rfl rfl) (fns.keeps hk28) kidss trivial tl_kids) Ev.int (lkaG.keeps hk28).isList (by rw [hkv]; exact Nat.succ_pos _) (by decide)).mono fun v e => e.trans (show kvs.getD 0 .none = .ref tc by rw [hkv]; rfl)) .nil) (FnO.of (X8.keeps hk28) (fn90 _)) rfl (Nat.le_of_ble_eq_true rfl) rfl (Nat.le_of_ble_eq_true rfl) rfl rfl fun tk₇ => ?_
  refine isel_fn (X8.keeps hk28) (T8.keeps hk28) (fnc.keeps hk28) tagc trivial fun h₂₉ tk₂₉ k₂₉ => ?_
  dsimp only at k₂₉
  have hk29 : Kp G8 h₂₉ := fun b o e => k₂₉ _ _ (hk28 _ _ e)
  have n₂₉ := n₂₈.keeps k₂₉
  refine wpAny_Constant_bool (is_bool (wpAny_truthy_bool ?_))
  simp only [beq_self_eq_true, if_true]
  refine BoolOp_and (wpAny_Compare1 ?_)
  refine callE (s := s) (n := 690) (u := 4990) (Ev.global (isf hk29) rfl rfl rfl) (.cons (Ev.local n₂₉ (by with_reducible assumption) rfl rfl) .nil) (FnO.of (X8.keeps hk29) (fn90 _)) rfl (Nat.le_of_ble_eq_true rfl) rfl (Nat.le_of_ble_eq_true rfl) rfl rfl fun tk₇ => ?_
  refine isel_dict (X8.keeps hk29) (T8.keeps hk29) hg (dDG.keep hk29) fun h₃₀ tk₃₀ k₃₀ => ?_
  dsimp only at k₃₀
  have hk30 : Kp G8 h₃₀ := fun b o e => k₃₀ _ _ (hk29 _ _ e)
  have n₃₀ := n₂₉.keeps k₃₀
  refine wpAny_Constant_bool (is_bool (wpAny_truthy_bool ?_))
  simp only [beq_self_eq_true, if_true]
  refine BoolOp_one (wpAny_Compare1 ?_)
  refine callE (s := s) (n := 690) (u := 4990) (Ev.global (isf hk30) rfl rfl rfl) (.cons (Ev.local n₃₀ (by with_reducible assumption) rfl rfl) .nil) (FnO.of (X8.keeps hk30) (fn90 _)) rfl (Nat.le_of_ble_eq_true rfl) rfl (Nat.le_of_ble_eq_true rfl) rfl rfl fun tk₇ => ?_
  refine isel_bytes (X8.keeps hk30) (T8.keeps hk30) hg fun h₃₁ tk₃₁ k₃₁ => ?_
  dsimp only at k₃₁
  have hk31 : Kp G8 h₃₁ := fun b o e => k₃₁ _ _ (hk30 _ _ e)
  refine wpAny_Constant_bool (is_bool ?_)
  exact ret _ _ (fun b o e => hk31 _ _ (k68 _ _ e)) ⟨_, hk31 _ _ tab3G.1⟩ ⟨_, hk31 _ _ tabG.1⟩
theorem law_spec {prog : Program} {w : World} {p loose mean mg mb} {s : Shared} {b₀ : Heap} {a : Addr} {vs : List Value} {xs : List Int} {Q E : Value → Shared → Prop}
    (X : (hd.heap_1 w.params).In b₀) (T : Top p loose mean mg mb b₀) (k₀ : Kp b₀ s.heap) (h108 : s.heap.get? 108 = some (tabObj #[])) (n108 : b₀.get? 108 = none) (h143 : s.heap.get? 143 = some (tabObj #[])) (n143 : b₀.get? 143 = none) (hg : s.gens = #[])
    (hl : b₀.IsList a vs.toArray) (hi : IntsAre vs xs) (hn : vs.length ≤ 63)
    (ret : ∀ h' tk', (∀ b o, b ≠ 108 → b ≠ 143 → s.heap.get? b = some o → h'.get? b = some o) → (∃ vs, h'.get? 108 = some (tabObj vs)) → (∃ vs, h'.get? 143 = some (tabObj vs)) → Q (.bool true) { s with heap := h', toks := tk' }) :
    wpS (model prog w) (AX 310 2000) (call (.ref 180) [.ref a]) Q E s := by
  have X' := X.keeps k₀
  have T' := T.keeps k₀
  refine' sEnter X' (Top.nolimit T') ?k6 ?k7 ?k8 ?k9 ?kB ?kD ?_ ?c2 ?c3 ?c4
  (case k6 => k_is)
  (case k7 => k_is)
  (case k8 => decide)
  (case k9 => exact BindsTo.of_eq rfl)
  (case kB => exact rfl)
  (case kD => decide +kernel)
  (case c2 => exact rfl)
  (case c3 => exact rfl)
  (case c4 => exact rfl)
  intro L h₁ tk₁ cells hL F N Y
  k_cells Y
  (try dsimp only)
  have k₁ := F.keep
  obtain ⟨m₁, n₁, mm₁⟩ : ∃ m₁, h₁.Ns L m₁ ∧ MM m₁ [("script", .ref a)] := ⟨_, F.ns, fun p hp => by rw [List.mem_singleton.mp hp]; rfl, rfl, rfl⟩
  have c3 : h₁.IsCell (L + 3) none := ⟨_, (N _ (.head _)).1, by assumption⟩
  have c2 : h₁.IsCell (L + 2) none := ⟨_, (N _ (.tail _ (.head _))).1, by assumption⟩
  have c1 : h₁.IsCell (L + 1) none := ⟨_, (N _ (.tail _ (.tail _ (.head _)))).1, by assumption⟩
  clear N F
  have b₁ : Kp b₀ h₁ := fun b o e => k₁ _ _ (k₀ _ _ e)
  refine S.stmt (triL rfl rfl rfl rfl rfl ?_)
  refine callA (s := { s with heap := h₁, toks := tk₁ }) (Ev.global (Gl.of (X.keeps b₁) (T.keeps b₁) (by k_is)) rfl rfl rfl) (fun tk => Calls.spliced_cons ((Ev.local n₁ (mm₁.at rfl) rfl rfl) _ _ _ rfl fun v tk e => ?_)) rfl rfl
  subst e
  refine Calls.spliced_nil ⟨FnO.of (X.keeps b₁) (fn175 _), wpAny_weaken (n := 690) (u := 4990) ?_ rfl (Nat.le_of_ble_eq_true rfl) rfl (Nat.le_of_ble_eq_true rfl)⟩
  refine cells_spec (X.keeps b₁) (T.keeps b₁) (hl.elim fun o z => ⟨o, b₁ _ _ z.1, z.2⟩) hi (by omega) fun C ws zs h₂ tk₂ k₂ lC iC zl => ?_
  dsimp only at k₂
  refine wpAny_List (Calls.spliced_nil ⟨Nat.zero_le _, ?_⟩)
  have k₃ : Kp h₂ (h₂.push { cls := .type "list", data := .seq ([] : List Value).toArray }) := fun b o e => Heap.get?_push_of_some _ e
  have lN : ListAt (h₂.push { cls := .type "list", data := .seq ([] : List Value).toArray }) h₂.objs.size [] := ⟨_, Heap.get?_push_size _ rfl⟩
  dsimp only
  generalize h₂.push { cls := .type "list", data := .seq ([] : List Value).toArray } = h₃ at k₃ lN
  have zN : h₂.objs.size ≤ h₂.objs.size := Nat.le_refl _
  generalize hnb : h₂.objs.size = nb at lN zN
  refine dictLit fun D h₄ tk₄ t1 t2 zD dD k₄ => ?_
  dsimp only at zD k₄
  refine ⟨m₁, n₁.keeps fun b o e => k₄ _ _ (k₃ _ _ (k₂ _ _ e)), fun h₅ tk₅ k₅ n₅ => ?_⟩
  have mm₅ := ((mm₁.set "table" (.ref D) (by rfl) (by decide) (by decide)).set "names" (.ref nb) (by rfl) (by decide) (by decide)).set "cells" (.ref C) (by rfl) (by decide) (by decide)
  generalize hm₅ : (fun n : Str => if n = "cells" then some (Value.ref C) else if n = "names" then some (Value.ref nb) else if n = "table" then some (Value.ref D) else m₁ n) = m₅ at n₅
  replace mm₅ : MM m₅ [("cells", .ref C), ("names", .ref nb), ("table", .ref D), ("script", .ref a)] := hm₅ ▸ mm₅
  have all₅ : ∀ b o, @Ne Nat b L → h₁.get? b = some o → h₅.get? b = some o := fun b o hb e => k₅ b o hb (k₄ _ _ (k₃ _ _ (k₂ _ _ e)))
  have ne1 : ∀ {b : Nat}, b < s.heap.objs.size → b ≠ L := fun h q => absurd h (by rw [q, hL]; exact Nat.lt_irrefl _)
  have l108 := ne1 (Heap.lt_size h108)
  have l143 := ne1 (Heap.lt_size h143)
  have f108 : h₅.get? 108 = some (tabObj #[]) := all₅ _ _ l108 (k₁ _ _ h108)
  have f143 : h₅.get? 143 = some (tabObj #[]) := all₅ _ _ l143 (k₁ _ _ h143)
  have k15 : ∀ {b : Nat} {o : Obj}, b ≠ L → h₁.get? b = some o → h₅.get? b = some o := fun hb e => all₅ _ _ hb e
  have q1 : (L + 1 : Nat) ≠ L := Nat.succ_ne_self _
  have q2 : (L + 2 : Nat) ≠ L := by omega
  have q3 : (L + 3 : Nat) ≠ L := by omega
  have d1 : h₅.IsCell (L + 1) none := by obtain ⟨o, e, d⟩ := c1; exact ⟨o, k15 q1 e, d⟩
  have d2 : h₅.IsCell (L + 2) none := by obtain ⟨o, e, d⟩ := c2; exact ⟨o, k15 q2 e, d⟩
  have d3 : h₅.IsCell (L + 3) none := by obtain ⟨o, e, d⟩ := c3; exact ⟨o, k15 q3 e, d⟩
  have n₃ : h₃.Ns L m₁ := n₁.keeps fun b o e => k₃ _ _ (k₂ _ _ e)
  have n₄ := n₃.keeps k₄
  have hDs : (D == sysModules) = false := by
    have h1 := modules_low (Top.nolimit T')
    have h2 : L < h₃.objs.size := n₃.lt
    exact beq_eq_false_iff_ne.mpr (Nat.ne_of_gt (Nat.lt_of_lt_of_le (Nat.lt_trans h1 (hL ▸ h2)) zD))
  have nbL : nb ≠ L := lN.neNs n₃
  have lN₅ : ListAt h₅ nb [] := by obtain ⟨n, e⟩ := lN; exact ⟨n, k₅ _ _ nbL (k₄ _ _ e)⟩
  have DL : D ≠ L := Loose.dict (prog := prog) (w := w) (.inl ⟨m₁, n₄, mm₁.tag, mm₁.text⟩) dD
  have dD₅ : h₅.DictOf (strKind prog w) D (attKvs (.str "" t1) (.int 1 t2) .none) := dD.at fun o e => k₅ _ o DL e
  have lC₄ : h₄.IsList C ws.toArray := lC.elim fun o z => ⟨o, k₄ _ _ (k₃ _ _ z.1), z.2⟩
  have CL : C ≠ L := by
    rintro rfl
    refine gg fun P hP => ?_
    obtain ⟨o, e, _, n, d⟩ := lC₄
    obtain ⟨o', es, ep, e', d', _⟩ := n₄
    refine hP ?_
    clear hP
    rw [e] at e'; cases e'; rw [d] at d'; cases d'
  have lC₅ : h₅.IsList C ws.toArray := lC₄.elim fun o z => ⟨o, k₅ _ _ CL z.1, z.2⟩
  have Cnb : C ≠ nb := by
    refine gg fun P hP => ?_
    obtain ⟨o, e, _⟩ := lC
    refine hP ?_
    clear hP
    exact Nat.ne_of_lt (hnb ▸ Heap.lt_size e)
  have sl : ∀ {b : Nat} {o : Obj}, s.heap.get? b = some o → b ∉ ([L, L + 1, L + 2, L + 3, nb] : List Nat) := fun {b o} e hm => by
    have h1 : b < s.heap.objs.size := Heap.lt_size e
    have h2 : b < h₂.objs.size := Heap.lt_size (k₂ _ _ (k₁ _ _ e))
    simp only [List.mem_cons, List.not_mem_nil, or_false] at hm
    rw [hnb] at h2
    omega
  have Dn : D ∉ ([L, L + 1, L + 2, L + 3, nb, 108, 143] : List Nat) := fun hm => by
    refine gg fun P hP => ?_
    obtain ⟨o, es, ep, e, _, d, _⟩ := dD₅
    refine hP ?_
    clear hP
    simp only [List.mem_cons, List.not_mem_nil, or_false] at hm
    rcases hm with q | q | q | q | q | q | q
    · exact DL q
    · obtain ⟨o', e', d'⟩ := d1; rw [← q, e] at e'; cases e'; rw [d] at d'; cases d'
    · obtain ⟨o', e', d'⟩ := d2; rw [← q, e] at e'; cases e'; rw [d] at d'; cases d'
    · obtain ⟨o', e', d'⟩ := d3; rw [← q, e] at e'; cases e'; rw [d] at d'; cases d'
    · obtain ⟨n, e'⟩ := lN₅; rw [← q, e] at e'; cases e'; cases d
    · rw [← q, e] at f108; cases f108; cases d
    · rw [← q, e] at f143; cases f143; cases d
  have Cn : C ∉ ([L, L + 1, L + 2, L + 3, nb, 108, 143] : List Nat) := fun hm => by
    refine gg fun P hP => ?_
    obtain ⟨o, e, _, n, d⟩ := lC₅
    refine hP ?_
    clear hP
    simp only [List.mem_cons, List.not_mem_nil, or_false] at hm
    rcases hm with q | q | q | q | q | q | q
    · exact CL q
    · obtain ⟨o', e', d'⟩ := d1; rw [← q, e] at e'; cases e'; rw [d] at d'; cases d'
    · obtain ⟨o', e', d'⟩ := d2; rw [← q, e] at e'; cases e'; rw [d] at d'; cases d'
    · obtain ⟨o', e', d'⟩ := d3; rw [← q, e] at e'; cases e'; rw [d] at d'; cases d'
    · exact Cnb q
    · rw [← q, e] at f108; cases f108; cases d
    · rw [← q, e] at f143; cases f143; cases d
  refine gg fun P hP => ?_
  obtain ⟨g, hgk, hgn, sg, lCg, dDg⟩ : ∃ g : Heap, Kp g h₅ ∧ (∀ b ∈ ([L, L + 1, L + 2, L + 3, nb, 108, 143] : List Nat), g.get? b = none) ∧ (∀ b o, b ≠ 108 → b ≠ 143 → s.heap.get? b = some o → g.get? b = some o) ∧ g.IsList C ws.toArray ∧ g.DictOf (strKind prog w) D (attKvs (.str "" t1) (.int 1 t2) .none) := by
    refine ⟨hideAll h₅ ([L, L + 1, L + 2, L + 3, nb, 108, 143] : List Nat), fun b o e => of_hideAll _ e, fun b hb => hideAll_none _ hb, fun b o h1 h2 e => ?_, lC₅.elim fun o z => ⟨o, hideAll_get _ z.1 Cn, z.2⟩, dD₅.at fun o e => hideAll_get _ e Dn⟩
    have n5 := sl e
    refine hideAll_get _ (k15 (fun q => n5 (q ▸ .head _)) (k₁ _ _ e)) fun hm => ?_
    simp only [List.mem_cons, List.not_mem_nil, or_false] at hm
    rcases hm with q | q | q | q | q | q | q <;> first | exact h1 q | exact h2 q | exact n5 (by rw [q]; simp)
  refine hP ?_
  clear hP
  have b0g : Kp b₀ g := fun b o e => sg b o (ne_of_none (n108) e) (ne_of_none (n143) e) (k₀ _ _ e)
  have Xg := X.keeps b0g
  have Tg := T.keeps b0g
  have n108g : g.get? 108 = none := hgn _ (by simp)
  have n143g : g.get? 143 = none := hgn _ (by simp)
  have nnbg : g.get? nb = none := hgn _ (by simp)
  have nLg : g.get? L = none := hgn _ (by simp)
  clear hm₅ all₅ k15 q1 q2 q3 lC lC₄ lC₅ Cnb CL DL sl Dn Cn dD dD₅ k₁ k₂ k₃ k₄ k₅ lN n₃ n₄ n₁ mm₁ c1 c2 c3 b₁ X' T' ne1 l108 l143 hnb zN zD
  refine S.stmt ?_
  obtain ⟨J, hJ⟩ : ∃ J : Nat → (Str → Option Value) → Heap → Prop, ∀ i m h, J i m h ↔ (Kp g h ∧ h.get? 108 = some (tabObj #[]) ∧ h.get? 143 = some (tabObj #[]) ∧ h.IsCell (L + 1) none ∧ h.IsCell (L + 2) none ∧ h.IsCell (L + 3) none ∧ MM m [("cells", .ref C), ("names", .ref nb), ("table", .ref D), ("script", .ref a)] ∧ ∃ nvs ns, ListAt h nb nvs ∧ IntsAre nvs ns ∧ NK i ns) := ⟨_, fun _ _ _ => Iff.rfl⟩
  refine for_range (s := { s with heap := h₅, toks := tk₅ }) (n := 4) (a := 0) (b := 4) (c := 1) J
    rfl rfl rfl ?_ ?_ ?_ n₅ ?_ ?_ ?_ ?_
  · intro Q' hQ
    exact Ev_range (s := { s with heap := h₅, toks := tk₅ }) (Bi.of (Xg.keeps hgk) (Tg.keeps hgk) (by k_is) boot_range (by decide)) rfl rfl rfl rfl fun h' tk r t u v k z hr => hQ r t u v h' tk k z hr
  · rfl
  · rfl
  · intro i m h h' qq0 k
    refine gg fun P hP => ?_
    obtain ⟨y1, y2, y3, y4, y5, y6, y7, nvs, ns, y8, y9, y10⟩ := (hJ _ _ _).mp qq0
    refine hP ?_
    clear hP
    have lt : ∀ {b : Nat} {o : Obj}, h₅.get? b = some o → b < h₅.objs.size := fun e => Heap.lt_size e
    refine gg fun P hP => ?_
    obtain ⟨o1, e1, _⟩ := d1
    obtain ⟨o2, e2, _⟩ := d2
    obtain ⟨o3, e3, _⟩ := d3
    refine hP ?_
    clear hP
    have mv : ∀ {c : Nat}, c < h₅.objs.size → c ≠ L → h.IsCell c none → h'.IsCell c none := fun hc hcL ⟨o, e, d⟩ => ⟨o, k _ _ hc hcL e, d⟩
    have nL : ∀ {b : Nat} {o : Obj}, h₅.get? b = some o → (∀ es n, o.data ≠ .dict es n) → b ≠ L := fun e d q => by
      refine gg fun P hP => ?_
      obtain ⟨o', es, ep, e', d', _⟩ := n₅
      refine hP ?_
      clear hP
      rw [q] at e
      rw [show h₅.get? L = some o' from e'] at e
      cases e
      exact d _ _ d'
    refine (hJ _ _ _).mpr ⟨fun b o e => k b o (lt (hgk _ _ e)) (ne_of_none nLg e) (y1 _ _ e), k _ _ (lt f108) (nL f108 fun _ _ q => by cases q) y2, k _ _ (lt f143) (nL f143 fun _ _ q => by cases q) y3, mv (lt e1) (Nat.succ_ne_self _) y4, mv (lt e2) (by omega) y5, mv (lt e3) (by omega) y6, y7, nvs, ns, ?_, y9, y10⟩
    refine gg fun P hP => ?_
    obtain ⟨n, e⟩ := y8
    obtain ⟨n', e'⟩ := lN₅
    refine hP ?_
    clear hP
    exact ⟨n, k _ _ (lt e') nbL e⟩
  · exact (hJ _ _ _).mpr ⟨hgk, f108, f143, d1, d2, d3, mm₅, [], [], lN₅, .nil, rfl, fun i j _ hj => absurd hj (Nat.not_lt_zero _), fun n hn => by cases hn⟩
  · intro i t m h tk I it hi4 qq0 n₆ hI hit hitc
    refine gg fun P hP => ?_
    obtain ⟨y1, y2, y3, y4, y5, y6, y7, nvs, ns, y8, y9, y10⟩ := (hJ _ _ _).mp qq0
    refine hP ?_
    clear hP
    have mm₆ := y7.set "place" (.int ((0 : Int) + (i : Nat) * 1) t) (by rfl) (by decide) (by decide)
    generalize hm₆ : (fun y : Str => if y = "place" then some (Value.int ((0 : Int) + (i : Nat) * 1) t) else m y) = m₆ at n₆ mm₆
    clear hm₆
    have ei : ((0 : Int) + (i : Nat) * 1) = (i : Nat) := by omega
    rw [ei] at mm₆
    refine gg fun P hP => ?_
    obtain ⟨x, tx, hx⟩ : ∃ x tx, ws.getD i .none = .int x tx := by
      have hlt : i < ws.length := by rw [iC.length, zl]; omega
      obtain ⟨n, u, e, _⟩ := IntsAre.at iC i _ (List.getElem?_eq_getElem hlt)
      exact ⟨n, u, by rw [List.getD_eq_getElem?_getD, List.getElem?_eq_getElem hlt, ← e]; rfl⟩
    refine hP ?_
    clear hP
    have lC : h.IsList C ws.toArray := lCg.elim fun o z => ⟨o, y1 _ _ z.1, z.2⟩
    refine wpAny_execs_cons (wpAny_Expr ?_)
    refine callA (s := { s with heap := h, toks := tk }) (Ev.global (Gl.of (Xg.keeps y1) (Tg.keeps y1) (by k_is)) rfl rfl rfl) (fun tk => Calls.spliced_cons ((Ev.local n₆ (mm₆.at rfl) rfl rfl) _ _ _ rfl fun v tk e => ?_)) rfl rfl
    subst e
    refine Calls.spliced_cons ((Ev.add (Ev.add Ev.int ((Ev.local n₆ (mm₆.at rfl) rfl rfl).mono fun v e => ⟨_, e⟩)) (Ev.mul Ev.int (Ev.imod ((Ev.sub (i := i) (ys := ws) (Ev.local n₆ (mm₆.at rfl) rfl rfl) ((Ev.local n₆ (mm₆.at rfl) rfl rfl).mono fun v e => ⟨_, e⟩) lC (by rw [iC.length, zl]; omega) (by omega)).mono fun v e => ⟨tx, e.trans hx⟩) (by decide)) (IntMulOk.of_left (by decide)))) { s with heap := h, toks := _ } _ _ rfl fun v tk e => ?_)
    obtain ⟨tv, rfl⟩ := e
    refine Calls.spliced_nil ⟨FnO.of (Xg.keeps y1) (fn39 _), wpAny_weaken (n := 690) (u := 4990) ?_ rfl (Nat.le_of_ble_eq_true rfl) rfl (Nat.le_of_ble_eq_true rfl)⟩
    refine insort_spec Xg Tg y1 y8 nnbg y9 (by rw [y10.1]; omega) y10.2.1 fun r t₇ h₇ tk₇ u₇ r1 r2 r3 r4 => ?_
    dsimp only
    have hxq : x.fmod 7 = x % 7 := Int.fmod_eq_emod_of_nonneg _ (by decide)
    have ne : ∀ {b : Nat} {o : Obj}, h.get? b = some o → (∀ xs n, o.data ≠ .seq xs n) → b ≠ nb := fun e d q => by
      obtain ⟨n, e'⟩ := y8
      rw [q] at e
      rw [show h.get? nb = some _ from e'] at e
      cases e
      exact d _ _ rfl
    have mv : ∀ {c : Nat}, h.IsCell c none → h₇.IsCell c none := fun ⟨o, e, d⟩ => ⟨o, u₇ _ _ (ne e fun xs n q => by rw [d] at q; cases q) e, d⟩
    have LI : L ≠ nb := Ne.symm nbL
    refine wpAny_execs_nil ⟨rfl, h₇, tk₇, m₆, rfl, ?_, n₆.at' (fun o e => u₇ _ o LI e), (hJ _ _ _).mpr ⟨fun b o e => u₇ _ _ (ne_of_none nnbg e) (y1 _ _ e), u₇ _ _ (ne y2 fun _ _ q => by cases q) y2, u₇ _ _ (ne y3 fun _ _ q => by cases q) y3, mv y4, mv y5, mv y6, ⟨fun p hp => mm₆.get p (.tail _ hp), mm₆.tag, mm₆.text⟩, _, _, r4, ?_, y10.ins hi4 (x := 65 + (i : Int) + 4 * x.fmod 7) (q := x.fmod 7) rfl (by omega) (by omega) r1 r2 r3⟩⟩
    · refine u₇ _ _ (fun q => ?_) hit
      obtain ⟨n, e⟩ := y8
      rw [q] at hit
      rw [show h.get? nb = some _ from e] at hit
      cases hit
      exact absurd (Value.type.inj hitc) (by decide)
    · exact ((y9.take r).append (.cons _ _ .nil)).append (y9.drop r)
  · intro m h tk qq0 n₆
    refine gg fun P hP => ?_
    obtain ⟨y1, y2, y3, y4, y5, y6, y7, nvs, ns, y8, y9, y10⟩ := (hJ _ _ _).mp qq0
    refine hP ?_
    clear hP
    refine law_rest (s := { s with heap := h, toks := tk }) (o := _) (fd := _) (body := _) rfl rfl rfl Xg Tg y1 hgn hg y2 y3 y4 y5 y6 n₆ y7 lCg iC zl dDg hDs y8 y9 y10 fun h' tk' k' q1 q2 => ?_
    exact ret h' tk' (fun b o b1 b2 e => k' _ _ (sg b o b1 b2 e)) q1 q2
/-- the top with the two code tables out of sight; which text it is of is left open -/
theorem topHide {p : Program} {loose : List Str} {mean : ExcName → Option Value} {mg mb : Str → Option Value} {h : Heap} (T : Top p loose mean mg mb h) (h108 : h.get? 108 = some (tabObj #[])) (h143 : h.get? 143 = some (tabObj #[])) :
    ∃ p' loose', Top p' loose' mean mg mb (hideAll h ([108, 143] : List Nat)) := by
  have gt : ∀ {b : Nat} {o : Obj}, h.get? b = some o → (∀ vs, o.data ≠ .fields vs) → (hideAll h ([108, 143] : List Nat)).get? b = some o := fun {b o} e d => hideAll_get _ e fun hm => by
    simp only [List.mem_cons, List.not_mem_nil, or_false] at hm
    rcases hm with rfl | rfl
    · rw [e] at h108; cases h108; exact d _ rfl
    · rw [e] at h143; cases h143; exact d _ rfl
  have ns : ∀ {a : Addr} {m : Str → Option Value}, h.Ns a m → (hideAll h ([108, 143] : List Nat)).Ns a m := fun {a m} x => by
    obtain ⟨o, es, ep, e, d, r⟩ := x
    exact ⟨o, es, ep, gt e (fun vs q => by rw [d] at q; cases q), d, r⟩
  refine ⟨{ p with main := { p.main with body := [.ImportFrom (some "sys") [] none default] } }, loose ++ ((recsOf p).map (·.name) ++ ((litsOf p).map (·.1) ++ (clssOf p loose).map (·.name))), ?_⟩
  have er : ∀ x : Program, recsOf { x with main := { x.main with body := [.ImportFrom (some "sys") [] none default] } } = [] := fun _ => rfl
  refine ⟨ns T.g, ns T.b, ?_, ?_, ?_, ?_, ?_, ?_, T.builtins, ?_, ?_, ?_⟩
  · obtain ⟨mc, a, b⟩ := T.nolimit; exact ⟨mc, ns a, b⟩
  · obtain ⟨mc, a, b⟩ := T.nodigits; exact ⟨mc, ns a, b⟩
  · intro d hd; rw [er] at hd; cases hd
  · intro o ho; cases (show o ∈ ([] : List _) from ho)
  · intro x d hv; cases (show (none : Option PyData) = some d from hv)
  · intro x h1 h2 _ _ _
    simp only [List.mem_append, not_or] at h2
    exact T.free x h1 h2.1 h2.2.1 h2.2.2.1 h2.2.2.2
  · intro d hd; rw [er] at hd; cases hd
  · obtain ⟨bm, ob, a1, a2, a3, a4, a5, a6⟩ := T.bmain
    exact ⟨bm, ob, a1, a2, gt a3 (fun vs q => by rw [a6] at q; cases q), a4, a5, a6⟩
  · intro hi; exact absurd (show importsNone { p with main := { p.main with body := [.ImportFrom (some "sys") [] none default] } } = false from rfl) (by rw [hi]; exact Bool.noConfusion)
theorem tab_code {h : Heap} {c P : Addr} (x : CodeHd h c P) : isCodeTable h P := by obtain ⟨o, vs, _, _, _, _, _, _, _, a, b, d, e, _⟩ := x; exact ⟨c, o, vs, a, b, d, e⟩
theorem listHide {h : Heap} {a : Addr} {xs : Array Value} (x : h.IsList a xs) (h108 : h.get? 108 = some (tabObj #[])) (h143 : h.get? 143 = some (tabObj #[])) : (hideAll h ([108, 143] : List Nat)).IsList a xs := by
  obtain ⟨o, e, c, n, d⟩ := x
  refine ⟨o, hideAll_get _ e fun hm => ?_, c, n, d⟩
  simp only [List.mem_cons, List.not_mem_nil, or_false] at hm
  rcases hm with rfl | rfl
  · rw [e] at h108; cases h108; cases d
  · rw [e] at h143; cases h143; cases d
theorem law_holds : (PySem.W.OpenLaw.row PySem.Challenge.rw_wy0019_01).Holds := hd (by
  k_fill
  intro w s₀ s₁ mg mb G Y fa o pm cd doc dV kV ho hdat hcd hD hmg hg args vals as hpre hlay hrd hwl hlo
  have KX := km_in_of Y
  have KT := km_tabs_of Y
  refine Ground.open G ?_
  intro T B D TE TW
  have t108 : s₁.heap.get? 108 = some (tabObj #[]) := KT 108 (by simp)
  have t143 : s₁.heap.get? 143 = some (tabObj #[]) := KT 143 (by simp)
  have hfa : fa = 180 := by
    have e : mg ("law" : Str) = some (.ref 180) := mg_of KX T.g (by k_is)
    rw [show mg ("law" : Str) = some (.ref fa) from hmg] at e
    exact Value.ref.inj (Option.some.inj e)
  have c108 : isCodeTable s₁.heap 108 := tab_code (codeHd_of_K KX (cd112 _))
  have c143 : isCodeTable s₁.heap 143 := tab_code (codeHd_of_K KX (cd145 _))
  obtain ⟨p', l', T'⟩ := topHide T t108 t143
  wrow_args hpre hlay hrd hwl hlo
  rename s₁.heap.IsList _ _ => hList
  rename IntsAre _ _ => hInts
  rename ¬ _ < _ => hlen
  clear G Y ho hdat hcd hD hmg KT T B D TE TW
  subst hfa
  have hsz := hInts.length
  have hXh : (Mine.hd.heap_1 w.params).In (hideAll s₁.heap ([108, 143] : List Nat)) := fun b o e => hideAll_get _ (KX b o e) fun hm => by
    simp only [List.mem_cons, List.not_mem_nil, or_false] at hm
    rcases hm with rfl | rfl
    · rw [show (Mine.hd.heap_1 w.params).lookup 108 = none from by kernel_rfl] at e; cases e
    · rw [show (Mine.hd.heap_1 w.params).lookup 143 = none from by kernel_rfl] at e; cases e
  have hLh := listHide hList t108 t143
  refine S.weaken (n := 310) (u := 2000) ?_ rfl (Nat.le_of_ble_eq_true rfl) rfl (Nat.le_of_ble_eq_true rfl)
  refine law_spec (b₀ := hideAll s₁.heap ([108, 143] : List Nat)) hXh T' (fun b o e => of_hideAll _ e) t108 (hideAll_none _ (.head _)) t143 (hideAll_none _ (.tail _ (.head _))) hg hLh hInts (by omega) fun h' tk' k q1 q2 => ?_
  obtain ⟨v1, q1⟩ := q1
  obtain ⟨v2, q2⟩ := q2
  have tb : ∀ {v : Array Value}, tabObj v = { tabObj #[] with data := .fields (#[] ++ v) } := fun {v} => by rw [Array.empty_append]
  refine ⟨.inl ⟨_, .bool true, [], rfl, fun cls => rfl, .bool _, ?_, fun _ => ⟨List.nodup_nil, fun a ha => by cases ha⟩⟩, ⟨fun b o e => ?_, fun b o e => ?_⟩, rfl, by rw [show ({ s₁ with heap := h', toks := tk' } : Shared).gens = #[] from hg]; exact .of_eq rfl⟩
  · wrow_post
  · by_cases b1 : b = 108
    · subst b1; rw [e] at t108; cases t108
      exact .inr (.inl ⟨c108, rfl, _, v1, rfl, q1.trans (congrArg some tb)⟩)
    by_cases b2 : b = 143
    · subst b2; rw [e] at t143; cases t143
      exact .inr (.inl ⟨c143, rfl, _, v2, rfl, q2.trans (congrArg some tb)⟩)
    exact .inl (k _ _ b1 b2 e)
  · by_cases b1 : b = 108
    · subst b1; exact ⟨_, q1⟩
    by_cases b2 : b = 143
    · subst b2; exact ⟨_, q2⟩
    exact ⟨_, k _ _ b1 b2 e⟩)
end Mine
theorem PySem.Challenge.cw_wy0019_01_holds : PySem.Challenge.rw_wy0019_01.Holds :=
  PySem.W.holds_law Mine.said fun _ => Mine.law_holds
