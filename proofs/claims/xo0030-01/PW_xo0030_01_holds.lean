import PyProof.Rows.All
import Wide.All
import OpenK.AllK
import Wide.FinOn
import PySem.Challenge.RW_xo0030_01
open PySem PySem.W PyProof.Rows
set_option Elab.async false
set_option maxRecDepth 100000
namespace Mine
section
open PySem.Calls

theorem hideG0 {P : Prop} (h : ∀ G : Prop, (P → G) → G) : P := h P id
abbrev NoE : Value → Shared → Prop := fun _ _ => False
noncomputable def badIds : List String := ["bytearray.__contains__", "bytearray.__mod__", "bytearray.__rmod__", "_struct.pack_into.held", "bytearray.find.held"] ++ PySem.Builtin.Bytes.decodersThatHold
noncomputable def badC : Code → Bool
  | .builtin id _ => badIds.contains id
  | _ => false
def NDl (l : List (Code × Pos)) : Prop := ∀ x ∈ l, badC x.1 = false
/-- wpAny, and, where b: no code of the stack holds a buffer -/
def wpN {α : Type} (b : Bool) (M : Model) (A : Around) (t : Sem α) (Q : α → Shared → Prop) (E : Value → Shared → Prop) (s : Shared) : Prop :=
  ∀ Γ p, Γ.In A → (b = true → badC Γ.code = false ∧ NDl Γ.below) → Sem.wp M Γ t (fun a _ s' => Q a s') (fun e _ s' => E e s') p s
def codeN (b : Bool) (M : Model) (A : Around) (c : Code) (R : Result → Shared → Prop) (s : Shared) : Prop :=
  ∀ Γ p, Γ.code = c → Γ.Below A → (b = true → NDl Γ.below) → wpCode M Γ R p s
section
variable {α β : Type} {b : Bool} {M : Model} {A : Around} {E : Value → Shared → Prop} {s : Shared}
theorem wpN_any {t : Sem α} {Q : α → Shared → Prop} (h : wpAny M A t Q E s) : wpN b M A t Q E s := fun Γ p hΓ _ => h Γ p hΓ
theorem wpN_false {t : Sem α} {Q : α → Shared → Prop} (h : wpN false M A t Q E s) : wpAny M A t Q E s := fun Γ p hΓ => h Γ p hΓ (by nofun)
theorem codeN_any {c : Code} {R : Result → Shared → Prop} (h : codeAny M A c R s) : codeN b M A c R s := fun Γ p hc hΓ _ => h Γ p hc hΓ
theorem codeN_false {c : Code} {R : Result → Shared → Prop} (h : codeN false M A c R s) : codeAny M A c R s := fun Γ p hc hΓ => h Γ p hc hΓ (by nofun)
theorem wpN_mono {t : Sem α} {Q Q' : α → Shared → Prop} {E' : Value → Shared → Prop} (h : wpN b M A t Q E s) (hQ : ∀ a s, Q a s → Q' a s) (hE : ∀ e s, E e s → E' e s) : wpN b M A t Q' E' s :=
  fun Γ p hΓ hn => Sem.wp_mono M Γ t (fun a _ s => hQ a s) (fun e _ s => hE e s) p s (h Γ p hΓ hn)
theorem codeN_mono {c : Code} {R R' : Result → Shared → Prop} (h : codeN b M A c R s) (hR : ∀ r s, R r s → R' r s) : codeN b M A c R' s :=
  fun Γ p hc hΓ hn => wpCode_mono hR (h Γ p hc hΓ hn)
theorem wpN_bind {m : Sem α} {f : α → Sem β} {Q : β → Shared → Prop} (h : wpN b M A m (fun a s' => wpN b M A (f a) Q E s') E s) : wpN b M A (m >>= f) Q E s := fun Γ p hΓ hn => by
  rw [Sem.wp_bind']
  exact Sem.wp_mono M Γ m (fun a p' s' h' => h' Γ p' hΓ hn) (fun _ _ _ h' => h') p s (h Γ p hΓ hn)
theorem wpN_bindA {m : Sem α} {f : α → Sem β} {Q : β → Shared → Prop} (h : wpAny M A m (fun a s' => wpN b M A (f a) Q E s') E s) : wpN b M A (m >>= f) Q E s := wpN_bind (wpN_any h)
theorem wpN_onRaise {m : Sem α} {k : Value → Sem Unit} {Q : α → Shared → Prop}
    (h : wpN b M A m Q (fun e s' => wpAny M A (k e) (fun _ s'' => E e s'') E s') s) : wpN b M A (m.onRaise k) Q E s := fun Γ p hΓ hn => by
  rw [Sem.wp_onRaise]
  exact Sem.wp_mono M Γ m (fun _ _ _ h' => h') (fun e p' s' h' => h' Γ p' hΓ) p s (h Γ p hΓ hn)
theorem wpN_holding {vs : List Value} {m : Sem α} {Q : α → Shared → Prop} (h : wpN b M A m Q E s) : wpN b M A (holding vs m) Q E s :=
  fun Γ p hΓ hn => by rw [Sem.wp_holding]; exact h Γ p hΓ hn
theorem wpN_run {c : Code} {h : Option Value} {Q : Flow → Shared → Prop}
    (hc : codeN b M (A.mark h) c (fun r s' => match r with | .ok f => Q f s' | .error e => E e s') s) (hnb : h ≠ some byPass := by intro x; cases x) :
    wpN b M A (run c h) Q E s :=
  fun Γ p hΓ hn => by
    rw [Sem.wp_run]
    exact hc _ p rfl (hΓ.enter c h p hnb) fun hb x hx => by
      rcases List.mem_cons.mp hx with rfl | hx
      · exact (hn hb).1
      · exact (hn hb).2 x hx
theorem wpN_runValue {c : Code} {Q : Value → Shared → Prop}
    (hc : codeN b M A c (fun r s' => match r with | .ok (.ret v) => Q v s' | .ok _ => False | .error e => E e s') s) :
    wpN b M A (runValue c) Q E s := fun Γ p hΓ hn => by
  rw [Sem.wp_runValue]
  exact hc _ p rfl (hΓ.enter c none p (by intro x; cases x)) fun hb x hx => by
      rcases List.mem_cons.mp hx with rfl | hx
      · exact (hn hb).1
      · exact (hn hb).2 x hx
theorem wpN_call {f : Value} {pos : List Value} {kw : List (Str × Value)} {Q : Value → Shared → Prop}
    (hc : codeN b M A (.call f ⟨pos, kw⟩) (fun r s' => match r with | .ok (.ret v) => Q v s' | .ok _ => False | .error e => E e s') s) :
    wpN b M A (call f pos kw) Q E s := wpN_runValue hc
theorem wpN_runOwn {env : Env} {c : Code} {h : Option Value} {Q : Flow → Shared → Prop}
    (hc : codeN b M (A.mark h) c (fun r s' => match r with | .ok f => Q f s' | .error e => cameBackBy M A env E e s') s) (hnb : h ≠ some byPass := by intro x; cases x) :
    wpN b M A (runOwn c env h) Q E s := by
  unfold runOwn
  exact wpN_onRaise (wpN_run hc hnb)
theorem codeN_of_tree {c : Code} {R : Result → Shared → Prop} (hb : badC c = false)
    (h : wpN b M (A.under c) (M.den c) (fun fin s' => match fin with | .done f => R (.ok f) s' | .again c' => c'.quiet = true ∧ codeN b M A c' R s')
      (fun e s' => R (.error e) s') s) : codeN b M A c R s := fun Γ p hc hΓ hn => by
  rw [wpCode_iff_wp, hc]
  refine Sem.wp_mono M Γ _ (fun fin p' s' h' => ?_) (fun _ _ _ h' => h') p s (h Γ p (hc ▸ hΓ.in) fun x => ⟨hc ▸ hb, hn x⟩)
  cases fin with
  | done f => exact h'
  | again c' => exact ⟨h'.1, h'.2 (Γ.goto c') p' rfl (hΓ.goto c') hn⟩
theorem codeN_loop {c : Code} {R : Result → Shared → Prop} (hb : badC c = false) (hq : c.quiet = true) (I : Nat → Shared → Prop)
    (turn : ∀ n s, I n s → wpN b M (A.under c) (M.den c)
      (fun fin s' => match fin with
        | .done f => R (.ok f) s'
        | .again c' => (c' = c ∧ ∃ m, m < n ∧ I m s') ∨ (c'.quiet = true ∧ codeN b M A c' R s')) (fun e s' => R (.error e) s') s)
    (n : Nat) (h : I n s) : codeN b M A c R s := by
  induction n using Nat.strongRecOn generalizing s with
  | ind n ih =>
    refine codeN_of_tree hb (wpN_mono (turn n s h) (fun fin s' hf => ?_) fun _ _ h' => h')
    cases fin with
    | done f => exact hf
    | again c' =>
      rcases hf with ⟨rfl, m, hm, hI⟩ | hf
      · exact ⟨hq, ih m hm hI⟩
      · exact hf
end

section
variable {b : Bool} {prog : Program} {w : World} {A : Around} {E : Value → Shared → Prop} {s : Shared} {env : Env} {R : Result → Shared → Prop}
theorem codeN_func {body : List Stmt} (h : wpN b (model prog w) (A.deeper env) (execs body env) (fun f s' => R (.ok (.ret (match f with | .ret v => v | _ => .none))) s') NoE s) :
    codeN b (model prog w) A (.func body env) R s := by
  refine codeN_of_tree rfl ?_
  show wpN b _ (A.deeper env) (do point; match ← (execs body env).onRaise (leaving env) with | .ret v => ret v | _ => ret .none) _ _ s
  refine wpN_bindA (wpAny_point (wpN_bind (wpN_onRaise (wpN_mono h (fun f s' h' => ?_) fun _ _ h' => h'.elim))))
  cases f <;> exact wpN_any (wpAny_pure h')
theorem codeN_call_function {a : Addr} {args : Args} {o : Obj} {fd : FuncData} {body : List Stmt} (hroom : A.depth < recursionLimit)
    (ho : s.heap.get? a = some o)
    (hd' : o.data = .func fd) (hco : fd.scope.isCoroutine = false) (hgen : fd.scope.isGenerator = false) (hbody : fd.body = .stmts body) (hcd : s.heap.CodeRec fd.code fd.qualname)
    (h : wpAny (model prog w) A.in1 (bindArgs fd args) (fun binds s₁ =>
      wpAny (model prog w) A.in1 (newFunctionEnv fd.scope fd.globals fd.closure binds (fd.qualname ++ ".<locals>.") (some a) fd.code none fd.builtins)
        (fun env s₂ => s₂.heap.NoLimit ∧ codeN b (model prog w) A (.func body env) R s₂) NoE s₁) NoE s) :
    codeN b (model prog w) A (.call (.ref a) args) R s := by
  refine codeN_of_tree rfl ?_
  show wpN b _ A.in1 (callAny (.ref a) args) _ _ s
  simp only [callAny]
  refine wpN_bindA (wpAny_load ho ?_)
  refine hideG0 (fun Gz hGz => ?_)
  obtain ⟨c, oc, vs, tq, hc, hoc, hdc, hq⟩ := hcd
  refine hGz ?_
  clear hGz Gz
  simp only [hd', callFunction, hco, hgen, hbody, hc]
  rw [hc] at h
  refine wpN_bindA (m := field (.ref c) 1) (wpAny_field hoc hdc hq (wpN_bindA (wpAny_pure ?_)))
  exact wpN_bindA (wpAny_mono h (fun binds s₁ h₁ => wpN_bindA (wpAny_mono h₁ (fun env s₂ h₂ => wpN_bindA (wpAny_enterFrame h₂.1 hroom
    (wpN_any (wpAny_pure (And.intro rfl h₂.2))))) fun _ _ h' => h'.elim)) fun _ _ h' => h'.elim)
theorem wpN_execs_cons {st : Stmt} {rest : List Stmt} {Q : Flow → Shared → Prop} (h : wpN b (model prog w) A (exec st env) (fun f s' => match f with | .next => wpN b (model prog w) A (execs rest env) Q E s' | f => Q f s') E s) :
    wpN b (model prog w) A (execs (st :: rest) env) Q E s := by
  rw [execs_cons]
  refine wpN_bind (wpN_mono h (fun f s' h' => ?_) fun _ _ e => e)
  cases f with
  | next => exact h'
  | _ => exact wpN_any (wpAny_pure h')
/-- some plain statements ahead -/
theorem wpN_split {Q : Flow → Shared → Prop} {rest : List Stmt} : ∀ (pre : List Stmt) {s : Shared}, wpAny (model prog w) A (execs pre env) (fun f s' => f = .next ∧ wpN b (model prog w) A (execs rest env) Q E s') E s →
    wpN b (model prog w) A (execs (pre ++ rest) env) Q E s := by
  have key : ∀ (pre : List Stmt), ∀ Γ p s, Sem.wp (model prog w) Γ (execs pre env) (fun f p' s' => f = .next ∧ Sem.wp (model prog w) Γ (execs rest env) (fun a _ s' => Q a s') (fun e _ s' => E e s') p' s') (fun e _ s' => E e s') p s →
      Sem.wp (model prog w) Γ (execs (pre ++ rest) env) (fun a _ s' => Q a s') (fun e _ s' => E e s') p s := by
    intro pre Γ
    induction pre with
    | nil => intro p s h; exact h.2
    | cons x pre ih =>
      intro p s h
      rw [List.cons_append, execs_cons, Sem.wp_bind']
      rw [execs_cons, Sem.wp_bind'] at h
      refine Sem.wp_mono _ Γ _ (fun f p' s' h' => ?_) (fun _ _ _ h' => h') p s h
      cases f with
      | next => exact ih _ _ h'
      | _ => exact absurd h'.1 (by simp)
  intro pre s h Γ p hΓ hn
  exact key pre Γ p s (Sem.wp_mono _ Γ _ (fun f p' s' h' => ⟨h'.1, h'.2 Γ p' hΓ hn⟩) (fun _ _ _ h' => h') p s (h Γ p hΓ))
theorem wpN_For {target iter : Expr} {body orelse : List Stmt} {pos : Pos} {Q : Flow → Shared → Prop}
    (h : wpN b (model prog w) A (eval iter env) (fun x s₁ => wpAny (model prog w) A (pyIter x) (fun it s₂ =>
      codeN b (model prog w) A (.forLoop target it body orelse env) (fun r s' => match r with | .ok f => Q f s' | .error e => cameBackBy (model prog w) A env E e s') s₂) E s₁) E s)
    (hs : ∀ x, foldedSetIterable iter env x = pure x := by intro _; rfl) :
    wpN b (model prog w) A (exec (.For target iter body orelse pos) env) Q E s := by
  rw [exec_For]
  refine wpN_bindA (wpAny_standAt (wpN_bind (wpN_mono h (fun x s₁ h₁ => ?_) fun _ _ h' => h')))
  exact wpN_bindA (wpAny_of_eq (hs x) (wpN_bindA (wpAny_standAt (wpN_bindA (wpAny_holding (wpAny_mono h₁ (fun it s₂ h₂ => wpN_runOwn h₂) fun _ _ h' => h'))))))
theorem wpN_Assign {x : Str} {pos' pos : Pos} {value : Expr} {Q : Flow → Shared → Prop}
    (h : wpN b (model prog w) A (eval value env) (fun v s₁ => wpAny (model prog w) A (storeName env x v) (fun _ => Q .next) E s₁) E s) (hs : swapsWith value (some (.Name x pos')) pos.line env = pure false := by rfl) :
    wpN b (model prog w) A (exec (.Assign [.Name x pos'] value pos) env) Q E s := by
  rw [exec_Assign_Name _ _ _ _ _ hs]
  refine wpN_bindA (wpAny_standAt (wpN_bind (wpN_mono h (fun v s₁ h₁ => ?_) fun _ _ e => e)))
  refine wpN_any (wpAny_bind (wpAny_standAt (wpAny_bind (wpAny_bindName (wpAny_mono h₁ (fun _ s₂ h₂ => wpAny_pure h₂) fun _ _ e => e)))))
theorem wpN_CallName {x : Str} {p pos : Pos} {args : List Expr} {trees : List (Bool × Sem Value)} {Q : Value → Shared → Prop} (ht : backTo pos (starEach args env) = trees)
    (h : wpAny (model prog w) A (eval (.Name x p) env) (fun f s₁ => wpN b (model prog w) A (callWith pos f [] trees []) Q E s₁) E s) :
    wpN b (model prog w) A (eval (.Call (.Name x p) args [] pos) env) Q E s := by
  subst ht
  exact wpN_bindA h
theorem callWithN_type {pos : Pos} {T : String} {first : List Value} {args : List (Bool × Sem Value)} {Q : Value → Shared → Prop} (hplain : args.any (·.1) = false)
    (h : wpAny (model prog w) A (evalArgs (.type T) true args []) (fun a s₁ => wpN b (model prog w) A (call (.type T) (first ++ a.pos) a.kw) Q E s₁) E s) :
    wpN b (model prog w) A (callWith pos (.type T) first args []) Q E s := by
  unfold callWith
  refine wpN_bindA (wpAny_holding (wpAny_mono h (fun a s₁ h₁ => wpN_bindA (wpAny_standAt ?_)) fun _ _ x => x))
  simp only [hplain, List.any_nil, Bool.or_false]
  refine wpN_bindA (wpAny_pure ?_)
  exact wpN_bind (wpN_mono h₁ (fun r s₂ hr => wpN_any (wpAny_bind (wpAny_holding (wpAny_point (wpAny_pure hr))))) fun _ _ x => x)
end

section
open PySem.Spec
theorem thread_endsN {prog : Program} {w : World} {t : Sem Fin} {s : Shared} {R : Result → Shared → Prop} (hreg : s.asleep)
    (h : wpN true (model prog w) callerA t (fun fin s' => ∃ f, fin = .done f ∧ (R (.ok f) s' ∧ leftWithCleanup s'.gens = false)) (fun e s' => R (.error e) s' ∧ leftWithCleanup s'.gens = false) s) :
    ∃ n r s' s'', runN (denote table) prog w n s ⟨t, .builtin "claim.caller" {}, default, []⟩ = .halted (outcomeOf r) s' ∧
      schedN (denote table) prog w n (.single s ⟨t, .builtin "claim.caller" {}, default, []⟩) = .halted (outcomeOf r) s' ∧ s'.forget = s''.forget ∧ R r s'' := by
  have h' : Sem.wp (model prog w) ⟨.builtin "claim.caller" {}, none, none, [], none⟩ t (Sem.finPost (model prog w) ⟨.builtin "claim.caller" {}, none, none, [], none⟩ fun r s' => R r s' ∧ leftWithCleanup s'.gens = false)
      (fun e _ s' => R (.error e) s' ∧ leftWithCleanup s'.gens = false) default s := by
    refine Sem.wp_mono _ _ t (fun fin p' s' h' => ?_) (fun _ _ _ h' => h') default s (h _ default caller_in fun _ => ⟨by decide +kernel, fun x hx => nomatch hx⟩)
    refine hideG0 (fun Gz hGz => ?_)
    obtain ⟨f, rfl, hf⟩ := h'
    refine hGz ?_
    clear hGz Gz
    exact hf
  refine hideG0 (fun Gz hGz => ?_)
  obtain ⟨n, r, s₁, s₂, hs, hn, hfo, hR⟩ := wp_halts_full (M := model prog w) (R := R) hreg h'
  refine hGz ?_
  clear hGz Gz
  exact ⟨n, r, s₂, s₁, hn, hs, hfo, hR⟩

theorem callFromN {c : ClaimW} {tree : List Value → Sem Fin} {w : World} {s : Shared} {free : Addr → Prop} {gens : Prop} {kept : Heap → Prop} (hz : s.asleep) (hgens : s.gens = #[])
    (hspec : ∀ args, c.pre args = true → WData.layableAll args = true →
      ∀ ord : List DictEntry → List DictEntry, (∀ l, (ord l).Perm l) →
      ∃ vs s₁, layAllW c.records (classAt s.heap) w.params ord args s = some (vs, s₁) ∧
        wpN true (model c.prog w) callerA (tree vs) (fun fin s' => ∃ f, fin = .done f ∧ (c.Ends s args vs s₁ (.ok f) s' ∧ s'.os = s.os ∧ AllBare s'.gens ∧ kept s'.heap))
          (fun e s' => c.Ends s args vs s₁ (.error e) s' ∧ s'.os = s.os ∧ AllBare s'.gens ∧ kept s'.heap) s₁) :
    c.CallFrom (fun vs => ⟨tree vs, .builtin "claim.caller" {}, default, []⟩) w free gens kept s := by
  intro args hpre hlay ord hord
  refine hideG0 (fun Gz hGz => ?_)
  obtain ⟨vs, s₁, hlaid, hcode⟩ := hspec args hpre hlay ord hord
  have hal := layAllW_rest _ _ _ hlaid
  obtain ⟨k, r, s', s'', hrun, hsched, hfo, hcase, hos, hkp⟩ := thread_endsN (prog := c.prog) (w := w) (t := tree vs) (s := s₁)
    (R := fun r s' => c.Ends s args vs s₁ r s' ∧ s'.os = s.os ∧ kept s'.heap)
    (Shared.asleep_of_life hal.2.2.2 hz)
    (wpN_mono hcode (by
      rintro fin s' ⟨f, e, h1, h2, h3, h4⟩
      exact ⟨f, e, ⟨h1, h2, h4⟩, leftWithCleanup_false_of_bare h3⟩) (by
      rintro e s' ⟨h1, h2, h3, h4⟩
      exact ⟨⟨h1, h2, h4⟩, leftWithCleanup_false_of_bare h3⟩))
  obtain ⟨eh, _, _, eo, _⟩ := Shared.forget_eq hfo
  refine hGz ?_
  clear hGz Gz
  have hcase := hcase.congr eh
  have hkp : kept s'.heap := by first | exact eh ▸ hkp | (rw [eh] at hkp; exact hkp) | (rw [← eh] at hkp; exact hkp)
  rw [← eo] at hos
  have hlife : s'.heap.life = s.heap.life := (runN_life _ _ _ hrun).trans hal.2.2.2
  refine ⟨vs, s₁, hlaid, k, _, s', hsched, ?_, (fun _ i x hx => by rw [hgens] at hx; simp at hx), hkp, by rw [hlife], Shared.rest_eq hos⟩
  rcases hcase with ⟨v, rfl, d1, d2, d3, d4, d5⟩ | ⟨e, ob, cls, rfl, d1, d2, d3, d4, d5⟩
  · exact .inl ⟨v, rfl, d1, d2, d3, fun b o y _ => d4 b o y, d5⟩
  · exact .inr ⟨e, ob, cls, rfl, d1, d2, d3, d4, fun b o y _ => d5 b o y⟩
theorem openAnyN {r : RowW} {run : Value → List Value → Sem Value} {tree : List Value → Sem Fin} {q : Program} {loose defs kps : List Str} {writes : Bool} {Xt : Shared → Bool} {XP : (Str → Option Value) → Heap → Prop} {α : Type} {Yf : Shared → α} {Ya : World → α} {N : Nat}
    (left : LeftO r.prog q loose Xt Yf Ya N) (hX : ∀ s, Xt s = true → XP (s.heap.nsMap mainGlobals) s.heap) (hXk : ∀ mg h h', XP mg h → (∀ b o, h.get? b = some o → h'.get? b = some o) → XP mg h')
    (hRf : ∀ s, Xt s = true → RecFacts r.records s.heap) (hwr : (!writes || r.records.isEmpty) = true) (ok : (chainsOk q && opensWell r.prog && (frees r && r.within.isEmpty)) = true) (hb : r.prog.bare) (hw : r.promised)
    (ht : ∀ vs (w : World) (s : Shared) mg f (Q : Fin → Shared → Prop) (E : Value → Shared → Prop), s.heap.Ns mainGlobals mg → mg r.name = some f → wpN true (model r.prog w) callerA (run f vs) (fun v s' => Q (.done (.ret v)) s') E s → wpN true (model r.prog w) callerA (tree vs) Q E s)
    (pin : ∀ w s, s.heap.isNs mainGlobals = true → Ground q loose [] XP w s (s.heap.nsMap mainGlobals) (s.heap.nsMap builtinsNs) s.heap → ∀ n ∈ defs, isTheDefsW r.prog s.heap n)
    (call : ∀ (w : World) (s₀ s₁ : Shared) (mg mb : Str → Option Value), Ground q loose r.records XP w s₀ mg mb s₁.heap → Yf s₀ = Ya w → ∀ (args : List WData) (vs : List Value) (as : List Addr),
      r.claim.pre args = true → WData.layableAll args = true → Laid r.records w s₀ s₁ args vs as → sysModules < s₀.heap.objs.size → ∃ f, mg r.name = some f ∧
        wpN true (model r.prog w) callerA (run f vs) (fun v s' => GoodWG r.claim (classAt s₀.heap) (ExcName.means s₀.heap) args s₁ (.ok (.ret v)) s')
          (fun e s' => GoodWG r.claim (classAt s₀.heap) (ExcName.means s₀.heap) args s₁ (.error e) s') s₁) : r.claim.HoldsOpenBy (fun vs => ⟨tree vs, .builtin "claim.caller" {}, default, []⟩) defs kps writes := by
  refine hideG0 (fun Gz hGz => ?_)
  obtain ⟨ok, k5⟩ := Bool.and_eq_true_iff.mp ok
  obtain ⟨hch, o1⟩ := Bool.and_eq_true_iff.mp ok
  obtain ⟨k5, k6⟩ := Bool.and_eq_true_iff.mp k5
  obtain ⟨hsame, hu, ha, hap, hm⟩ := frees_parts k5
  refine hGz ?_
  clear hGz Gz
  refine ⟨⟨hb, o1, by show r.makers.map _ = []; rw [hm]; rfl⟩, hw.witness, fun w => ⟨(left.behind hX hch w).1, fun s' hs' => ?_⟩⟩
  refine hideG0 (fun Gz hGz => ?_)
  obtain ⟨s₀, hf, hg0, s, hT, hz, hgens, hg, G00, y⟩ := (left.behind (XP := fun mg h => XP mg h ∧ RecFacts r.records h) (fun s hs => ⟨hX s hs, hRf s hs⟩) hch w).2 s' hs'
  refine hGz ?_
  clear hGz Gz
  have G0 : Ground q loose [] XP w s (s.heap.nsMap mainGlobals) (s.heap.nsMap builtinsNs) s.heap := ⟨G00.T, G00.B, G00.D, G00.TE, G00.TD, G00.W, G00.X.1, G00.cls, G00.has, G00.apart, G00.once, G00.K⟩
  have RF := G00.X.2
  have hT' := hT
  refine ⟨s₀, hf, hg0, s, hT, pin w s hg G0, RF.1, RF.2.1, ?_⟩
  have hgens : s.gens = #[] := Array.eq_empty_of_size_eq_zero (beq_iff_eq.mp hgens)
  have G : Ground q loose r.records XP w s _ _ s.heap := RF.ground G0
  refine callFromN (c := r.claim) hz hgens fun args hpre hlay ord hord => ?_
  refine hideG0 (fun Gz hGz => ?_)
  obtain ⟨⟨vs, s₁⟩, hlaid⟩ := Option.isSome_iff_exists.mp (layAllW_isSome (P := w.params) (ord := ord) G.has args r.args s (pre_splitW hpre).1)
  have keeps := layAllW_keeps _ _ _ hlaid
  have hal := layAllW_rest _ _ _ hlaid
  obtain ⟨as, hrd, hin, hold⟩ := reads_layAllW hord _ _ _ hlaid hlay s₁.heap (fun _ _ e => e)
  have L : Laid r.records w s s₁ args vs as := ⟨⟨ord, hord, hlaid⟩, hrd, hin, hold, keeps, hal.1.trans hgens, hal.2.2.1⟩
  have G₁ := G.keeps hXk keeps
  obtain ⟨f, hf, h⟩ := call w s s₁ _ _ G₁ y args vs as hpre hlay L G.low
  refine hGz ?_
  clear hGz Gz
  have hi := ident_freeW hu ha hap
  have hwi : r.claim.within = [] := List.isEmpty_iff.mp k6
  exact ⟨vs, s₁, hlaid, ht vs w s₁ _ f _ _ G₁.T.g hf (wpN_mono h (fun v s' g => ⟨_, rfl, have z := g.laid (c := r.claim) hsame hwi hi L; ⟨z.1, z.2.1, z.2.2, fun q => ⟨namesKept_of hT' hg kps keeps g.2.1.old, noTable hwr q⟩⟩⟩) fun e s' g => have z := g.laid (c := r.claim) hsame hwi hi L; ⟨z.1, z.2.1, z.2.2, fun q => ⟨namesKept_of hT' hg kps keeps g.2.1.old, noTable hwr q⟩⟩)⟩

abbrev WalkN (q : Program) (loose : List Str) (XP : (Str → Option Value) → Heap → Prop) {α : Type} (Yf : Shared → α) (Ya : World → α) (r : RowW) (d : DefRec) (kwd : List (Str × Expr)) (run : Value → List Value → Sem Value) : Prop :=
  ∀ (w : World) (s₀ s₁ : Shared) (mg mb : Str → Option Value), Ground q loose r.records XP w s₀ mg mb s₁.heap → Yf s₀ = Ya w → ∀ (a : Addr) (o : Obj) (pm cd doc dV kV : Value), s₁.heap.get? a = some o →
    o.data = .func { docDef d.name d.params d.body d.scope pm cd doc with defaults := dV, kwdefaults := kV } → s₁.heap.CodeRec cd d.name → Dflts mg s₁.heap d.params kwd dV kV → mg d.name = some (.ref a) → s₁.gens = #[] →
    ∀ (args : List WData) (vals : List Value) (as : List Addr), Laid r.records w s₀ s₁ args vals as → r.claim.pre args = true → WData.layableAll args = true → ReadsAllW r.records (classAt s₀.heap) s₁.heap vals args as → WellAll w.params s₁.heap vals args → (∀ a ∈ as, (a == sysModules) = false) →
      wpN true (model r.prog w) callerA (run (.ref a) vals) (fun v s' => GoodWG r.claim (classAt s₀.heap) (ExcName.means s₀.heap) args s₁ (.ok (.ret v)) s')
        (fun e s' => GoodWG r.claim (classAt s₀.heap) (ExcName.means s₀.heap) args s₁ (.error e) s') s₁


end

end
end Mine
namespace Mine.PySem.W
section
open PySem.Calls
theorem holds_openX {r : OpenRow} {q : Program} {loose : List Str} {Xt : Shared → Bool} {XP : (Str → Option Value) → Heap → Prop} {α : Type} {Yf : Shared → α} {Ya : World → α} {d : DefRec} {kwd : List (Str × Expr)} {N : Nat}
    (left : ∀ w, (openEnds treeTable r.prog w N).map (fun s => (openSeen q loose (importedModules r.prog.main.body) Xt true s, Yf s)) = some (openGood q loose, Ya w))
    (hX : ∀ s, Xt s = true → XP (s.heap.nsMap mainGlobals) s.heap) (hXk : ∀ mg h h', XP mg h → (∀ b o, h.get? b = some o → h'.get? b = some o) → XP mg h')
    (hdef : defOf q r.name = some (d, kwd)) (hp : r.prog.theDef r.name = some (d.params, d.body, d.scope)) (hk : kwWritten? d.params.kwonlyargs d.params.kw_defaults = some kwd) (hRf : ∀ s, Xt s = true → RecFacts r.records s.heap) (hwr : (!r.writes || r.records.isEmpty) = true)
    (k1 : r.wellSaid = true) (ok : (chainsOk q && opensWell r.prog && (frees r.toRowW && r.within.isEmpty)) = true) (hb : r.prog.bare) (hw : r.toRowW.promised)
    (call : WalkN q loose XP Yf Ya r.toRowW d kwd fun f vs => PySem.call f vs) : r.Holds := by
  refine ⟨k1, hw, openAnyN (r := r.toRowW) (run := fun f vs => PySem.call f vs) (tree := fun vs => do match ← nsGet mainNs r.name with
      | some f => do ret (← PySem.call f vs)
      | none => unsupported "claim.caller:no-such-global") left hX hXk hRf hwr ok hb hw
    (fun vs w s mg f Q E hg hf h => wpN_bindA (wpAny_nsGet hg (by rw [hf]; exact wpN_bind (wpN_mono h (fun _ _ x => wpN_any (wpAny_pure x)) fun _ _ x => x))))
    (fun w s hg G n hn => ?_) fun w s₀ s₁ mg mb G Y args vs as hpre hlay L low => ?_⟩
  · obtain rfl : n = r.name := by split at hn <;> simp_all
    exact pinned_of_view hg G hdef hp hk
  · obtain ⟨a, o, pm, cd, doc, dV, kV, h1, h2, h3, h4, h5⟩ := G.fn hdef
    exact ⟨.ref a, h1, call w s₀ s₁ mg mb G Y a o pm cd doc dV kV h2 h3 h4 h5 (defOf_name hdef ▸ h1) L.gens args vs as L hpre hlay L.reads L.well (L.low low)⟩

end
end Mine.PySem.W
namespace Mine
section
open PySem.W.X

local macro_rules | `(tactic| o_head $_t) => `(tactic| z_head)
set_option maxRecDepth 100000 in
set_option maxHeartbeats 0 in
open_top hd for PySem.Challenge.rw_xo0030_01.row
set_option maxRecDepth 100000 in
set_option maxHeartbeats 0 in
theorem said_of (h : PySem.Challenge.rw_xo0030_01.row.wellSaid = true) : PySem.Challenge.rw_xo0030_01.wellSaid = true := by
  unfold OpenLaw.wellSaid
  rw [h]
  decide +kernel

end
section
open PySem.Calls


set_option maxHeartbeats 0 in
theorem fill_dummy (P : Params) : PySem.Challenge.rw_xo0030_01 = PySem.Challenge.rw_xo0030_01 ∧ Mine.hd.heap_1 P = Mine.hd.heap_1 P := by
  k_fill
  exact ⟨rfl, rfl⟩

noncomputable abbrev LOOSE : List Str := [Str.ofString "_Accumulator"]
abbrev Top0 (mg mb : Str → Option Value) (h : Heap) : Prop := TopRead Mine.hd.view_461 LOOSE mg mb h

/-- the two tables of code objects that the run lets grow -/
noncomputable def tabs : List Addr := [140, 147]
def TabAt (h : Heap) (P : Addr) (ps : Array Value) : Prop := h.get? P = some { cls := .none, data := .fields ps } ∧ TriplesOk ps.toList
def Tabs (h : Heap) : Prop := (∃ ps, TabAt h 140 ps) ∧ ∃ ps, TabAt h 147 ps

structure Ext (S : List Addr) (s s' : Shared) : Prop where
  keep : ∀ b o, b ∉ S → b ∉ tabs → s.heap.get? b = some o → s'.heap.get? b = some o
  tab : ∀ P ∈ tabs, ∀ ps, TabAt s.heap P ps → ∃ more, TabAt s'.heap P (ps ++ more)
  gens : AllBare s.gens → AllBare s'.gens
  os : s'.os = s.os

theorem Ext.refl (S : List Addr) (s : Shared) : Ext S s s := ⟨fun _ _ _ _ e => e, fun _ _ ps e => ⟨#[], by simpa using e⟩, id, rfl⟩
theorem Ext.trans {S : List Addr} {s s' s'' : Shared} (x : Ext S s s') (y : Ext S s' s'') : Ext S s s'' :=
  ⟨fun b o h1 h2 e => y.keep b o h1 h2 (x.keep b o h1 h2 e), fun P hP ps e => by
    obtain ⟨m1, e1⟩ := x.tab P hP ps e
    obtain ⟨m2, e2⟩ := y.tab P hP _ e1
    exact ⟨m1 ++ m2, by rw [← Array.append_assoc]; exact e2⟩, fun g => y.gens (x.gens g), y.os.trans x.os⟩
theorem Ext.mono {S S' : List Addr} {s s' : Shared} (x : Ext S s s') (h : ∀ a ∈ S, a ∈ S') : Ext S' s s' :=
  ⟨fun b o h1 h2 e => x.keep b o (fun m => h1 (h _ m)) h2 e, x.tab, x.gens, x.os⟩
/-- what was made within needs no mention -/
theorem Ext.fresh {S S' : List Addr} {s s' : Shared} (x : Ext S' s s') (h : ∀ a ∈ S', a ∈ S ∨ s.heap.get? a = none) : Ext S s s' :=
  ⟨fun b o h1 h2 e => x.keep b o (fun m => (h b m).elim h1 fun q => by rw [e] at q; cases q) h2 e, x.tab, x.gens, x.os⟩

/-- the base that all spec's stand on -/
structure Ok (w : World) (mg mb : Str → Option Value) (h : Heap) : Prop where
  frag : (Mine.hd.heap_1 w.params).In h
  T : Top0 mg mb h
  P : Tabs h
  M4 : h.get? 4 = some { cls := .type "module", dict := some builtinsNs }

theorem notab_of {h : Heap} {b : Addr} (hb : b ∉ tabs) : b ≠ 140 ∧ b ≠ 147 := by
  constructor <;> rintro rfl <;> exact hb (by simp [tabs])
theorem K_notab (P : Params) {a : Addr} {o : Obj} (e : (Mine.hd.heap_1 P).lookup a = some o) : a ∉ tabs := by
  intro hm
  simp only [tabs, List.mem_cons, List.not_mem_nil, or_false] at hm
  rcases hm with rfl | rfl <;> cases e
theorem Ok.keeps {w : World} {mg mb : Str → Option Value} {h h' : Heap} (x : Ok w mg mb h) (k : ∀ b o, h.get? b = some o → h'.get? b = some o) : Ok w mg mb h' :=
  ⟨x.frag.keeps k, x.T.keeps k, let ⟨⟨a, e1, e2⟩, b, e3, e4⟩ := x.P; ⟨⟨a, k _ _ e1, e2⟩, b, k _ _ e3, e4⟩, k _ _ x.M4⟩
theorem ns_at {h h' : Heap} {a : Addr} {m : Str → Option Value} (hn : h.Ns a m) (e : ∀ o, h.get? a = some o → h'.get? a = some o) : h'.Ns a m :=
  let ⟨o, es, ep, x, r⟩ := hn; ⟨o, es, ep, e _ x, r⟩
/-- S: what a call may change; all of it lies above the first 240 objects -/
theorem Ok.ext {w : World} {mg mb : Str → Option Value} {s s' : Shared} {S : List Addr} (x : Ok w mg mb s.heap) (y : Ext S s s') (hS : ∀ a ∈ S, 240 ≤ a) : Ok w mg mb s'.heap := by
  have k : ∀ b o, b < 240 → b ∉ tabs → s.heap.get? b = some o → s'.heap.get? b = some o := fun b o hb ht e => y.keep b o (fun m => absurd (hS b m) (Nat.not_le.mpr hb)) ht e
  refine ⟨fun a o e => ?_, ⟨?_, ?_, ?_, x.T.builtins, x.T.free⟩, ⟨?_, ?_⟩, k _ _ (by decide) (by decide) x.M4⟩
  · by_cases ha : a < 240
    · exact k a o ha (K_notab _ e) (x.frag a o e)
    · exfalso
      have hm : ∃ o, (a, o) ∈ Mine.hd.heap_1 w.params := ⟨o, by
        have := e
        rw [List.lookup_eq_some_iff] at this
        obtain ⟨l1, l2, h1, _⟩ := this
        rw [h1]; simp⟩
      obtain ⟨o', hm⟩ := hm
      have hall : (Mine.hd.heap_1 w.params).all (fun p => decide (p.1 < 240)) = true := by
        show _ = true
        rfl
      exact ha (of_decide_eq_true (List.all_eq_true.mp hall _ hm))
  · exact ns_at x.T.g fun o e => k _ o (by decide) (by decide) e
  · exact ns_at x.T.b fun o e => k _ o (by decide) (by decide) e
  · obtain ⟨mc, h1, h2⟩ := x.T.nolimit
    exact ⟨mc, ns_at h1 fun o e => k _ o (by decide) (by decide) e, h2⟩
  · obtain ⟨ps, e⟩ := x.P.1
    obtain ⟨m, e'⟩ := y.tab 140 (by simp [tabs]) ps e
    exact ⟨_, e'⟩
  · obtain ⟨ps, e⟩ := x.P.2
    obtain ⟨m, e'⟩ := y.tab 147 (by simp [tabs]) ps e
    exact ⟨_, e'⟩

theorem Ok.stays {w : World} {mg mb : Str → Option Value} {h g : Heap} (x : Ok w mg mb h) (k : ∀ b o, b < 240 → b ∉ tabs → h.get? b = some o → g.get? b = some o) : (Mine.hd.heap_1 w.params).In g ∧ Top0 mg mb g := by
  refine ⟨fun a o e => ?_, ⟨?_, ?_, ?_, x.T.builtins, x.T.free⟩⟩
  · have hm : (a, o) ∈ Mine.hd.heap_1 w.params ∨ ∃ o, (a, o) ∈ Mine.hd.heap_1 w.params := by
      rw [List.lookup_eq_some_iff] at e
      obtain ⟨l1, l2, h1, _⟩ := e
      exact .inr ⟨o, by rw [h1]; simp⟩
    have hm : ∃ o, (a, o) ∈ Mine.hd.heap_1 w.params := hm.elim (fun q => ⟨o, q⟩) id
    obtain ⟨o', hm⟩ := hm
    have hall : (Mine.hd.heap_1 w.params).all (fun p => decide (p.1 < 240)) = true := by
      show _ = true
      rfl
    exact k a o (of_decide_eq_true (List.all_eq_true.mp hall _ hm)) (K_notab _ e) (x.frag a o e)
  · exact ns_at x.T.g fun o e => k _ o (by decide) (by decide) e
  · exact ns_at x.T.b fun o e => k _ o (by decide) (by decide) e
  · obtain ⟨mc, h1, h2⟩ := x.T.nolimit
    exact ⟨mc, ns_at h1 fun o e => k _ o (by decide) (by decide) e, h2⟩

section
variable {prog : Program} {w : World} {A : Around} {s : Shared} {mg mb : Str → Option Value}
  {name qual : Str} {params : Arguments} {body : List Stmt} {scope : Scope} {dV kV doc pm cdv ct oc : Value} {an od : Option Addr} {osl : Array (Option Value)} {f : Addr} {args : Args} {binds : List (Str × Value)}

theorem rawCall (H : List Addr) {P : Value → Shared → Prop} (O : Ok w mg mb s.heap)
    (ho : (Mine.hd.heap_1 w.params).lookup f = some ⟨oc, od, .func (fnOf name qual params body scope dV kV doc pm an cdv ct), osl⟩) (hcd : codeIn (Mine.hd.heap_1 w.params) cdv qual = true) (hroom : A.depth < recursionLimit)
    (hbind : BindsTo s (fnOf name qual params body scope dV kV doc pm an cdv ct) args binds) (hloc : ∀ y ∈ binds, scope.names.lookup y.1 = some .local) (hH : ∀ a ∈ H, a ∈ tabs ∨ 240 ≤ a)
    (h : ∀ g L' h₁, g = hideAll s.heap H → L' = s.heap.objs.size → Fr g L' h₁ (fun y => binds.reverse.lookup y) → (Mine.hd.heap_1 w.params).In g → Top0 mg mb g → (∀ b o, s.heap.get? b = some o → h₁.get? b = some o) →
      wpAny (model prog w) (A.deeper (envOf qual scope L' f cdv)) (execs body (envOf qual scope L' f cdv)) (fun fl s' => P (match fl with | .ret v => v | _ => .none) s') NoE { s with heap := h₁, toks := s.toks + binds.length })
    (hcell : ∀ x ∈ scope.names, x.2 ≠ .cell := by decide) (hco : scope.isCoroutine = false := by rfl) (hgen : scope.isGenerator = false := by rfl) (hk : scope.kind = .function := by rfl) :
    codeAny (model prog w) A (.call (.ref f) args) (fun r s' => ∃ v, r = .ok (.ret v) ∧ P v s') s := by
  refine codeAny_call_def (fd := fnOf name qual params body scope dV kV doc pm an cdv ct) (body := body) (binds := binds) hroom (O.frag _ _ ho) rfl O.T.nolimit (codeRec_of O.frag hcd) rfl hbind hcell hloc (fun h₁ hns hk₁ => ?_) hco hgen hk
  obtain ⟨X, T⟩ := O.stays (g := hideAll s.heap H) fun b o hb ht e => hideAll_get _ e fun m => (hH b m).elim ht fun q => absurd hb (Nat.not_lt.mpr q)
  exact wpAny_mono (h _ s.heap.objs.size h₁ rfl rfl ⟨hns, fun b o e => hk₁ b o (of_hideAll _ e), Nat.le_of_eq (hideAll_size _ _)⟩ X T hk₁) (fun fl s' hp => ⟨_, rfl, hp⟩) fun _ _ e => e.elim

theorem wpCall {fv : Value} {vs : List Value} {kw : List (Str × Value)} {Q : Value → Shared → Prop} {E : Value → Shared → Prop} {P : Value → Shared → Prop}
    (h : codeAny (model prog w) A (.call fv ⟨vs, kw⟩) (fun r s' => ∃ v, r = .ok (.ret v) ∧ P v s') s) (k : ∀ v s', P v s' → Q v s') : wpAny (model prog w) A (call fv vs kw) Q E s :=
  wpAny_call (codeAny_mono h fun r s' z => by obtain ⟨v, rfl, hp⟩ := z; exact k v s' hp)
end

/-- a frame's end: nothing that stood before was changed but S -/
theorem ext_fr {S : List Addr} {s s' : Shared} {L : Addr} {m : Str → Option Value} (F : Fr (hideAll s.heap S) L s'.heap m) (hS : ∀ a ∈ S, 240 ≤ a) (hg : s'.gens = s.gens) (hos : s'.os = s.os) : Ext S s s' :=
  ⟨fun b o h1 _ e => F.keep b o (hideAll_get _ e h1), fun P hP ps e => ⟨#[], by
    have hn : P ∉ S := fun m => by
      have q := hS P m
      simp only [tabs, List.mem_cons, List.not_mem_nil, or_false] at hP
      rcases hP with rfl | rfl <;> exact absurd q (by decide)
    exact ⟨by simpa using F.keep _ _ (hideAll_get _ e.1 hn), by simpa using e.2⟩⟩, fun q => hg ▸ q, hos⟩

end
open PySem.Calls

def Again (I : Nat → Shared → Prop) (n : Nat) (s : Shared) : Prop := ∃ m, m < n ∧ I m s
section
variable {prog : Program} {w : World} {A : Around} {s : Shared} {env : Env}
theorem noE {α : Type} {M : Model} {t : Sem α} {Q : α → Shared → Prop} {E : Value → Shared → Prop} (h : wpAny M A t Q NoE s) : wpAny M A t Q E s := wpAny_mono h (fun _ _ x => x) fun _ _ x => x.elim

theorem while_rule {test : Expr} {body : List Stmt} {pos : Pos} {Q : Flow → Shared → Prop} (I : Nat → Shared → Prop) (n : Nat) (h : I n s)
    (turn : ∀ n s, I n s → wpAny (model prog w) A (isTrue test env (eval test env)) (fun b s₂ =>
        if b = true then wpAny (model prog w) A (execs body env) (fun f s₃ => match f with
            | .next | .cont => Again I n s₃
            | .brk => Q .next s₃
            | .ret v => Q (.ret v) s₃) NoE s₂
        else Q .next s₂) NoE s) :
    wpAny (model prog w) A (exec (.While test body [] pos) env) Q NoE s := by
  refine wpAny_While (codeAny_whileLoop I (fun n s hI => ?_) n h)
  refine wpAny_mono (turn n s hI) (fun b s₂ h₂ => ?_) fun _ _ e => e.elim
  cases b with
  | false => simp only [Bool.false_eq_true, if_false] at h₂ ⊢; exact wpAny_execs_nil h₂
  | true =>
    simp only [if_true] at h₂ ⊢
    exact wpAny_mono h₂ (fun f s₃ h₃ => by cases f <;> exact h₃) fun _ _ e => e.elim

theorem for_rule {target iter : Expr} {body : List Stmt} {pos : Pos} {Q : Flow → Shared → Prop}
    (h : wpAny (model prog w) A (eval iter env) (fun x s₁ => wpAny (model prog w) A (pyIter x) (fun it s₂ => ∃ (I : Nat → Shared → Prop) (n : Nat), I n s₂ ∧
      ∀ n s, I n s → wpAny (model prog w) A (pyNext it) (fun r s₁ => match r with
        | none => Q .next s₁
        | some v => wpAny (model prog w) A (assign target env v) (fun _ s₂ => wpAny (model prog w) A (execs body env) (fun f s₃ => match f with
            | .next | .cont => Again I n s₃
            | .brk => Q .next s₃
            | .ret v => Q (.ret v) s₃) NoE s₂) NoE s₁) NoE s) NoE s₁) NoE s)
    (hs : ∀ x, foldedSetIterable iter env x = pure x := by intro _; rfl) (ht : ∀ it v, letOwnedTupleGo target it v = pure () := by intro _ _; rfl) :
    wpAny (model prog w) A (exec (.For target iter body [] pos) env) Q NoE s := by
  refine wpAny_For (wpAny_mono h (fun x s₁ h₁ => wpAny_mono h₁ (fun it s₂ h₂ => ?_) fun _ _ e => e) fun _ _ e => e) hs
  obtain ⟨I, n, hI, turn⟩ := h₂
  refine codeAny_forLoop I (fun n s hI => ?_) n hI (ht it)
  refine wpAny_mono (turn n s hI) (fun r s₁ h₁ => ?_) fun _ _ e => e.elim
  cases r with
  | none => exact wpAny_execs_nil h₁
  | some v => exact wpAny_mono h₁ (fun _ s₂ h₂ => wpAny_mono h₂ (fun f s₃ h₃ => by cases f <;> exact h₃) fun _ _ e => e.elim) fun _ _ e => e.elim

theorem for_rule_any {target iter : Expr} {body : List Stmt} {pos : Pos} {Q : Flow → Shared → Prop}
    (h : wpAny (model prog w) A (eval iter env) (fun x s₁ => wpAny (model prog w) A (pyIter x) (fun it s₂ => ∃ (I : Nat → Shared → Prop) (n : Nat), I n s₂ ∧
      ∀ n s, I n s → wpAny (model prog w) A (pyNext it) (fun r s₁ => match r with
        | none => Q .next s₁
        | some v => wpAny (model prog w) A (letOwnedTupleGo target it v) (fun _ s₁' => wpAny (model prog w) A (assign target env v) (fun _ s₂ => wpAny (model prog w) A (execs body env) (fun f s₃ => match f with
            | .next | .cont => Again I n s₃
            | .brk => Q .next s₃
            | .ret v => Q (.ret v) s₃) NoE s₂) NoE s₁') NoE s₁) NoE s) NoE s₁) NoE s)
    (hs : ∀ x, foldedSetIterable iter env x = pure x := by intro _; rfl) :
    wpAny (model prog w) A (exec (.For target iter body [] pos) env) Q NoE s := by
  refine wpAny_For (wpAny_mono h (fun x s₁ h₁ => wpAny_mono h₁ (fun it s₂ h₂ => ?_) fun _ _ e => e) fun _ _ e => e) hs
  obtain ⟨I, n, hI, turn⟩ := h₂
  refine codeAny_forLoop_any I (fun n s hI => ?_) n hI
  refine wpAny_mono (turn n s hI) (fun r s₁ h₁ => ?_) fun _ _ e => e.elim
  cases r with
  | none => exact wpAny_execs_nil h₁
  | some v => exact wpAny_mono h₁ (fun _ s₂ h₂ => wpAny_mono h₂ (fun _ s₂ h₂ => wpAny_mono h₂ (fun f s₃ h₃ => by cases f <;> exact h₃) fun _ _ e => e.elim) fun _ _ e => e.elim) fun _ _ e => e.elim
end
section
variable {prog : Program} {w : World} {A : Around} {s : Shared} {mg mb : Str → Option Value}
  {name qual : Str} {params : Arguments} {body : List Stmt} {scope : Scope} {dV kV doc pm cdv ct oc : Value} {an od : Option Addr} {osl : Array (Option Value)} {f : Addr}
/-- a call of a def of the text: H is hidden from the new frame's base -/
theorem callQ {vs : List Value} {kw : List (Str × Value)} {Q : Value → Shared → Prop} {E : Value → Shared → Prop} (H : List Addr) (binds : List (Str × Value)) (O : Ok w mg mb s.heap)
    (ho : (Mine.hd.heap_1 w.params).lookup f = some ⟨oc, od, .func (fnOf name qual params body scope dV kV doc pm an cdv ct), osl⟩) (hcd : codeIn (Mine.hd.heap_1 w.params) cdv qual = true) (hroom : A.depth < recursionLimit)
    (hbind : BindsTo s (fnOf name qual params body scope dV kV doc pm an cdv ct) ⟨vs, kw⟩ binds) (hloc : ∀ y ∈ binds, scope.names.lookup y.1 = some .local) (hH : ∀ a ∈ H, a ∈ tabs ∨ 240 ≤ a)
    (h : ∀ g L' h₁ tk, g = hideAll s.heap H → L' = s.heap.objs.size → Fr g L' h₁ (fun y => binds.reverse.lookup y) → (Mine.hd.heap_1 w.params).In g → Top0 mg mb g → (∀ b o, s.heap.get? b = some o → h₁.get? b = some o) →
      wpAny (model prog w) (A.deeper (envOf qual scope L' f cdv)) (execs body (envOf qual scope L' f cdv)) (fun fl s' => Q (match fl with | .ret v => v | _ => .none) s') NoE { s with heap := h₁, toks := tk })
    (hcell : ∀ x ∈ scope.names, x.2 ≠ .cell := by decide) (hco : scope.isCoroutine = false := by rfl) (hgen : scope.isGenerator = false := by rfl) (hk : scope.kind = .function := by rfl) :
    wpAny (model prog w) A (call (.ref f) vs kw) Q E s :=
  wpCall (rawCall H O ho hcd hroom hbind hloc hH (fun g L' h₁ e1 e2 F' X' T' hk' => h g L' h₁ _ e1 e2 F' X' T' hk') hcell hco hgen hk) fun _ _ z => z
end
theorem hide_nil (h : Heap) : hideAll h [] = h := rfl
theorem fr_keeps {h h' : Heap} {L : Addr} {m : Str → Option Value} (F : Fr (hideAll h []) L h' m) : ∀ b o, h.get? b = some o → h'.get? b = some o := F.keep
theorem fr_map {h₀ h : Heap} {L : Addr} {m m' : Str → Option Value} (F : Fr h₀ L h m) (e : ∀ y, m y = m' y) : Fr h₀ L h m' := by rw [← funext e]; exact F
def Done (P : Shared → Prop) (s : Shared) : Prop := P s
section
variable {prog : Program} {w : World} {A : Around} {s : Shared} {env : Env}
theorem while_exit {test : Expr} {body : List Stmt} {pos : Pos} {Q : Flow → Shared → Prop} (P : Shared → Prop) (I : Nat → Shared → Prop) (n : Nat) (h : I n s)
    (turn : ∀ n s, I n s → wpAny (model prog w) A (isTrue test env (eval test env)) (fun b s₂ =>
        if b = true then wpAny (model prog w) A (execs body env) (fun f s₃ => match f with
            | .next | .cont => Again I n s₃
            | .brk => Done P s₃
            | .ret _ => False) NoE s₂
        else Done P s₂) NoE s) (k : ∀ s', P s' → Q .next s') :
    wpAny (model prog w) A (exec (.While test body [] pos) env) Q NoE s := by
  refine while_rule I n h fun n s hI => wpAny_mono (turn n s hI) (fun b s₂ h₂ => ?_) fun _ _ e => e
  cases b with
  | false => simp only [Bool.false_eq_true, if_false] at h₂ ⊢; exact k _ h₂
  | true =>
    simp only [if_true] at h₂ ⊢
    exact wpAny_mono h₂ (fun f s₃ h₃ => by cases f <;> first | exact h₃ | exact k _ h₃ | exact h₃.elim) fun _ _ e => e
theorem for_exit {target iter : Expr} {body : List Stmt} {pos : Pos} {Q : Flow → Shared → Prop}
    (h : wpAny (model prog w) A (eval iter env) (fun x s₁ => wpAny (model prog w) A (pyIter x) (fun it s₂ => ∃ (P : Shared → Prop) (I : Nat → Shared → Prop) (n : Nat), I n s₂ ∧
      (∀ n s, I n s → wpAny (model prog w) A (pyNext it) (fun r s₁ => match r with
        | none => Done P s₁
        | some v => wpAny (model prog w) A (assign target env v) (fun _ s₂ => wpAny (model prog w) A (execs body env) (fun f s₃ => match f with
            | .next | .cont => Again I n s₃
            | .brk => Done P s₃
            | .ret _ => False) NoE s₂) NoE s₁) NoE s) ∧ ∀ s', P s' → Q .next s') NoE s₁) NoE s)
    (hs : ∀ x, foldedSetIterable iter env x = pure x := by intro _; rfl) (ht : ∀ it v, letOwnedTupleGo target it v = pure () := by intro _ _; rfl) :
    wpAny (model prog w) A (exec (.For target iter body [] pos) env) Q NoE s := by
  refine for_rule (wpAny_mono h (fun x s₁ h₁ => wpAny_mono h₁ (fun it s₂ h₂ => ?_) fun _ _ e => e) fun _ _ e => e) hs ht
  obtain ⟨P, I, n, hI, turn, k⟩ := h₂
  refine ⟨I, n, hI, fun n s hI => wpAny_mono (turn n s hI) (fun r s₁ h₁ => ?_) fun _ _ e => e⟩
  cases r with
  | none => exact k _ h₁
  | some v => exact wpAny_mono h₁ (fun _ s₂ h₂ => wpAny_mono h₂ (fun f s₃ h₃ => by cases f <;> first | exact h₃ | exact k _ h₃ | exact h₃.elim) fun _ _ e => e) fun _ _ e => e
end
section
variable {b : Bool} {prog : Program} {w : World} {A : Around} {E : Value → Shared → Prop} {s : Shared} {env : Env} {R : Result → Shared → Prop}
/-- a For whose body is walked in the long form -/
theorem forN_rule {target iter : Expr} {body : List Stmt} {pos : Pos} {Q : Flow → Shared → Prop}
    (h : wpN b (model prog w) A (eval iter env) (fun x s₁ => wpAny (model prog w) A (pyIter x) (fun it s₂ => ∃ (I : Nat → Shared → Prop) (n : Nat), I n s₂ ∧
      ∀ n s, I n s → wpAny (model prog w) A (pyNext it) (fun r s₁ => match r with
        | none => Q .next s₁
        | some v => wpAny (model prog w) A (assign target env v) (fun _ s₂ => wpN b (model prog w) A (execs body env) (fun f s₃ => match f with
            | .next | .cont => Again I n s₃
            | .brk => Q .next s₃
            | .ret v => Q (.ret v) s₃) NoE s₂) NoE s₁) NoE s) NoE s₁) NoE s)
    (hs : ∀ x, foldedSetIterable iter env x = pure x := by intro _; rfl) (ht : ∀ it v, letOwnedTupleGo target it v = pure () := by intro _ _; rfl) :
    wpN b (model prog w) A (exec (.For target iter body [] pos) env) Q NoE s := by
  refine wpN_For (wpN_mono h (fun x s₁ h₁ => wpAny_mono h₁ (fun it s₂ h₂ => ?_) fun _ _ e => e) fun _ _ e => e) hs
  obtain ⟨I, n, hI, turn⟩ := h₂
  refine codeN_loop rfl rfl I (fun n s hI => ?_) n hI
  show wpN b _ _ ((forTurn target it body [] env).onRaise (fun x => do noteFrame x env; theTreesLotGoes x)) _ _ s
  refine wpN_onRaise (wpN_mono (E := NoE) ?_ (fun _ _ q => q) fun _ _ e => e.elim)
  simp only [forTurn]
  refine wpN_bindA (wpAny_standAt (wpN_bindA (wpAny_onRaise (wpAny_mono (turn n s hI) (fun r s₁ h₁ => ?_) fun _ _ h' => h'.elim))))
  cases r with
  | none => exact wpN_any (wpAny_pure (.inr ⟨rfl, codeN_any (codeAny_block (wpAny_execs_nil h₁))⟩))
  | some v =>
    refine wpN_bindA (wpAny_of_eq (ht it v) ?_)
    refine wpN_bindA (wpAny_mono h₁ (fun _ s₂ h₂ => wpN_bind (wpN_mono h₂ (fun f s₃ h₃ => ?_) fun _ _ h' => h')) fun _ _ h' => h')
    cases f with
    | next => exact wpN_any (wpAny_pure (.inl ⟨rfl, h₃⟩))
    | cont => exact wpN_any (wpAny_pure (.inl ⟨rfl, h₃⟩))
    | brk => exact wpN_any (wpAny_pure h₃)
    | ret v => exact wpN_any (wpAny_pure h₃)
end


theorem hideQ {α : Type} {M : Model} {A : Around} {t : Sem α} {Q : α → Shared → Prop} {E : Value → Shared → Prop} {s : Shared} (h : ∀ R : α → Shared → Prop, (∀ x s', Q x s' → R x s') → wpAny M A t R E s) : wpAny M A t Q E s := h Q fun _ _ q => q
theorem hideN {α : Type} {b : Bool} {M : Model} {A : Around} {t : Sem α} {Q : α → Shared → Prop} {E : Value → Shared → Prop} {s : Shared} (h : ∀ R : α → Shared → Prop, (∀ x s', Q x s' → R x s') → wpN b M A t R E s) : wpN b M A t Q E s := h Q fun _ _ q => q
theorem hideG {P : Prop} (h : ∀ G : Prop, (P → G) → G) : P := h P id


noncomputable def accNames : List Str := ["push", "pop", "pop_from", "part_count", "reset", "is_onlyws"]
section
variable {M : Model} {A : Around} {E : Value → Shared → Prop} {s : Shared} {env : Env}
theorem gdW {t b o p} {Q : Flow → Shared → Prop} (h : wpAny M A (exec (PySem.Stmt.While t b o p) env) Q E s) : wpAny M A (exec (PySem.Stmt.While t b o p) env) Q E s := h
theorem gdF {t i b o p} {Q : Flow → Shared → Prop} (h : wpAny M A (exec (PySem.Stmt.For t i b o p) env) Q E s) : wpAny M A (exec (PySem.Stmt.For t i b o p) env) Q E s := h
theorem gdL {a b c d} {Q : Value → Shared → Prop} (h : wpAny M A (eval (PySem.Expr.ListComp a b c d) env) Q E s) : wpAny M A (eval (PySem.Expr.ListComp a b c d) env) Q E s := h
theorem gdT {a : Addr} {Q : Bool → Shared → Prop} (h : wpAny M A (truthy (.ref a)) Q E s) : wpAny M A (truthy (.ref a)) Q E s := h
theorem gdC {a : Addr} {vs : List Value} {kw : List (Str × Value)} {Q : Value → Shared → Prop} (h : wpAny M A (call (.ref a) vs kw) Q E s) : wpAny M A (call (.ref a) vs kw) Q E s := h
theorem gdM {a : Addr} {nm : Str} {pl : Sem Bool} {Q : Value × List Value → Shared → Prop} (hn : nm ∈ accNames) (h : wpAny M A (getMethod (.ref a) nm pl) Q E s) : wpAny M A (getMethod (.ref a) nm pl) Q E s := h
theorem gdG {a : Addr} {nm : Str} {pl : Sem Bool} {Q : Value × List Value → Shared → Prop} (h : wpAny M A (getMethod (.ref a) nm pl) Q E s) : wpAny M A (getMethod (.ref a) nm pl) Q E s := h
theorem gdN {a b : Addr} {Q : Value → Shared → Prop} (h : wpAny M A (compareOp .NotEq (.ref a) (.ref b)) Q E s) : wpAny M A (compareOp .NotEq (.ref a) (.ref b)) Q E s := h
theorem gdI {a b : Int} {t u : Tok} {Q : Value → Shared → Prop} (h : wpAny M A (compareOp .NotEq (.int a t) (.int b u)) Q E s) : wpAny M A (compareOp .NotEq (.int a t) (.int b u)) Q E s := h
theorem gdB {f : String} {a : Addr} {k : Int} {t : Tok} {Q : Value → Shared → Prop} (h : wpAny M A (call (.builtin f) [.ref a, .int k t]) Q E s) : wpAny M A (call (.builtin f) [.ref a, .int k t]) Q E s := h
theorem gdE {x : Str} {p : Pos} {n : Str} {sc : Scope} {L a : Addr} {cd : Value} {Q : Value → Shared → Prop} (h : wpAny M A (eval (.Name x p) (envOf n sc L a cd)) Q E s) : wpAny M A (eval (.Name x p) (envOf n sc L a cd)) Q E s := h
theorem gdD {x : Str} {p : Pos} {n : Str} {sc : Scope} {L a : Addr} {cd : Value} {Q : Value → Shared → Prop} (h : wpAny M A (eval (.Name x p) (envOfC n sc L a cd)) Q E s) : wpAny M A (eval (.Name x p) (envOfC n sc L a cd)) Q E s := h
theorem gdX {x : Str} {n : Str} {sc : Scope} {L a : Addr} {cd : Value} {Q : Value → Shared → Prop} (h : wpAny M A (loadName (envOf n sc L a cd) x) Q E s) : wpAny M A (loadName (envOf n sc L a cd) x) Q E s := h
theorem gdY {x : Str} {n : Str} {sc : Scope} {L a : Addr} {cd : Value} {Q : Value → Shared → Prop} (h : wpAny M A (loadName (envOfC n sc L a cd) x) Q E s) : wpAny M A (loadName (envOfC n sc L a cd) x) Q E s := h
theorem ite_beta {α : Type} {c : Prop} [Decidable c] {a b v : α} (h : (if c then a else b) = v) : (if c then a else b) = v := h
end
theorem ldnC {M : Model} {A : Around} {E : Value → Shared → Prop} {s : Shared} {name : Str} {scope : Scope} {L a : Addr} {cd : Value} {h₀ : Heap} {m : Str → Option Value} {x : Str} {v : Value} {Q : Value → Shared → Prop} (F : Fr h₀ L s.heap m) (hv : m x = some v) (h : Q v s)
    (hk : scope.kind = .function := by rfl) (hl : (envOfC name scope L a cd).kindOf x = some .local := by rfl) : wpAny M A (loadName (envOfC name scope L a cd) x) Q E s := wpAny_loadName_local hk hl F.ns hv h
theorem al0 {α : Type} {P : α → Prop} : ∀ x ∈ ([] : List α), P x := fun _ h => nomatch h
theorem al1 {α : Type} {P : α → Prop} {a : α} {l : List α} (h : P a) (H : ∀ x ∈ l, P x) : ∀ x ∈ a :: l, P x := List.forall_mem_cons.mpr ⟨h, H⟩
theorem at_only {h : Heap} {b : Addr} {o₁ : Obj} {P : Obj → Prop} (e : h.get? b = some o₁) (hp : P o₁) : ∀ o, h.get? b = some o → P o := fun _ e' => Option.some.inj (e.symm.trans e') ▸ hp
theorem nin1 {α : Type} {a b : α} (h : a ≠ b) : a ∉ [b] := fun m => h (List.mem_singleton.mp m)
inductive TabsE (h : Heap) : Prop
  | mk (pa : Array Value) (ea1 : h.get? 140 = some { cls := .none, data := .fields pa }) (ea2 : TriplesOk pa.toList) (pb : Array Value) (eb1 : h.get? 147 = some { cls := .none, data := .fields pb }) (eb2 : TriplesOk pb.toList) : TabsE h
theorem Tabs.e {h : Heap} (T : Tabs h) : TabsE h := ⟨T.1.choose, T.1.choose_spec.1, T.1.choose_spec.2, T.2.choose, T.2.choose_spec.1, T.2.choose_spec.2⟩


local macro_rules | `(tactic| walk_at "mine at") => `(tactic| first | with_reducible assumption | ((repeat (with_reducible refine ite_beta ?_; first | refine Eq.trans (if_neg (by decide)) ?_ | refine Eq.trans (if_pos rfl) ?_)); first | with_reducible assumption | with_reducible exact rfl | assumption))
local macro_rules | `(tactic| walk_at "eval Name") => `(tactic| (k_here; with_reducible refine gdD ?_; k_dflt (refine' ldLoc ?k1 ?k2 ?_; (case k1 => k_asm); (case k2 => walk_at "mine at"); k_whole)))
local macro_rules | `(tactic| walk_at "eval Name") => `(tactic| (k_here; with_reducible refine gdE ?_; k_dflt (refine' ld ?k1 ?k2 ?_; (case k1 => k_asm); (case k2 => walk_at "mine at"); k_whole)))
local macro_rules | `(tactic| walk_at "loadName") => `(tactic| (k_here; with_reducible refine gdX ?_; k_dflt (refine' ldn ?k1 ?k2 ?_; (case k1 => k_asm); (case k2 => walk_at "mine at"); k_whole)))
local macro_rules | `(tactic| walk_at "unpackItems ref") => `(tactic| (k_here; k_dflt (refine' unpackItemsN_ ?k1 ?k2 ?k3 ?k4 ?k5 ?_; (case k1 => k_asm); (case k2 => k_asm); (case k3 => kun_tup); (case k4 => assumption); (case k5 => exact rfl); k_whole); intro h' F' N'; (try k_sweep)))
local macro_rules | `(tactic| walk_at "loadName") => `(tactic| (k_here; with_reducible refine gdY ?_; k_dflt (refine' ldnC ?k1 ?k2 ?_; (case k1 => k_asm); (case k2 => walk_at "mine at"); k_whole)))


namespace F
theorem ba_mro : mroOf (.type "bytearray") = pure [.type "bytearray", .type "object"] := by rw [mroOf_type]; kernel_rfl
theorem ba_lookup_new : typeLookup (.type "bytearray") "__new__" = pure (some (.builtin "bytearray.__new__")) := by rw [typeLookup_type, builtinLookup_eq_fast]; kernel_rfl
theorem ba_slot_init : Slot "bytearray" "__init__" "bytearray.__init__" :=
  .of (owner := "bytearray") (n := "__init__") (by rw [typeLookup_type, builtinLookup_eq_fast]; kernel_rfl) (by decide +kernel) (by decide +kernel) (by decide +kernel)
    (by first | exact .inl (by decide +kernel) | exact .inr (by decide +kernel)) (by rw [isSubtype_type]; kernel_rfl)
theorem ba_called : TypeCalled "bytearray" "bytearray.__new__" "bytearray.__init__" :=
  ⟨by decide +kernel, by decide +kernel, ⟨_, _, ba_mro⟩, madeBy_type ba_mro ba_lookup_new (by decide +kernel), by decide +kernel, by rw [isSubtype_type]; kernel_rfl, ba_slot_init⟩
theorem ba_typeCall (a : Value) : checkTypeCall "bytearray" ⟨[a], []⟩ = pure () := by kernel_rfl
theorem ba_newCall (a : Value) : checkBuiltinCall "bytearray.__new__" ⟨[.type "bytearray", a], []⟩ = pure () := by kernel_rfl
theorem ba_plain : plainId "bytearray.__new__" = true := by decide +kernel
theorem ba_entry_new : entryFor table "bytearray.__new__" = some Builtin.«list.__new__» :=
  entryFor_alias (id' := "list.__new__") (by rw [fastTable_eq_tree]; kernel_rfl) (by first | rfl | decide +kernel) (by decide +kernel) (by rw [fastTable_eq_tree]; kernel_rfl)
theorem ba_entry_init : entryFor table "bytearray.__init__" = some Builtin.«bytearray.__init__» := entryFor_of_tree (by kernel_rfl)
theorem ba_release : typeLookup (.type "bytearray") "__release_buffer__" = pure (some (.builtin "bytearray.__release_buffer__")) := by rw [typeLookup_type, builtinLookup_eq_fast]; kernel_rfl
theorem ba_bind (v : Value) : Builtin.Bytes.bindOptional "bytearray.__init__" "bytearray" ["source", "encoding", "errors"] [v] [] = pure [some v, none, none] := by kernel_rfl
theorem ba_sub : isSubtype (.type "bytearray") (.type "bytearray") = pure true := by rw [isSubtype_type]; kernel_rfl
theorem ba_args (v u : Value) : argsOk "bytearray.__init__" ⟨[v, u], []⟩ := by first | kernel_rfl | decide +kernel | exact ⟨_, rfl⟩
end F
set_option maxRecDepth 1000000 in
set_option maxHeartbeats 4000000 in
theorem owner_ba_new : ("bytearray.__new__".splitOn ".__new__").headD "" = "bytearray" := by simp +decide [String.splitOn, String.splitOnAux]
section
variable {prog : Program} {w : World} {A : Around} {E : Value → Shared → Prop} {s : Shared}
theorem code_ba_new (a : Value) {Q₁ : Value → Shared → Prop}
    (h : Q₁ (.ref s.heap.objs.size) { s with heap := s.heap.push { cls := .type "bytearray", data := .bytearray #[] } }) :
    codeAny (model prog w) A (.call (.builtin "bytearray.__new__") ⟨[.type "bytearray", a], []⟩) (wants Q₁ E) s := by
  refine codeAny_of_tree ?_
  show wpAny _ A.in1 (do checkBuiltinCall "bytearray.__new__" ⟨[.type "bytearray", a], []⟩; again (.builtin "bytearray.__new__" ⟨[.type "bytearray", a], []⟩)) _ _ s
  refine wpAny_bind (wpAny_of_eq (F.ba_newCall a) (wpAny_pure ⟨plainId_quiet F.ba_plain _, codeAny_builtin_stack F.ba_entry_new rfl fun p st => ?_⟩))
  rw [Around.under_plainId F.ba_plain _]
  have hsub := F.ba_sub
  have hown := owner_ba_new
  obtain ⟨hp, g, d, tk, os⟩ := s
  simp only [hown]
  wp_walk
  exact h
theorem badC_builtin (id : String) (args : Args) : badC (.builtin id args) = badIds.contains id := rfl
theorem wpN_exported {self : Value} {Q : Bool → Shared → Prop} (h : Q false s) : wpN true (model prog w) A (Builtin.Bytes.exported self) Q E s := fun Γ p hΓ hn => by
  obtain ⟨h1, h2⟩ := hn rfl
  have key : ∀ b, b = false → Q b s := by rintro _ rfl; exact h
  unfold Builtin.Bytes.exported
  refine key (((Γ.code, p) :: Γ.below).any _) ?_
  rw [List.any_eq_false]
  intro x hx
  rw [Bool.not_eq_true]
  obtain ⟨c, q⟩ := x
  have hb : badC c = false := by
    rcases List.mem_cons.mp hx with hx | hx
    · cases hx; exact h1
    · exact h2 _ hx
  clear hx
  cases c with
  | builtin id args =>
    rw [badC_builtin] at hb
    have hne : ∀ z : String, badIds.contains z = true → id ≠ z := fun z hz e => by rw [e, hz] at hb; cases hb
    have hdec : Builtin.Bytes.decodersThatHold.contains id = false := by
      cases hq : Builtin.Bytes.decodersThatHold.contains id with
      | false => rfl
      | true => exact absurd rfl (hne id (List.contains_iff_mem.mpr (List.mem_append_right _ (List.contains_iff_mem.mp hq))))
    obtain ⟨vs, kw⟩ := args
    delta PySem.Builtin.Bytes.exported.match_1
    dsimp only
    refine Eq.trans (dif_neg (hne "bytearray.__contains__" (by decide +kernel))) ?_
    refine Eq.trans (dif_neg (hne "bytearray.__mod__" (by decide +kernel))) ?_
    refine Eq.trans (dif_neg (hne "bytearray.__rmod__" (by decide +kernel))) ?_
    refine Eq.trans (dif_neg (hne "_struct.pack_into.held" (by decide +kernel))) ?_
    refine Eq.trans (dif_neg (hne "bytearray.find.held" (by decide +kernel))) ?_
    cases vs with
    | nil => rfl
    | cons v r =>
      show (_ && Builtin.Bytes.decodersThatHold.contains id) = false
      rw [hdec, Bool.and_false]
  | _ => rfl
end

section
variable {prog : Program} {w : World} {A : Around} {E : Value → Shared → Prop} {s : Shared}
theorem codeN_call_builtin {b : Bool} {id : String} {args : Args} {B : Builtin} {R : Result → Shared → Prop} (hbad : badIds.contains id = false) (hq : plainId id = true) (hb : entryFor table id = some B)
    (h : wpAny (model prog w) A.in1 (checkBuiltinCall id args) (fun _ s₁ => wpN b (model prog w) A.in1 (B args)
      (fun fin s' => match fin with | .done f => R (.ok f) s' | .again c' => c'.quiet = true ∧ codeN b (model prog w) A c' R s') (fun e s' => R (.error e) s') s₁)
      (fun e s' => R (.error e) s') s) : codeN b (model prog w) A (.call (.builtin id) args) R s := by
  refine codeN_of_tree rfl ?_
  show wpN b _ A.in1 (do checkBuiltinCall id args; again (.builtin id args)) _ _ s
  refine wpN_bindA (wpAny_mono h (fun _ s₁ h₁ => wpN_any (wpAny_pure (And.intro (plainId_quiet hq args) (codeN_of_tree hbad ?_)))) fun _ _ h' => h')
  show wpN b _ _ (match entryFor table id with | some b => b args | none => unsupported ((withoutEnding? id "#data").getD id)) _ _ s₁
  rw [hb, Around.under_plainId hq args]; exact h₁
theorem codeN_builtin {b : Bool} {id : String} {args : Args} {B : Builtin} {R : Result → Shared → Prop} (hbad : badIds.contains id = false) (hb : entryFor table id = some B)
    (h : wpN b (model prog w) (A.under (.builtin id args)) (B args)
      (fun fin s' => match fin with | .done f => R (.ok f) s' | .again c' => c'.quiet = true ∧ codeN b (model prog w) A c' R s') (fun e s' => R (.error e) s') s) :
    codeN b (model prog w) A (.builtin id args) R s := by
  refine codeN_of_tree hbad ?_
  show wpN b _ _ (match entryFor table id with | some b => b args | none => unsupported ((withoutEnding? id "#data").getD id)) _ _ s
  rw [hb]; exact h
theorem ba_write {a : Addr} {bs : Array UInt8} {f : Array UInt8 → Array UInt8} {Q : Unit → Shared → Prop} (ha : s.heap.get? a = some { cls := .type "bytearray", data := .bytearray bs }) (hz : (f bs).size ≤ sizeLine)
    (h : ∀ h', h'.get? a = some { cls := .type "bytearray", data := .bytearray (f bs) } → Heap.SameBut a s.heap h' → Q () { s with heap := h' }) : wpAny (model prog w) A (Builtin.Bytes.write (.ref a) f) Q E s := by
  show wpAny _ _ (updateBytearray a f) _ _ _
  unfold updateBytearray
  refine wpAny_bind (wpAny_load ha ?_)
  show wpAny _ _ (update a (Obj.mapBytearray f) >>= fun _ => lookBehind a) _ _ _
  refine wpAny_bind (wpAny_update ha ?_)
  have h2 : (s.heap.update a (Obj.mapBytearray f)).get? a = some { cls := .type "bytearray", data := .bytearray (f bs) } := Heap.get?_update_self (Obj.mapBytearray f) ha rfl
  refine wpAny_lookBehind h2 ?_ (h _ h2 (Heap.SameBut.update ..))
  show (if (f bs).size > sizeLine then some "bytearray:memory" else none) = none
  rw [if_neg (by omega)]
theorem ba_init {a : Addr} {n : Int} {t : Tok} {Q : Fin → Shared → Prop} {E : Value → Shared → Prop} (h0 : 0 ≤ n) (h1 : n ≤ 1000) (ha : s.heap.get? a = some { cls := .type "bytearray", data := .bytearray #[] })
    (h : ∀ h', h'.get? a = some { cls := .type "bytearray", data := .bytearray (Array.replicate n.toNat 0) } → (∀ b o, b ≠ a → s.heap.get? b = some o → h'.get? b = some o) → h'.objs.size = s.heap.objs.size → Q (.done (.ret .none)) { s with heap := h' }) :
    wpN true (model prog w) A (Builtin.«bytearray.__init__» ⟨[.ref a, .int n t], []⟩) Q E s := by
  have hT : s.TypeIs (.ref a) "bytearray" := ⟨_, ha, rfl⟩
  have hrel := F.ba_release
  have hbind := F.ba_bind (.int n t)
  have hsub := F.ba_sub
  show wpN true _ A (Builtin.Bytes.ownRelease (.ref a) >>= _) _ _ _
  refine wpN_bindA ?_
  unfold Builtin.Bytes.ownRelease Builtin.Bytes.slotIsOwn
  repeat (any_goals (first | assumption | wp_step))
  refine wpAny_ite ?_
  rw [if_neg (by decide +kernel), show ("bytearray.__release_buffer__".dropRight ("__release_buffer__".length + 1)) = "bytearray" by decide +kernel]
  refine wpAny_isInstance hT hsub (wpAny_pure ?_)
  refine wpN_bindA (wpAny_of_eq hbind ?_)
  refine wpN_bindA (m := Builtin.Bytes.checkCodecArg _ _ _ none) ?_
  refine wpAny_pure (wpN_bindA (m := Builtin.Bytes.checkCodecArg _ _ _ none) (wpAny_pure ?_))
  refine wpN_bind (m := orM _ _) ?_
  unfold orM
  refine wpN_bind (wpN_exported ?_)
  refine wpN_any ?_
  rw [show toBool false = false from rfl]
  dsimp only
  unfold Builtin.Bytes.exportsOf
  refine wpAny_bind (wpAny_bind (wpAny_load ha (wpAny_pure (wpAny_pure (wpN_any ?_)))))
  rw [if_neg (by decide)]
  refine wpAny_bind (ba_write ha (Nat.zero_le _) fun h₁ ha₁ hs₁ => ?_)
  have hTi : ({ s with heap := h₁ } : Shared).TypeIs (.int n t) "int" := rfl
  have hix : typeLookup (.type "int") "__index__" = pure (some (.builtin "int.__index__")) := by rw [typeLookup_type, builtinLookup_eq_fast]; kernel_rfl
  repeat (any_goals (first | assumption | wp_step))
  have hf : Builtin.Bytes.fitsIndex n = true := by
    unfold Builtin.Bytes.fitsIndex
    rw [Bool.and_eq_true]
    exact ⟨decide_eq_true (by omega), decide_eq_true (by omega)⟩
  have hl : Builtin.Bytes.tooLong n.toNat = false := decide_eq_false (by unfold sizeLine; omega)
  rw [if_neg (by rw [hf]; decide), if_neg (by omega), if_neg (by rw [beq_iff_eq]; omega), hl]
  rw [if_neg (by decide)]
  refine wpAny_bind (wpAny_rule ?_)
  by_cases hn : n > 0
  · rw [if_pos hn]
    refine wpAny_bind (ba_write ha₁ (by simp only [Array.size_replicate]; unfold sizeLine; omega) fun h₂ ha₂ hs₂ => ?_)
    refine wpAny_bind (wpAny_pure (wpAny_pure ?_))
    exact h h₂ ha₂ (fun b o hb e => (hs₂.2 b hb).trans ((hs₁.2 b hb).trans e)) (hs₂.1.trans hs₁.1)
  · rw [if_neg hn]
    obtain rfl : n = 0 := by omega
    refine wpAny_bind (wpAny_pure (wpAny_pure ?_))
    exact h h₁ ha₁ (fun b o hb e => (hs₁.2 b hb).trans e) hs₁.1
theorem bytearrayN {n : Int} {t : Tok} {Q : Value → Shared → Prop} (h0 : 0 ≤ n) (h1 : n ≤ 1000)
    (h : ∀ h' tk, h'.get? s.heap.objs.size = some { cls := .type "bytearray", data := .bytearray (Array.replicate n.toNat 0) } → (∀ b o, s.heap.get? b = some o → h'.get? b = some o) → Q (.ref s.heap.objs.size) { s with heap := h', toks := tk }) :
    wpN true (model prog w) A (call (.type "bytearray") [.int n t]) Q E s := by
  have ft := F.ba_called
  obtain ⟨c, tl, hmro⟩ := ft.mro
  have hmade := ft.made
  have hsub := ft.sub
  have hct := F.ba_typeCall (.int n t)
  have h1' := ft.notType
  have h2' := ft.canCreate
  refine wpN_call (codeN_of_tree rfl ?_)
  show wpN true _ _ (callAny (.type "bytearray") _) _ _ _
  refine wpN_any (wpAny_pure ⟨Code.quiet_builtin _ (by decide +kernel), codeN_builtin (by decide +kernel) F.entry_type_call ?_⟩)
  rw [Around.under_plain (weight_type_call_type "bytearray" [.int n t] []) rfl]
  unfold Builtin.«type.__call__»
  dsimp only
  rw [if_neg (by rw [h1']; decide)]
  rw [if_neg (by rw [h2']; decide)]
  refine wpN_bindA (wpAny_of_eq hct ?_)
  refine wpN_bindA (wpAny_of_eq hmro ?_)
  rw [if_neg (by simp)]
  refine wpN_bindA (wpAny_of_eq hmade ?_)
  dsimp only
  refine wpN_bindA (wpAny_pure (wpN_bindA (wpAny_holding (wpAny_call (codeAny_mono (code_ba_new (E := E) (Q₁ := fun v s' => v = .ref s.heap.objs.size ∧ s' = { s with heap := s.heap.push { cls := .type "bytearray", data := .bytearray #[] } }) (.int n t) ⟨rfl, rfl⟩) fun r s₁ hr => ?_)))))
  match r, hr with
  | .ok (.ret v), hr =>
    obtain ⟨rfl, rfl⟩ := hr
    have ha : (s.heap.push { cls := .type "bytearray", data := .bytearray #[] }).get? s.heap.objs.size = some { cls := .type "bytearray", data := .bytearray #[] } := Heap.get?_push_size _ rfl
    have hT : ({ s with heap := s.heap.push { cls := .type "bytearray", data := .bytearray #[] } } : Shared).TypeIs (.ref s.heap.objs.size) "bytearray" := ⟨_, ha, rfl⟩
    refine wpN_bindA (wpAny_isInstance hT hsub ?_)
    rw [if_neg (by decide)]
    refine wpN_bind (wpN_holding ?_)
    unfold callSpecial?
    refine wpN_bindA (wpAny_specialOf hT ft.init.lookup ?_)
    dsimp only
    refine wpN_holding (wpN_bindA (wpAny_of_eq (ft.init.bind _) ?_))
    dsimp only
    refine wpN_bind (wpN_call (codeN_call_builtin (by decide +kernel) ft.init.plain F.ba_entry_init (ft.init.check _ _ _ _ _ _ _ _ hT (F.ba_args _ _) (ba_init h0 h1 ha fun h' ha' hk hz => ?_))))
    refine wpN_any (wpAny_pure (wpN_any ?_))
    dsimp only
    rw [if_neg (by decide)]
    exact wpAny_pure (h h' _ ha' fun b o e => hk b o (Nat.ne_of_lt (Heap.lt_size e)) (Heap.get?_push_of_some _ e))
  | .ok .next, hr => exact hr.elim
  | .ok .brk, hr => exact hr.elim
  | .ok .cont, hr => exact hr.elim
  | .error e, hr => exact hr
end


namespace F
theorem ba_slot_set : Slot "bytearray" "__setitem__" "bytearray.__setitem__" :=
  .of (owner := "bytearray") (n := "__setitem__") (by rw [typeLookup_type, builtinLookup_eq_fast]; kernel_rfl) (by decide +kernel) (by decide +kernel) (by decide +kernel)
    (by first | exact .inl (by decide +kernel) | exact .inr (by decide +kernel)) (by rw [isSubtype_type]; kernel_rfl)
theorem ba_entry_set : entryFor table "bytearray.__setitem__" = some Builtin.«bytearray.__setitem__» := entryFor_of_tree (by kernel_rfl)
theorem ba_args_set (v u x : Value) : argsOk "bytearray.__setitem__" ⟨[v, u, x], []⟩ := by first | kernel_rfl | decide +kernel | exact ⟨_, rfl⟩
theorem ba_no_bytes : typeLookup (.type "bytearray") "__bytes__" = pure none := by rw [typeLookup_type, builtinLookup_eq_fast]; kernel_rfl
theorem ba_no_index : typeLookup (.type "bytearray") "__index__" = pure none := by rw [typeLookup_type, builtinLookup_eq_fast]; kernel_rfl
theorem ba_buffer : typeLookup (.type "bytearray") "__buffer__" = pure (some (.builtin "bytearray.__buffer__")) := by rw [typeLookup_type, builtinLookup_eq_fast]; kernel_rfl
end F
section
variable {prog : Program} {w : World} {A : Around} {E : Value → Shared → Prop} {s : Shared}
theorem ba_payload {a : Addr} {bs : Array UInt8} {Q : Array UInt8 → Shared → Prop} (ha : s.heap.get? a = some { cls := .type "bytearray", data := .bytearray bs }) (h : Q bs s) : wpAny (model prog w) A (Builtin.Bytes.payload (.ref a)) Q E s := by
  unfold Builtin.Bytes.payload Builtin.Bytes.payload?
  refine wpAny_bind (wpAny_bind (wpAny_load ha ?_))
  exact wpAny_pure (wpAny_pure h)
theorem ba_ownRelease {a : Addr} {bs : Array UInt8} {Q : Bool → Shared → Prop} (ha : s.heap.get? a = some { cls := .type "bytearray", data := .bytearray bs }) (h : Q false s) : wpAny (model prog w) A (Builtin.Bytes.ownRelease (.ref a)) Q E s := by
  have hT : s.TypeIs (.ref a) "bytearray" := ⟨_, ha, rfl⟩
  have hrel := F.ba_release
  unfold Builtin.Bytes.ownRelease Builtin.Bytes.slotIsOwn
  repeat (any_goals (first | assumption | wp_step))
  refine wpAny_ite ?_
  rw [if_neg (by decide +kernel), show ("bytearray.__release_buffer__".dropRight ("__release_buffer__".length + 1)) = "bytearray" by decide +kernel]
  exact wpAny_isInstance hT F.ba_sub (wpAny_pure h)
theorem ba_ownBuffer {a : Addr} {bs : Array UInt8} {Q : Bool → Shared → Prop} (ha : s.heap.get? a = some { cls := .type "bytearray", data := .bytearray bs }) (h : Q true s) : wpAny (model prog w) A (Builtin.Bytes.slotIsOwn (.ref a) "__buffer__") Q E s := by
  have hT : s.TypeIs (.ref a) "bytearray" := ⟨_, ha, rfl⟩
  have hrel := F.ba_buffer
  unfold Builtin.Bytes.slotIsOwn
  repeat (any_goals (first | assumption | wp_step))
  refine wpAny_ite ?_
  rw [if_neg (by decide +kernel), show ("bytearray.__buffer__".dropRight ("__buffer__".length + 1)) = "bytearray" by decide +kernel]
  exact wpAny_isInstance hT F.ba_sub h
theorem ba_setitem {a : Addr} {bs : Array UInt8} {k v : Int} {t u : Tok} {Q : Unit → Shared → Prop} (ha : s.heap.get? a = some { cls := .type "bytearray", data := .bytearray bs }) (h0 : 0 ≤ k) (h1 : k < bs.size) (v0 : 0 ≤ v) (v1 : v < 256) (hz : bs.size ≤ 1000)
    (h : ∀ h', h'.get? a = some { cls := .type "bytearray", data := .bytearray (bs.setIfInBounds k.toNat v.toNat.toUInt8) } → Heap.SameBut a s.heap h' → Q () { s with heap := h' }) :
    wpAny (model prog w) A (setItem (.ref a) (.int k t) (.int v u)) Q E s := by
  have hT : s.TypeIs (.ref a) "bytearray" := ⟨_, ha, rfl⟩
  unfold setItem
  refine wpAny_holding ?_
  refine wpAny_bind (wpAny_sequenceKey hT (by decide) ?_)
  refine wpAny_bind (wpAny_callSpecial?_slot (name := Str.ofString "__setitem__") hT F.ba_slot_set (wpAny_call_entry F.ba_slot_set hT F.ba_entry_set ?_ (F.ba_args_set _ _ _)))
  show wpAny _ _ (Builtin.Bytes.subscript? (.int k t) >>= fun r => _) _ _ s
  refine wpAny_bind ?_
  unfold Builtin.Bytes.subscript?
  refine wpAny_bind (wpAny_specialOf (typeIs_int s k t) PySem.F.slot_int_index.lookup ?_)
  have hf : Builtin.Bytes.fitsIndex k = true := by
    unfold Builtin.Bytes.fitsIndex
    rw [Bool.and_eq_true]
    exact ⟨decide_eq_true (by omega), decide_eq_true (by omega)⟩
  show wpAny _ _ (if (!Builtin.Bytes.fitsIndex k) = true then _ else pure (some k)) _ _ s
  rw [hf]
  refine wpAny_pure ?_
  dsimp only
  refine wpAny_bind ?_
  unfold Builtin.Bytes.byteValue
  refine wpAny_bind (wpAny_of_eq (a := v) rfl ?_)
  rw [if_neg (by simp only [Bool.or_eq_true, decide_eq_true_eq]; omega)]
  refine wpAny_pure (wpAny_bind (ba_payload ha ?_))
  have hs : seqIndex? k bs.size = some k.toNat := by
    have hn : ¬ k < 0 := by omega
    simp [seqIndex?, hn, h0, h1]
  rw [hs]
  dsimp only
  refine wpAny_bind (ba_write ha (by rw [Array.size_setIfInBounds]; unfold sizeLine; omega) fun h' ha' hs' => ?_)
  exact wpAny_bind (wpAny_pure (wpAny_pure ⟨_, rfl, wpAny_pure (h h' ha' hs')⟩))
theorem bm_newBa {a : Addr} {bs : Array UInt8} {Q : Value → Shared → Prop} (ha : s.heap.get? a = some { cls := .type "bytearray", data := .bytearray bs }) (hz : bs.size ≤ 1000)
    (hQ : ∀ t k, Q (.bytes bs t) { s with toks := k }) :
    codeAny (model prog w) A (.call (.builtin "bytes.__new__") ⟨[.type "bytes", .ref a], []⟩) (wants Q E) s := by
  refine codeAny_of_tree ?_
  show wpAny _ A.in1 (do checkBuiltinCall "bytes.__new__" ⟨[.type "bytes", .ref a], []⟩; again (.builtin "bytes.__new__" ⟨[.type "bytes", .ref a], []⟩)) _ _ s
  refine wpAny_bind (wpAny_of_eq (PySem.F.bm_newCall _) (wpAny_pure ⟨plainId_quiet PySem.F.bm_plain _, codeAny_builtin PySem.F.bm_entry ?_⟩))
  rw [Around.under_plainId PySem.F.bm_plain _]
  have hT : s.TypeIs (.ref a) "bytearray" := ⟨_, ha, rfl⟩
  unfold Builtin.«bytes.__new__»
  refine wpAny_bind (wpAny_of_eq (a := true) rfl ?_)
  refine bm_if_false rfl ?_
  refine wpAny_bind (wpAny_of_eq PySem.F.bm_sub ?_)
  refine bm_if_false rfl ?_
  refine wpAny_bind (wpAny_of_eq (PySem.F.bm_bind _) ?_)
  refine wpAny_bind (wpAny_of_eq (a := ()) rfl ?_)
  refine wpAny_bind (wpAny_of_eq (a := ()) rfl ?_)
  refine bm_if_false rfl ?_
  refine wpAny_bind (wpAny_specialOf hT F.ba_no_bytes ?_)
  refine wpAny_bind (wpAny_bind ?_)
  show wpAny _ _ (load a >>= _) _ _ _
  refine wpAny_bind (wpAny_load ha ?_)
  refine wpAny_pure (wpAny_pure ?_)
  refine bm_if_false rfl ?_
  refine wpAny_bind (wpAny_specialOf hT F.ba_no_index ?_)
  refine bm_if_true rfl ?_
  first
    | show wpAny _ _ (Builtin.Bytes.buffer? "bytes.__new__" (.ref a) true >>= _) _ _ _
    | (refine wpAny_bind ?_; show wpAny _ _ (Builtin.Bytes.buffer? "bytes.__new__" (.ref a) true >>= _) _ _ _)
  refine wpAny_bind ?_
  unfold Builtin.Bytes.buffer?
  refine wpAny_bind (wpAny_specialOf hT F.ba_buffer ?_)
  dsimp only
  refine wpAny_bind (ba_ownBuffer ha ?_)
  rw [if_neg (by decide)]
  refine wpAny_bind (wpAny_specialOf hT F.ba_buffer ?_)
  refine wpAny_bind (ba_ownRelease ha ?_)
  rw [if_neg (by decide)]
  refine wpAny_bind (ba_payload ha (wpAny_pure ?_))
  refine wpAny_bind (wpAny_rule (wpAny_bind (m := mkBytes bs) (wpAny_mkBytes ?_ (by unfold sizeLine; omega))))
  show wpAny _ _ (if (Value.type "bytes" == Value.type "bytes") = true then _ else _) _ _ _
  refine bm_if_true (by decide) ?_
  first
    | exact wpAny_pure (hQ _ _)
    | exact wpAny_bind (wpAny_pure (wpAny_pure (hQ _ _)))
theorem bytes_of_ba {a : Addr} {bs : Array UInt8} {Q : Value → Shared → Prop} (ha : s.heap.get? a = some { cls := .type "bytearray", data := .bytearray bs }) (hz : bs.size ≤ 1000)
    (hQ : ∀ t k, Q (.bytes bs t) { s with toks := k }) : wpAny (model prog w) A (call (.type "bytes") [.ref a]) Q E s := by
  refine callType_codes (Q₁ := fun obj s₁ => s₁.TypeIs obj "bytes" ∧ Q obj s₁) PySem.F.bm_called (PySem.F.bm_typeCall _) PySem.F.entry_object_init
    (bm_newBa ha hz fun t k => ⟨PySem.W.typeIs_bytes _ _ _, hQ t k⟩) fun obj s₁ h₁ => ?_
  exact ⟨h₁.1, PySem.F.args_object_init_2 obj _, object_init_meets PySem.F.bm_called.init.lookup PySem.F.bm_called.made (by decide) prog w A.in1 _ s₁ ⟨h₁.1, rfl, h₁.2⟩⟩
end


section
variable {prog : Program} {w : World} {A : Around} {s : Shared} {mg mb : Str → Option Value}
  {name qual : Str} {params : Arguments} {body : List Stmt} {scope : Scope} {dV kV doc pm cdv ct oc : Value} {an od : Option Addr} {osl : Array (Option Value)} {f : Addr}
/-- a call of a def of the text, in N-form: H is hidden from the new frame's base -/
theorem callQN {b : Bool} {vs : List Value} {kw : List (Str × Value)} {Q : Value → Shared → Prop} {E : Value → Shared → Prop} (H : List Addr) (binds : List (Str × Value)) (O : Ok w mg mb s.heap)
    (ho : (Mine.hd.heap_1 w.params).lookup f = some ⟨oc, od, .func (fnOf name qual params body scope dV kV doc pm an cdv ct), osl⟩) (hcd : codeIn (Mine.hd.heap_1 w.params) cdv qual = true) (hroom : A.depth < recursionLimit)
    (hbind : BindsTo s (fnOf name qual params body scope dV kV doc pm an cdv ct) ⟨vs, kw⟩ binds) (hloc : ∀ y ∈ binds, scope.names.lookup y.1 = some .local) (hH : ∀ a ∈ H, a ∈ tabs ∨ 240 ≤ a)
    (h : ∀ g L' h₁ tk, g = hideAll s.heap H → L' = s.heap.objs.size → Fr g L' h₁ (fun y => binds.reverse.lookup y) → (Mine.hd.heap_1 w.params).In g → Top0 mg mb g → (∀ b o, s.heap.get? b = some o → h₁.get? b = some o) →
      wpN b (model prog w) (A.deeper (envOf qual scope L' f cdv)) (execs body (envOf qual scope L' f cdv)) (fun fl s' => Q (match fl with | .ret v => v | _ => .none) s') NoE { s with heap := h₁, toks := tk })
    (hcell : ∀ x ∈ scope.names, x.2 ≠ .cell := by decide) (hco : scope.isCoroutine = false := by rfl) (hgen : scope.isGenerator = false := by rfl) (hk : scope.kind = .function := by rfl) :
    wpN b (model prog w) A (call (.ref f) vs kw) Q E s := by
  refine wpN_call (codeN_mono (R := fun r s' => ∃ v, r = .ok (.ret v) ∧ Q v s') ?_ fun r s' z => by obtain ⟨v, rfl, hp⟩ := z; exact hp)
  obtain ⟨X, T⟩ := O.stays (g := hideAll s.heap H) fun b o hb ht e => hideAll_get _ e fun m => (hH b m).elim ht fun q => absurd hb (Nat.not_lt.mpr q)
  refine codeN_call_function hroom (O.frag _ _ ho) rfl hco hgen rfl (codeRec_of O.frag hcd) (hbind _ _ _ _ ?_)
  refine wpAny_newFunctionEnv hcell hloc (fun h₀ hns₀ hsb₀ => ⟨O.T.nolimit.fresh _ hsb₀, codeN_func (wpN_mono (h _ s.heap.objs.size h₀ _ rfl rfl ?_ X T ?_) (fun fl s' hp => ⟨_, rfl, hp⟩) fun _ _ e => e.elim)⟩) hk
  · exact ⟨hns₀, fun b o e => hsb₀.extBut b o (Nat.ne_of_lt (Heap.lt_size (of_hideAll _ e))) (Heap.get?_push_of_some _ (of_hideAll _ e)), Nat.le_of_eq (hideAll_size _ _)⟩
  · exact fun b o e => hsb₀.extBut b o (Nat.ne_of_lt (Heap.lt_size e)) (Heap.get?_push_of_some _ e)
/-- the same with cells -/
theorem callQC {b : Bool} {vs : List Value} {kw : List (Str × Value)} {Q : Value → Shared → Prop} {E : Value → Shared → Prop} (H : List Addr) (binds : List (Str × Value)) (O : Ok w mg mb s.heap)
    (ho : (Mine.hd.heap_1 w.params).lookup f = some ⟨oc, od, .func (fnOf name qual params body scope dV kV doc pm an cdv ct), osl⟩) (hcd : codeIn (Mine.hd.heap_1 w.params) cdv qual = true) (hroom : A.depth < recursionLimit)
    (hbind : BindsTo s (fnOf name qual params body scope dV kV doc pm an cdv ct) ⟨vs, kw⟩ binds) (hkind : (binds.all fun y => scope.names.lookup y.1 == some .local || scope.names.lookup y.1 == some .cell) = true) (hH : ∀ a ∈ H, a ∈ tabs ∨ 240 ≤ a)
    (hnd : ((cellsFrom 0 scope.names []).map (·.1)).Nodup)
    (h : ∀ g L' h₁ tk cells, g = hideAll s.heap H → L' = s.heap.objs.size → Fr g L' h₁ (bindL (envOfC qual scope L' f cdv).kindOf binds fun _ => none) → News g L' h₁ cells →
      CellsAre (bindC (envOfC qual scope L' f cdv).kindOf binds fun _ => none) (cellsFrom (L' + 1) scope.names []) cells → (Mine.hd.heap_1 w.params).In g → Top0 mg mb g → (∀ b o, s.heap.get? b = some o → h₁.get? b = some o) →
      wpN b (model prog w) (A.deeper (envOfC qual scope L' f cdv)) (execs body (envOfC qual scope L' f cdv)) (fun fl s' => Q (match fl with | .ret v => v | _ => .none) s') NoE { s with heap := h₁, toks := tk })
    (hco : scope.isCoroutine = false := by rfl) (hgen : scope.isGenerator = false := by rfl) (hk : scope.kind = .function := by rfl) :
    wpN b (model prog w) A (call (.ref f) vs kw) Q E s := by
  refine wpN_call (codeN_mono (R := fun r s' => ∃ v, r = .ok (.ret v) ∧ Q v s') ?_ fun r s' z => by obtain ⟨v, rfl, hp⟩ := z; exact hp)
  obtain ⟨X, T⟩ := O.stays (g := hideAll s.heap H) fun b o hb ht e => hideAll_get _ e fun m => (hH b m).elim ht fun q => absurd hb (Nat.not_lt.mpr q)
  refine codeN_call_function hroom (O.frag _ _ ho) rfl hco hgen rfl (codeRec_of O.frag hcd) (hbind _ _ _ _ ?_)
  refine wpAny_newFunctionEnv_cells hk (kindsX hkind _) fun env' he s' x => ?_
  subst he
  refine ⟨O.T.nolimit.keeps x.toInCall.keep, codeN_func ?_⟩
  obtain ⟨h₁, tk, rfl, _⟩ := x.done
  have hk₁ := x.toInCall.keep
  obtain ⟨cells, NC, Y⟩ := Cl.news (h₀ := s.heap) (Nat.le_refl _) fun n c hm => ⟨x.cell n c (lookup_of_mem_nodup (cellsFrom_names scope.names 0 (s.heap.objs.size + 1) [] [] rfl ▸ hnd) hm), x.above n c hm⟩
  refine wpN_mono (h _ s.heap.objs.size h₁ tk cells rfl rfl ⟨x.toInCall.ns, fun b o e => hk₁ b o (of_hideAll _ e), Nat.le_of_eq (hideAll_size _ _)⟩ (fun p hp => ?_) Y X T hk₁) (fun fl s' hp => ⟨_, rfl, hp⟩) fun _ _ e => e.elim
  refine ⟨(NC p hp).1, (NC p hp).2.1, ?_⟩
  cases q : (hideAll s.heap H).get? p.1 with
  | none => rfl
  | some o => have := of_hideAll _ q; rw [(NC p hp).2.2] at this; cases this
end

def Kept (wr : List Addr) (h h' : Heap) : Prop := ∀ b o, b ∉ wr → h.get? b = some o → h'.get? b = some o
def Turn (I : Shared → Prop) (Q : Flow → Shared → Prop) : Flow → Shared → Prop
  | .next, s => I s
  | .cont, s => I s
  | .brk, s => Q .next s
  | .ret v, s => Q (.ret v) s
section
variable {b : Bool} {prog : Program} {w : World} {A : Around} {s : Shared} {env : Env}
theorem loopN {I : Addr} {fp wr : List Addr} {n : Nat} {P : Nat → Value → Prop} {St : Nat → Heap → Prop} {target : Expr} {body : List Stmt} {Q : Flow → Shared → Prop}
    (W : Walks prog w A I fp wr n P St) (Inv : Nat → Shared → Prop) (hI : Inv 0 s) (hst : St 0 s.heap)
    (step : ∀ i v s h' tk, i < n → P i v → Inv i s → Kept wr s.heap h' → St (i + 1) h' →
      wpAny (model prog w) A (assign target env v) (fun _ s₂ => wpN b (model prog w) A (execs body env) (Turn (fun s₃ => Inv (i + 1) s₃ ∧ St (i + 1) s₃.heap) Q) NoE s₂) NoE { s with heap := h', toks := tk })
    (done : ∀ s h' tk, Inv n s → Kept wr s.heap h' → Q .next { s with heap := h', toks := tk }) (ht : ∀ v, letOwnedTupleGo target (.ref I) v = pure () := by intro _; rfl) :
    codeN b (model prog w) A (.forLoop target (.ref I) body [] env) (fun r s' => match r with | .ok f => Q f s' | .error e => cameBackBy (model prog w) A env NoE e s') s := by
  refine codeN_loop rfl rfl (fun k s => ∃ i, i ≤ n ∧ k = n - i ∧ Inv i s ∧ St i s.heap) (fun k s hI => ?_) n ⟨0, Nat.zero_le _, rfl, hI, hst⟩
  obtain ⟨i, hi, rfl, hI, hst⟩ := hI
  show wpN b _ _ ((forTurn target (.ref I) body [] env).onRaise (fun x => do noteFrame x env; theTreesLotGoes x)) _ _ s
  refine wpN_onRaise (wpN_mono (E := NoE) ?_ (fun _ _ q => q) fun _ _ e => e.elim)
  simp only [forTurn]
  refine wpN_bindA (wpAny_standAt (wpN_bindA (wpAny_onRaise ?_)))
  rcases Nat.lt_or_eq_of_le hi with hlt | rfl
  · refine W.item i s _ _ hlt hst fun v h' tk hP st' hk => ?_
    refine wpN_bindA (wpAny_of_eq (ht v) ?_)
    refine wpN_bindA (wpAny_mono (step i v s h' tk hlt hP hI hk st') (fun _ s₂ h₂ => wpN_bind (wpN_mono h₂ (fun f s₃ h₃ => ?_) fun _ _ h' => h')) fun _ _ h' => h')
    cases f with
    | next => exact wpN_any (wpAny_pure (.inl ⟨rfl, n - (i + 1), by omega, i + 1, hlt, rfl, h₃⟩))
    | cont => exact wpN_any (wpAny_pure (.inl ⟨rfl, n - (i + 1), by omega, i + 1, hlt, rfl, h₃⟩))
    | brk => exact wpN_any (wpAny_pure h₃)
    | ret v => exact wpN_any (wpAny_pure h₃)
  · refine W.done s _ _ hst fun h' tk hk => ?_
    exact wpN_any (wpAny_pure (.inr ⟨rfl, codeN_any (codeAny_block (wpAny_execs_nil (done s h' tk hI hk)))⟩))
theorem forN {target iter : Expr} {body : List Stmt} {pos : Pos} {Q : Flow → Shared → Prop}
    (h : wpN b (model prog w) A (eval iter env) (fun x s₁ => wpAny (model prog w) A (pyIter x) (fun it s₂ => ∃ (I : Addr) (fp wr : List Addr) (n : Nat) (P : Nat → Value → Prop) (St : Nat → Heap → Prop) (Inv : Nat → Shared → Prop),
      it = .ref I ∧ Walks prog w A I fp wr n P St ∧ Inv 0 s₂ ∧ St 0 s₂.heap ∧
      (∀ i v s h' tk, i < n → P i v → Inv i s → Kept wr s.heap h' → St (i + 1) h' →
        wpAny (model prog w) A (assign target env v) (fun _ s₂ => wpN b (model prog w) A (execs body env) (Turn (fun s₃ => Inv (i + 1) s₃ ∧ St (i + 1) s₃.heap) Q) NoE s₂) NoE { s with heap := h', toks := tk }) ∧
      (∀ s h' tk, Inv n s → Kept wr s.heap h' → Q .next { s with heap := h', toks := tk })) NoE s₁) NoE s)
    (hs : ∀ x, foldedSetIterable iter env x = pure x := by intro _; rfl) (ht : ∀ it v, letOwnedTupleGo target it v = pure () := by intro _ _; rfl) :
    wpN b (model prog w) A (exec (.For target iter body [] pos) env) Q NoE s := by
  refine wpN_For (wpN_mono h (fun x s₁ h₁ => wpAny_mono h₁ (fun it s₂ h₂ => ?_) fun _ _ e => e) fun _ _ e => e) hs
  obtain ⟨I, fp, wr, n, P, St, Inv, rfl, W, hI, hst, step, done⟩ := h₂
  exact loopN W Inv hI hst step done (ht _)
theorem forA {target iter : Expr} {body : List Stmt} {pos : Pos} {Q : Flow → Shared → Prop}
    (h : wpAny (model prog w) A (eval iter env) (fun x s₁ => wpAny (model prog w) A (pyIter x) (fun it s₂ => ∃ (I : Addr) (fp wr : List Addr) (n : Nat) (P : Nat → Value → Prop) (St : Nat → Heap → Prop) (Inv : Nat → Shared → Prop),
      it = .ref I ∧ Walks prog w A I fp wr n P St ∧ Inv 0 s₂ ∧ St 0 s₂.heap ∧
      (∀ i v s h' tk, i < n → P i v → Inv i s → Kept wr s.heap h' → St (i + 1) h' →
        wpAny (model prog w) A (assign target env v) (fun _ s₂ => wpAny (model prog w) A (execs body env) (Turn (fun s₃ => Inv (i + 1) s₃ ∧ St (i + 1) s₃.heap) Q) NoE s₂) NoE { s with heap := h', toks := tk }) ∧
      (∀ s h' tk, Inv n s → Kept wr s.heap h' → Q .next { s with heap := h', toks := tk })) NoE s₁) NoE s)
    (hs : ∀ x, foldedSetIterable iter env x = pure x := by intro _; rfl) (ht : ∀ it v, letOwnedTupleGo target it v = pure () := by intro _ _; rfl) :
    wpAny (model prog w) A (exec (.For target iter body [] pos) env) Q NoE s := by
  refine wpN_false (forN (wpN_any (wpAny_mono h (fun x s₁ h₁ => wpAny_mono h₁ (fun it s₂ h₂ => ?_) fun _ _ e => e) fun _ _ e => e)) hs ht)
  obtain ⟨I, fp, wr, n, P, St, Inv, rfl, W, hI, hst, step, done⟩ := h₂
  exact ⟨I, fp, wr, n, P, St, Inv, rfl, W, hI, hst, fun i v s h' tk h1 h2 h3 h4 h5 => wpAny_mono (step i v s h' tk h1 h2 h3 h4 h5) (fun _ _ q => wpN_any q) fun _ _ e => e, done⟩
end
theorem fr_kept {h₀ h h' : Heap} {L : Addr} {m : Str → Option Value} (F : Fr h₀ L h m) (k : ∀ b o, h.get? b = some o → h'.get? b = some o) : Fr h₀ L h' m :=
  ⟨ns_at F.ns fun o => k _ o, fun b o e => k _ _ (F.keep b o e), F.above⟩
/-- the loop's own objects moved; wr lies off the base and is not the frame -/
theorem fr_wr {h₀ h h' : Heap} {L : Addr} {m : Str → Option Value} {wr : List Addr} (F : Fr h₀ L h m) (k : Kept wr h h') (hL : L ∉ wr) (hw : ∀ b ∈ wr, h₀.get? b = none) : Fr h₀ L h' m :=
  ⟨ns_at F.ns fun o => k _ o hL, fun b o e => k _ _ (fun m => by rw [hw b m] at e; cases e) (F.keep b o e), F.above⟩
theorem news_wr {h₀ h h' : Heap} {L : Addr} {wr : List Addr} {news : List (Addr × Obj)} (N : News h₀ L h news) (k : Kept wr h h') (hw : ∀ p ∈ news, p.1 ∉ wr) : News h₀ L h' news :=
  fun p hp => ⟨k _ _ (hw p hp) (N p hp).1, (N p hp).2⟩
theorem news_cons {h₀ h : Heap} {L a : Addr} {o : Obj} {news : List (Addr × Obj)} (N : News h₀ L h news) (e : h.get? a = some o) (hL : a ≠ L) (h0 : h₀.get? a = none) : News h₀ L h ((a, o) :: news) :=
  fun p hp => by
    rcases List.mem_cons.mp hp with rfl | hp
    · exact ⟨e, hL, h0⟩
    · exact N p hp
theorem news_kept {h₀ h h' : Heap} {L : Addr} {news : List (Addr × Obj)} (N : News h₀ L h news) (k : ∀ b o, h.get? b = some o → h'.get? b = some o) : News h₀ L h' news :=
  fun p hp => ⟨k _ _ (N p hp).1, (N p hp).2⟩
theorem base_none {h₀ h : Heap} {L : Addr} {m : Str → Option Value} (F : Fr h₀ L h m) {a : Addr} (ha : h.objs.size ≤ a) : h₀.get? a = none := by
  cases e : h₀.get? a with
  | none => rfl
  | some o => exact absurd (Heap.lt_size (F.keep a o e)) (Nat.not_lt.mpr ha)
theorem base_ne {h₀ h : Heap} {L : Addr} {m : Str → Option Value} (F : Fr h₀ L h m) {a : Addr} (ha : h.objs.size ≤ a) : a ≠ L := fun e => absurd F.ns.lt (Nat.not_lt.mpr (e ▸ ha))
theorem fits_of {i : Int} (h0 : -100000000 ≤ i) (h1 : i ≤ 100000000) : Builtin.Range.rangeFitsLong i = true := by
  unfold Builtin.Range.rangeFitsLong
  rw [Bool.and_eq_true]
  exact ⟨decide_eq_true (by omega), decide_eq_true (by omega)⟩
theorem small_of {a b c : Int} {n : Nat} (a0 : -1000000 ≤ a) (a1 : a ≤ 1000000) (b0 : -1000000 ≤ b) (b1 : b ≤ 1000000) (c0 : 0 < c) (c1 : c ≤ 1000000) (hn : Builtin.Range.rangeSize a b c = (n : Int)) (n1 : n ≤ 1000000) : Builtin.Range.small a b c = true := by
  unfold Builtin.Range.small
  rw [hn, if_pos c0]
  simp only [Bool.and_eq_true, Bool.or_eq_true]
  exact ⟨⟨⟨⟨fits_of (by omega) (by omega), fits_of (by omega) (by omega)⟩, fits_of (by omega) (by omega)⟩, fits_of (by omega) (by omega)⟩, .inr (fits_of (by omega) (by omega))⟩
section
variable {prog : Program} {w : World} {A : Around} {E : Value → Shared → Prop} {s : Shared}
theorem range_it {r : Addr} {a b c : Int} {n : Nat} {t u v : Tok} {K : Value → Shared → Prop} (hr : IsRange s.heap r a b c t u v) (hn : Builtin.Range.rangeSize a b c = (n : Int)) (hsm : Builtin.Range.small a b c = true)
    (h : ∀ h' I, IsRangeIter h' I (a + ((0 : Nat) : Int) * c) ((n : Int) - ((0 : Nat) : Int)) c → (∀ b o, s.heap.get? b = some o → h'.get? b = some o) → s.heap.objs.size ≤ I → K (.ref I) { s with heap := h' }) :
    wpAny (model prog w) A (pyIter (.ref r)) K E s := by
  refine wpAny_pyIter_range hr hsm (h _ _ ?_ (fun _ _ e => Heap.get?_push_of_some _ e) (Nat.le_refl _))
  rw [hn]
  simpa using Heap.get?_push_size _ rfl
theorem range3_it {a b c : Int} {n : Nat} {t u v : Tok} {K : Value → Shared → Prop} (a0 : -1000000 ≤ a) (a1 : a ≤ 1000000) (b0 : -1000000 ≤ b) (b1 : b ≤ 1000000) (c0 : 0 < c) (c1 : c ≤ 1000000) (hn : Builtin.Range.rangeSize a b c = (n : Int)) (n1 : n ≤ 1000000)
    (h : ∀ h' I tk, IsRangeIter h' I (a + ((0 : Nat) : Int) * c) ((n : Int) - ((0 : Nat) : Int)) c → (∀ b o, s.heap.get? b = some o → h'.get? b = some o) → s.heap.objs.size ≤ I → K (.ref I) { s with heap := h', toks := tk }) :
    wpAny (model prog w) A (call (.type "range") [.int a t, .int b u, .int c v]) (fun x s₁ => wpAny (model prog w) A (pyIter x) K E s₁) E s :=
  call_range_3 (by omega) (range_it (IsRange.new ..) hn (small_of a0 a1 b0 b1 c0 c1 hn n1) fun h' I e k hI => h h' I _ e (fun _ _ q => k _ _ (Heap.get?_push_of_some _ q)) (Nat.le_trans (by simp [Heap.size_push]) hI)) (Or.inl (PyProof.noPylong_small (by omega)))
theorem range2_it {a b : Int} {n : Nat} {t u : Tok} {K : Value → Shared → Prop} (a0 : -1000000 ≤ a) (a1 : a ≤ 1000000) (b0 : -1000000 ≤ b) (b1 : b ≤ 1000000) (hn : b - a = (n : Int)) (n1 : n ≤ 1000000)
    (h : ∀ h' I tk, IsRangeIter h' I (a + ((0 : Nat) : Int) * 1) ((n : Int) - ((0 : Nat) : Int)) 1 → (∀ b o, s.heap.get? b = some o → h'.get? b = some o) → s.heap.objs.size ≤ I → K (.ref I) { s with heap := h', toks := tk }) :
    wpAny (model prog w) A (call (.type "range") [.int a t, .int b u]) (fun x s₁ => wpAny (model prog w) A (pyIter x) K E s₁) E s := by
  have hn' : Builtin.Range.rangeSize a b 1 = (n : Int) := by rw [rangeSize_one]; split <;> omega
  exact call_range_2 (range_it (IsRange.new ..) hn' (small_of a0 a1 b0 b1 (by omega) (by omega) hn' n1) fun h' I e k hI => h h' I _ e (fun _ _ q => k _ _ (Heap.get?_push_of_some _ q)) (Nat.le_trans (by simp [Heap.size_push]) hI))
theorem range1_it {b : Int} {n : Nat} {u : Tok} {K : Value → Shared → Prop} (hn : b = (n : Int)) (n1 : n ≤ 1000000)
    (h : ∀ h' I tk, IsRangeIter h' I (0 + ((0 : Nat) : Int) * 1) ((n : Int) - ((0 : Nat) : Int)) 1 → (∀ b o, s.heap.get? b = some o → h'.get? b = some o) → s.heap.objs.size ≤ I → K (.ref I) { s with heap := h', toks := tk }) :
    wpAny (model prog w) A (call (.type "range") [.int b u]) (fun x s₁ => wpAny (model prog w) A (pyIter x) K E s₁) E s := by
  have hn' : Builtin.Range.rangeSize 0 b 1 = (n : Int) := by rw [rangeSize_one]; split <;> omega
  exact call_range_1 (range_it (IsRange.new ..) hn' (small_of (by omega) (by omega) (by omega) (by omega) (by omega) (by omega) hn' n1) fun h' I e k hI => h h' I _ e (fun _ _ q => k _ _ (Heap.get?_push_of_some _ q)) (Nat.le_trans (by simp [Heap.size_push]) hI))
end


theorem hideTA {α : Type} {M : Model} {A : Around} {t : Sem α} {body : List Stmt} {env : Env} {I : Shared → Prop} {Q : Flow → Shared → Prop} {E E2 : Value → Shared → Prop} {s : Shared} (h : ∀ R : Flow → Shared → Prop, (∀ s', I s' → R .next s') → wpAny M A t (fun _ s₂ => wpAny M A (execs body env) R E2 s₂) E s) :
    wpAny M A t (fun _ s₂ => wpAny M A (execs body env) (Turn I Q) E2 s₂) E s := h _ fun _ q => q
theorem hideTN {α : Type} {b : Bool} {M : Model} {A : Around} {t : Sem α} {body : List Stmt} {env : Env} {I : Shared → Prop} {Q : Flow → Shared → Prop} {E E2 : Value → Shared → Prop} {s : Shared} (h : ∀ R : Flow → Shared → Prop, (∀ s', I s' → R .next s') → wpAny M A t (fun _ s₂ => wpN b M A (execs body env) R E2 s₂) E s) :
    wpAny M A t (fun _ s₂ => wpN b M A (execs body env) (Turn I Q) E2 s₂) E s := h _ fun _ q => q
theorem cpsA {α : Type} {M : Model} {A : Around} {t : Sem α} {K : α → Shared → Prop} {E : Value → Shared → Prop} {s : Shared} (P : (α → Shared → Prop) → Prop) (h1 : ∀ R, P R → wpAny M A t R E s) (h2 : P K) : wpAny M A t K E s := h1 K h2
theorem cpsN {α : Type} {b : Bool} {M : Model} {A : Around} {t : Sem α} {K : α → Shared → Prop} {E : Value → Shared → Prop} {s : Shared} (P : (α → Shared → Prop) → Prop) (h1 : ∀ R, P R → wpN b M A t R E s) (h2 : P K) : wpN b M A t K E s := h1 K h2


noncomputable abbrev accObj (dx : Addr) (vs : Array Value) (n : Nat) : Obj := { cls := .ref 178, dict := some dx, data := .seq vs n }
noncomputable abbrev accD (P : Params) (tk : Tok) (v : Value) : List DictEntry := [{ hash := PyData.keyHash P (Str.ofString "_initial_size"), key := .str (Str.ofString "_initial_size") tk, val := v }]
structure AccAt (P : Params) (h : Heap) (a dx : Addr) (vs : Array Value) (n : Nat) (tk : Tok) (v : Value) (n' : Nat) : Prop where
  at_ : h.get? a = some (accObj dx vs n)
  dx_ : h.get? dx = some (dictOf (accD P tk v) n')
theorem AccAt.inst {P h a dx vs n tk v n'} (x : AccAt P h a dx vs n tk v n') : InstAt h a (accObj dx vs n) 178 (some (dictOf (accD P tk v) n')) := ⟨x.at_, rfl, rfl, x.dx_⟩
section
variable {w : World} {M : Model} {h : Heap} {a dx : Addr} {vs : Array Value} {n n' : Nat} {tk : Tok} {v : Value}
theorem acc_find {name : Str} {r : Option Value} (X : (Mine.hd.heap_1 w.params).In h) (x : AccAt w.params h a dx vs n tk v n') (e : findIn (Mine.hd.heap_1 w.params) (.ref 178) name = some r) : Looks M h (specialOf (.ref a) name) r :=
  x.inst.type.andThen (looks_findIn X e)
theorem acc_list (X : (Mine.hd.heap_1 w.params).In h) (x : AccAt w.params h a dx vs n tk v n') : Looks M h (isInstance (.ref a) (.type "list")) true :=
  x.inst.type.andThen (looks_mroIn X (by k_is))
theorem f_append : findIn (Mine.hd.heap_1 w.params) (.ref 178) "append" = some (some (.builtin "list.append")) := by k_is
theorem f_iter : findIn (Mine.hd.heap_1 w.params) (.ref 178) "__iter__" = some (some (.builtin "list.__iter__")) := by k_is
theorem f_get : findIn (Mine.hd.heap_1 w.params) (.ref 178) "__getitem__" = some (some (.builtin "list.__getitem__")) := by k_is
theorem f_set : findIn (Mine.hd.heap_1 w.params) (.ref 178) "__setitem__" = some (some (.builtin "list.__setitem__")) := by k_is
theorem f_bool : findIn (Mine.hd.heap_1 w.params) (.ref 178) "__bool__" = some none := by k_is
theorem f_len : findIn (Mine.hd.heap_1 w.params) (.ref 178) "__len__" = some (some (.ref 145)) := by k_is
theorem f_str : findIn (Mine.hd.heap_1 w.params) (.ref 178) "__str__" = some (some (.ref 152)) := by k_is
theorem f_new : findIn (Mine.hd.heap_1 w.params) (.ref 178) "__new__" = some (some (.builtin "list.__new__")) := by k_is
theorem f_init : findIn (Mine.hd.heap_1 w.params) (.ref 178) "__init__" = some (some (.ref 115)) := by k_is
theorem f_ga : findIn (Mine.hd.heap_1 w.params) (.ref 178) "__getattribute__" = some (some (.builtin "list.__getattribute__")) := by k_is
theorem f_gat : findIn (Mine.hd.heap_1 w.params) (.ref 178) "__getattr__" = some none := by k_is
theorem f_sa : findIn (Mine.hd.heap_1 w.params) (.ref 178) "__setattr__" = some (some (.builtin "object.__setattr__")) := by k_is
theorem f_is : findIn (Mine.hd.heap_1 w.params) (.ref 178) "_initial_size" = some none := by k_is
theorem canon_list_ga : (Manifest.canonical "list.__getattribute__" != "object.__getattribute__") = false := by decide +kernel
theorem entry_list_ga : entryFor table "list.__getattribute__" = some Builtin.«object.__getattribute__» :=
  entryFor_alias (id' := "object.__getattribute__") (by rw [fastTable_eq_tree]; kernel_rfl) (by first | rfl | decide +kernel) (by decide +kernel) (by rw [fastTable_eq_tree]; kernel_rfl)
theorem slot_list_ga : Slot "list" "__getattribute__" "list.__getattribute__" :=
  .of (owner := "list") (n := "__getattribute__") (by rw [typeLookup_type, builtinLookup_eq_fast]; kernel_rfl) (by decide +kernel) (by decide +kernel) (by decide +kernel)
    (by first | exact .inl (by decide +kernel) | exact .inr (by decide +kernel)) (by rw [isSubtype_type]; kernel_rfl)
theorem kind_list_ga : builtinKind "list.__getattribute__" = some .slot := by decide +kernel
theorem split_list_ga : splitId "list.__getattribute__" = some ("list", "__getattribute__") := by decide +kernel
theorem args_list_ga (a b : Value) : argsOk "list.__getattribute__" ⟨[a, b], []⟩ := by unfold argsOk; kernel_rfl
theorem refuse_acc (self : Value) : refuseLoop self "__setattr__" [.ref 178, .type "list", .type "object"] = pure () := by
  rw [refuseLoop_ref]; kernel_rfl
theorem acc_find2 (X : (Mine.hd.heap_1 w.params).In h) (x : AccAt w.params h a dx vs n tk v n') : findObj (Mine.hd.heap_1 w.params) 178 (some (dictOf (accD w.params tk v) n')) "_initial_size" = some (.value v) := by
  exact findObj_own (by k_is) f_is rfl rfl
end
section
variable {prog : Program} {w : World} {A : Around} {E : Value → Shared → Prop} {s : Shared} {a dx : Addr} {vs : Array Value} {n n' : Nat} {tk : Tok} {v : Value}
set_option maxHeartbeats 2000000 in
theorem acc_getattr {e : Bool} {Q : Value → Shared → Prop} (X : (Mine.hd.heap_1 w.params).In s.heap) (x : AccAt w.params s.heap a dx vs n tk v n') (hv : handedIn v = true) (h : Q v { s with toks := s.toks + 1 }) : wpAny (model prog w) A (getAttr (.ref a) "_initial_size" e) Q E s := by
  have L1 := looks_findIn (M := model prog w) X (f_ga (w := w))
  have L2 := looks_findIn (M := model prog w) X (f_gat (w := w))
  have L3 := looks_find (M := model prog w) X x.inst (acc_find2 X x)
  have Li := acc_list (M := model prog w) X x
  obtain ⟨hh, g, d, t, os⟩ := s
  have L0 := x.inst.type (M := model prog w)
  unfold getAttr getAttrBy
  refine wpAny_bind (wpAny_mkText (wpAny_holding (wpAny_bind (L0.at (wpAny_bind (L1.at ?_))))))
  show wpAny _ _ (getAttrByItsOwn _ _ _ _ _ _) _ _ _
  unfold getAttrByItsOwn
  refine wpAny_bind (m := hookBefore (.ref 178)) (L2.at ?_)
  refine wpAny_bind (wpAny_attempt (wpAny_holding ?_))
  unfold callGetattribute
  rw [show (e && onTheHeap (.builtin "list.__getattribute__")) = false from by cases e <;> rfl, if_neg (by decide)]
  unfold boundAndCalled
  refine wpAny_bind (wpAny_of_eq (slot_list_ga.bind _) ?_)
  refine wpAny_call (codeAny_call_builtin slot_list_ga.plain entry_list_ga (@check_slot (model prog w) _ _ _ "list.__getattribute__" "list" "__getattribute__" (.ref a) [.str "_initial_size" t] [] _ kind_list_ga split_list_ga Li (args_list_ga _ _) ?_))
  unfold Builtin.«object.__getattribute__»
  refine wpAny_bind (wpAny_of_eq (a := (.ref a, [.str "_initial_size" t])) rfl ?_)
  refine wpAny_bind (wpAny_pure ?_)
  refine wpAny_bind (L0.at (wpAny_bind (L3.at ?_)))
  refine wpAny_pure ?_
  show wpAny _ _ (handedOut v) _ _ _
  rw [handedOut_of hv]
  exact wpAny_pure h
end
def accE (P : Params) (es : List DictEntry) : Prop := es = [] ∨ ∃ tk v, es = accD P tk v
structure AccP (P : Params) (h : Heap) (a dx : Addr) (vs : Array Value) (n : Nat) (es : List DictEntry) (n' : Nat) : Prop where
  at_ : h.get? a = some (accObj dx vs n)
  dx_ : h.get? dx = some (dictOf es n')
theorem AccP.inst {P h a dx vs n es n'} (x : AccP P h a dx vs n es n') : InstAt h a (accObj dx vs n) 178 (some (dictOf es n')) := ⟨x.at_, rfl, rfl, x.dx_⟩
theorem AccAt.toP {P h a dx vs n tk v n'} (x : AccAt P h a dx vs n tk v n') : AccP P h a dx vs n (accD P tk v) n' := ⟨x.at_, x.dx_⟩
theorem accE_put {P : Params} {es : List DictEntry} (e : accE P es) (tk : Tok) (v : Value) : ∃ tk', putL "_initial_size" (PyData.keyHash P "_initial_size") (.str "_initial_size" tk) v es = accD P tk' v := by
  rcases e with rfl | ⟨tk', v', rfl⟩
  · exact ⟨tk, rfl⟩
  · exact ⟨tk', rfl⟩
theorem accE_look {P : Params} {es : List DictEntry} (e : accE P es) : ∃ r, lookIn "_initial_size" (dictOf es 0) = some r := by
  rcases e with rfl | ⟨tk', v', rfl⟩ <;> exact ⟨_, rfl⟩
section
variable {prog : Program} {w : World} {A : Around} {E : Value → Shared → Prop} {s : Shared} {a dx : Addr} {vs : Array Value} {n n' : Nat} {es : List DictEntry}
theorem acc_listP {M : Model} {h : Heap} (X : (Mine.hd.heap_1 w.params).In h) (x : AccP w.params h a dx vs n es n') : Looks M h (isInstance (.ref a) (.type "list")) true := x.inst.type.andThen (looks_mroIn X (by k_is))
set_option maxHeartbeats 1000000 in
theorem acc_setattr {v : Value} {Q : Unit → Shared → Prop} (X : (Mine.hd.heap_1 w.params).In s.heap) (x : AccP w.params s.heap a dx vs n es n') (he : accE w.params es) (hne : dx ≠ a)
    (h : ∀ h' tk' n'' k, h'.get? dx = some (dictOf (accD w.params tk' v) n'') → Heap.SameBut dx s.heap h' → Q () { s with heap := h', toks := k }) :
    wpAny (model prog w) A (setAttr (.ref a) "_initial_size" v) Q E s := by
  have SF := PySem.F.store_object
  have hx := x.at_
  have D := x.dx_
  obtain ⟨cd, hc, hd⟩ : ∃ cd, clsIn (Mine.hd.heap_1 w.params) 178 = some cd ∧ cd.hasDict = true ∧ cd.mro = [.ref 178, .type "list", .type "object"] := ⟨_, rfl, rfl, rfl⟩
  obtain ⟨hd, hmro⟩ := hd
  have sub : Looks (model prog w) s.heap (isInstance (.ref a) (.type "object")) true := x.inst.type.andThen (looks_mroIn X (by k_is))
  have hm : Looks (model prog w) s.heap (mroOf (.ref 178)) cd.mro := (looks_clsIn X hc).andThen .now
  have L0 := x.inst.type (M := model prog w)
  have Ls := looks_findIn (M := model prog w) X (f_sa (w := w))
  have Lf := looks_findIn (M := model prog w) X (f_is (w := w))
  obtain ⟨hh, g, dr, t, os⟩ := s
  refine wpAny_bind (wpAny_mkText (wpAny_bind (wpAny_bind (wpAny_bind (L0.at (Ls.at (wpAny_holding ?_)))))))
  rw [SF.slot.bind]
  refine wpAny_bind (wpAny_pure (wpAny_bind (wpAny_call (codeAny_call_builtin SF.slot.plain SF.entry (@check_slot (model prog w) _ _ _ "object.__setattr__" "object" "__setattr__" (.ref a) [.str "_initial_size" t, v] [] _ SF.kind SF.split sub (SF.args (.ref a) (.str "_initial_size" t) v) ?_)))))
  show wpAny _ _ (Builtin.«object.__setattr__» ⟨[.ref a, .str "_initial_size" t, v], []⟩) _ _ _
  rw [osa_eq, refuse_eq]
  refine wpAny_bind (wpAny_bind (L0.at (wpAny_bind (hm.at ?_))))
  rw [hmro, refuse_acc]
  refine wpAny_pure (wpAny_bind (L0.at (wpAny_bind (Lf.at (wpAny_bind (wpAny_pure ?_))))))
  dsimp only
  refine wpAny_bind (wpAny_pure (wpAny_bind (wpAny_bind (wpAny_loadPart hx (wpAny_bind (((looks_clsIn (M := model prog w) X hc)).at ?_))))))
  rw [hd]
  refine wpAny_pure (a := some dx) (wpAny_bind (wpAny_pure (wpAny_bind ?_)))
  unfold nsSet
  refine wpAny_bind (wpAny_bind (wpAny_askSetting (wpAny_pure (wpAny_bind (wpAny_mkText (wpAny_bind (wpAny_loadPart D ?_)))))))
  show wpAny _ _ (if aRefKeyMayBeTheName _ _ = true then _ else _) _ _ _
  have c : aRefKeyMayBeTheName "_initial_size" (es.toArray) = false := by
    rw [aRefKeyMayBeTheName_at, ← Array.any_toList, ← Array.any_toList]
    rcases he with rfl | ⟨tk', v', rfl⟩ <;> rfl
  rw [c, if_neg (by decide)]
  obtain ⟨tk', e'⟩ := accE_put he (t + 1) v
  have D' : (hh.update dx (Obj.putName "_initial_size" (PyData.keyHash w.params "_initial_size") (.str "_initial_size" (t + 1)) v)).get? dx = some (dictOf (accD w.params tk' v) (putN "_initial_size" es n')) := by
    refine (Heap.get?_update_self _ D (by rw [putName_dict]; rfl)).trans ?_
    rw [putName_dict, e']
  refine wpAny_updatePart D (wpAny_bind (wpAny_lookBehind D' (pastItsLine_dict (by simp [accD, sizeLine_eq])) (wpAny_pure ?_)))
  exact wpAny_pure (wpAny_pure (h _ _ _ _ D' (Heap.SameBut.update ..)))
theorem acc_method {name : Str} {f tf : Value} {pl : Sem Bool} {Q : Value × List Value → Shared → Prop} (X : (Mine.hd.heap_1 w.params).In s.heap) (x : AccP w.params s.heap a dx vs n es n')
    (hf : findIn (Mine.hd.heap_1 w.params) (.ref 178) name = some (some f)) (ht : typeIn (Mine.hd.heap_1 w.params) f = some tf) (htf : (tf != .type "function" && tf != .type "method_descriptor" && tf != .type "wrapper_descriptor") = false)
    (hs : shadowIn (some (dictOf es n')) name = some false) (h : Q (f, [.ref a]) s) : wpAny (model prog w) A (getMethod (.ref a) name pl) Q E s := by
  have I := x.inst
  unfold getMethod specialOf
  refine wpAny_bind (wpAny_bind (I.type.here ((looks_findIn X f_ga).here ?_)))
  dsimp only
  rw [canon_list_ga, if_neg (by decide)]
  refine wpAny_bind (wpAny_bind (I.type.here ((looks_findIn X f_gat).here ?_)))
  refine wpAny_bind (wpAny_bind (I.type.here ((looks_findIn X hf).here (wpAny_bind ((looks_typeIn X ht).here ?_)))))
  rw [htf, if_neg (by decide)]
  refine wpAny_bind (wpAny_loadPart I.at_ ?_)
  obtain ⟨r, e1, e2⟩ := Option.map_eq_some_iff.mp hs
  refine wpAny_bind (wpAny_bind (wpAny_loadPart x.dx_ ?_))
  rw [nsLook_of e1]
  refine wpAny_pure ?_
  rw [e2]
  exact wpAny_bind (wpAny_rule (wpAny_pure h))
theorem acc_check {i nm : String} {rest : List Value} {Q : Unit → Shared → Prop} (X : (Mine.hd.heap_1 w.params).In s.heap) (x : AccP w.params s.heap a dx vs n es n')
    (hk : builtinKind i = some .slot ∨ builtinKind i = some .method) (hsp : splitId i = some ("list", nm)) (ha : argsOk i ⟨.ref a :: rest, []⟩) (q : Q () s) : wpAny (model prog w) A (checkBuiltinCall i ⟨.ref a :: rest, []⟩) Q E s := by
  have hi := acc_listP (M := model prog w) X x
  rcases hk with hk | hk
  all_goals
    simp only [checkBuiltinCall, hk, hsp]
    refine wpAny_bind (hi.here ?_)
    simp only [Bool.not_true, Bool.false_eq_true, if_false]
    cases hsig : Manifest.signature? i with
    | none => exact wpAny_pure q
    | some sig =>
      simp only [argsOk, hsig] at ha
      have h2 : Bind.checkArgs i sig ⟨.ref a :: rest, []⟩ = pure () := ha
      show wpAny _ A (Bind.checkArgs i sig ⟨.ref a :: rest, []⟩) Q E s
      rw [h2]; exact wpAny_pure q
theorem acc_call {i nm : String} {B : Builtin} {rest : List Value} {Q : Value → Shared → Prop} (X : (Mine.hd.heap_1 w.params).In s.heap) (x : AccP w.params s.heap a dx vs n es n')
    (hk : builtinKind i = some .slot ∨ builtinKind i = some .method) (hsp : splitId i = some ("list", nm)) (hp : plainId i = true) (hb : entryFor table i = some B) (ha : argsOk i ⟨.ref a :: rest, []⟩)
    (h : wpAny (model prog w) A.in1 (B ⟨.ref a :: rest, []⟩) (fun fin s' => ∃ v, fin = .done (.ret v) ∧ Q v s') E s) : wpAny (model prog w) A (call (.builtin i) (.ref a :: rest)) Q E s := by
  refine wpAny_call (codeAny_call_builtin hp hb (acc_check X x hk hsp ha (wpAny_mono h (fun fin s' z => ?_) fun _ _ z => z)))
  obtain ⟨v, rfl, q⟩ := z
  exact q
/-- a special method of list's own, on the instance -/
theorem acc_special {name : Str} {i nm : String} {B : Builtin} {rest : List Value} {Q : Option Value → Shared → Prop} (X : (Mine.hd.heap_1 w.params).In s.heap) (x : AccP w.params s.heap a dx vs n es n')
    (hf : findIn (Mine.hd.heap_1 w.params) (.ref 178) name = some (some (.builtin i))) (hbind : bindSpecial (.builtin i) (.ref a) = pure (.builtin i, [.ref a]))
    (hk : builtinKind i = some .slot ∨ builtinKind i = some .method) (hsp : splitId i = some ("list", nm)) (hp : plainId i = true) (hb : entryFor table i = some B) (ha : argsOk i ⟨.ref a :: rest, []⟩)
    (h : wpAny (model prog w) A.in1 (B ⟨.ref a :: rest, []⟩) (fun fin s' => ∃ v, fin = .done (.ret v) ∧ Q (some v) s') E s) : wpAny (model prog w) A (callSpecial? (.ref a) name rest) Q E s := by
  have I := x.inst
  refine wpAny_bind (wpAny_bind (I.type.here ((looks_findIn X hf).here (wpAny_holding ?_))))
  rw [hbind]
  refine wpAny_bind (wpAny_pure (wpAny_bind (wpAny_mono (acc_call (Q := fun v s' => Q (some v) s') X x hk hsp hp hb ha h) (fun _ _ z => wpAny_pure z) fun _ _ z => z)))
end


section
variable {prog : Program} {w : World} {A : Around} {E : Value → Shared → Prop} {s : Shared} {a dx : Addr} {vs : Array Value} {n n' : Nat} {es : List DictEntry}
theorem acc_upd {f : Array Value → Array Value} {Q : Unit → Shared → Prop} (ha : s.heap.get? a = some (accObj dx vs n)) (hz : (f vs).size ≤ sizeLine)
    (h : ∀ h' n1, h'.get? a = some (accObj dx (f vs) n1) → Heap.SameBut a s.heap h' → Q () { s with heap := h' }) : wpAny (model prog w) A (updateSeq a f) Q E s := by
  unfold updateSeq
  refine wpAny_bind (wpAny_load ha ?_)
  show wpAny _ _ (update a (Obj.mapSeq f) >>= fun _ => lookBehind a) _ _ _
  refine wpAny_bind (wpAny_update ha ?_)
  have h2 : (s.heap.update a (Obj.mapSeq f)).get? a = some (accObj dx (f vs) (if (f vs).size == vs.size then n else n + 1)) := Heap.get?_update_self (Obj.mapSeq f) ha rfl
  exact wpAny_lookBehind h2 (pastItsLine_seq (by omega)) (h _ _ h2 (Heap.SameBut.update ..))
theorem k_append : builtinKind "list.append" = some .slot ∨ builtinKind "list.append" = some .method := .inr (by decide +kernel)
theorem k_pop : builtinKind "list.pop" = some .slot ∨ builtinKind "list.pop" = some .method := .inr (by decide +kernel)
theorem k_get : builtinKind "list.__getitem__" = some .slot ∨ builtinKind "list.__getitem__" = some .method := by first | exact .inr (by decide +kernel) | exact .inl (by decide +kernel)
theorem k_set : builtinKind "list.__setitem__" = some .slot ∨ builtinKind "list.__setitem__" = some .method := by first | exact .inr (by decide +kernel) | exact .inl (by decide +kernel)
theorem k_len : builtinKind "list.__len__" = some .slot ∨ builtinKind "list.__len__" = some .method := by first | exact .inr (by decide +kernel) | exact .inl (by decide +kernel)
theorem k_init : builtinKind "list.__init__" = some .slot ∨ builtinKind "list.__init__" = some .method := by first | exact .inr (by decide +kernel) | exact .inl (by decide +kernel)
theorem k_iter : builtinKind "list.__iter__" = some .slot ∨ builtinKind "list.__iter__" = some .method := by first | exact .inr (by decide +kernel) | exact .inl (by decide +kernel)
theorem s_append : splitId "list.append" = some ("list", "append") := by decide +kernel
theorem s_pop : splitId "list.pop" = some ("list", "pop") := by decide +kernel
theorem s_get : splitId "list.__getitem__" = some ("list", "__getitem__") := by decide +kernel
theorem s_set : splitId "list.__setitem__" = some ("list", "__setitem__") := by decide +kernel
theorem s_len : splitId "list.__len__" = some ("list", "__len__") := by decide +kernel
theorem s_init : splitId "list.__init__" = some ("list", "__init__") := by decide +kernel
theorem s_iter : splitId "list.__iter__" = some ("list", "__iter__") := by decide +kernel
theorem e_append : entryFor table "list.append" = some Builtin.«list.append» := entryFor_of_tree (by kernel_rfl)
theorem e_pop : entryFor table "list.pop" = some Builtin.«list.pop» := entryFor_of_tree (by kernel_rfl)
theorem e_len : entryFor table "list.__len__" = some Builtin.«list.__len__» := entryFor_of_tree (by kernel_rfl)
theorem e_init : entryFor table "list.__init__" = some Builtin.«list.__init__» := entryFor_of_tree (by kernel_rfl)
theorem e_iter : entryFor table "list.__iter__" = some Builtin.«list.__iter__» := entryFor_of_tree (by kernel_rfl)
theorem a_append (v u : Value) : argsOk "list.append" ⟨[v, u], []⟩ := by unfold argsOk; kernel_rfl
theorem a_pop (v : Value) : argsOk "list.pop" ⟨[v], []⟩ := by unfold argsOk; kernel_rfl
theorem a_len (v : Value) : argsOk "list.__len__" ⟨[v], []⟩ := by unfold argsOk; kernel_rfl
theorem a_init (v : Value) : argsOk "list.__init__" ⟨[v], []⟩ := by unfold argsOk; kernel_rfl
theorem a_iter (v : Value) : argsOk "list.__iter__" ⟨[v], []⟩ := by unfold argsOk; kernel_rfl
theorem p_append : plainId "list.append" = true := by decide +kernel
theorem p_pop : plainId "list.pop" = true := by decide +kernel
theorem p_get : plainId "list.__getitem__" = true := by decide +kernel
theorem p_set : plainId "list.__setitem__" = true := by decide +kernel
theorem p_len : plainId "list.__len__" = true := by decide +kernel
theorem p_init : plainId "list.__init__" = true := by decide +kernel
theorem p_iter : plainId "list.__iter__" = true := by decide +kernel
theorem t_append : typeIn (Mine.hd.heap_1 w.params) (.builtin "list.append") = some (.type "method_descriptor") := by k_is
theorem acc_append {v : Value} {Q : Value → Shared → Prop} (X : (Mine.hd.heap_1 w.params).In s.heap) (x : AccP w.params s.heap a dx vs n es n') (hz : vs.size ≤ 1000)
    (h : ∀ h' n1, h'.get? a = some (accObj dx (vs.push v) n1) → Heap.SameBut a s.heap h' → Q .none { s with heap := h' }) : wpAny (model prog w) A (call (.builtin "list.append") [.ref a, v]) Q E s := by
  refine acc_call X x k_append s_append p_append e_append (a_append _ _) ?_
  unfold Builtin.«list.append»
  refine wpAny_bind (wpAny_of_eq (a := (.ref a, v)) rfl ?_)
  refine wpAny_bind (acc_upd x.at_ (by simp only [Array.size_push]; unfold sizeLine; omega) fun h' n1 e1 e2 => ?_)
  exact wpAny_pure ⟨_, rfl, h h' n1 e1 e2⟩
theorem acc_len0 {Q : Value → Shared → Prop} (X : (Mine.hd.heap_1 w.params).In s.heap) (x : AccP w.params s.heap a dx vs n es n')
    (h : Q (.int (vs.size : Nat) s.toks) { s with toks := s.toks + 1 }) : wpAny (model prog w) A (call (.builtin "list.__len__") [.ref a]) Q E s := by
  refine acc_call X x k_len s_len p_len e_len (a_len _) ?_
  unfold Builtin.«list.__len__»
  refine wpAny_bind (wpAny_of_eq (a := (.ref a, [])) rfl ?_)
  dsimp only
  refine wpAny_bind ?_
  unfold seqSize
  refine wpAny_bind (wpAny_loadPart x.at_ ?_)
  refine wpAny_pure ?_
  exact wpAny_bind (wpAny_mkInt (wpAny_pure ⟨_, rfl, h⟩))
theorem acc_pop0 {v : Value} {Q : Value → Shared → Prop} (X : (Mine.hd.heap_1 w.params).In s.heap) (x : AccP w.params s.heap a dx (vs.push v) n es n') (hz : vs.size ≤ 1000)
    (h : ∀ h' n1, h'.get? a = some (accObj dx vs n1) → Heap.SameBut a s.heap h' → Q v { s with heap := h' }) : wpAny (model prog w) A (call (.builtin "list.pop") [.ref a]) Q E s := by
  refine acc_call X x k_pop s_pop p_pop e_pop (a_pop _) ?_
  unfold Builtin.«list.pop»
  refine wpAny_bind (wpAny_of_eq (a := (.ref a, [])) rfl ?_)
  dsimp only
  refine wpAny_bind (wpAny_pure ?_)
  rw [if_neg (by decide)]
  refine wpAny_bind ?_
  unfold Builtin.List.listItems
  refine wpAny_bind (wpAny_seqItems x.at_ rfl (wpAny_pure ?_))
  rw [if_neg (by simp)]
  have hs : (seqIndex? (-1) (vs.push v).size).bind (fun k => (vs.push v)[k]?.map (k, ·)) = some (vs.size, v) := by
    have : seqIndex? (-1) (vs.push v).size = some vs.size := by
      rw [PySem.seqIndex_neg (by omega) (by simp only [Array.size_push]; omega)]
      simp only [Array.size_push]
      congr 1
      omega
    rw [this]
    simp
  rw [hs]
  dsimp only
  refine wpAny_bind (acc_upd (f := fun q => q.eraseIdxIfInBounds vs.size) x.at_ ?_ fun h' n1 e1 e2 => ?_)
  · refine Nat.le_trans (m := (vs.push v).size) ?_ (by simp only [Array.size_push]; unfold sizeLine; omega)
    unfold Array.eraseIdxIfInBounds
    split <;> simp
  · refine wpAny_pure ⟨_, rfl, h h' n1 ?_ e2⟩
    rw [e1]
    congr 2
    unfold Array.eraseIdxIfInBounds
    rw [dif_pos (by simp)]
    congr 1
    apply Array.toList_inj.mp
    simp [Array.eraseIdx]
theorem acc_init0 {Q : Value → Shared → Prop} (X : (Mine.hd.heap_1 w.params).In s.heap) (x : AccP w.params s.heap a dx #[] n es n')
    (h : ∀ h' n1, h'.get? a = some (accObj dx #[] n1) → Heap.SameBut a s.heap h' → Q .none { s with heap := h' }) : wpAny (model prog w) A (call (.builtin "list.__init__") [.ref a]) Q E s := by
  refine acc_call X x k_init s_init p_init e_init (a_init _) ?_
  unfold Builtin.«list.__init__»
  dsimp only
  rw [if_neg (by decide), if_neg (by decide)]
  refine wpAny_bind ?_
  unfold Builtin.List.listItems
  refine wpAny_bind (wpAny_seqItems x.at_ rfl (wpAny_pure ?_))
  refine wpAny_bind (acc_upd (f := fun _ => #[]) x.at_ (by simp) fun h' n1 e1 e2 => ?_)
  exact wpAny_bind (wpAny_letGo (wpAny_pure ⟨_, rfl, h h' n1 e1 e2⟩))
end


theorem slice_to_end (n k : Nat) (hk : k ≤ n) : sliceBounds (some (k : Int)) none none n = ((k : Int), (n : Int), 1) := by
  simp only [sliceBounds, Option.getD_none]
  have h1 : ¬ ((k : Int) < 0) := by omega
  simp only [h1, if_false, show (1 : Int) > 0 by decide, if_true]
  congr 1
  omega
theorem slice_whole (n : Nat) : sliceBounds none none none n = (((0 : Nat) : Int), (n : Int), 1) := by simp [sliceBounds]
section
variable {prog : Program} {w : World} {A : Around} {E : Value → Shared → Prop} {s : Shared} {a dx sl : Addr} {vs : Array Value} {n n' : Nat} {es : List DictEntry}
theorem acc_key {v : Value} {name : Str} {Q : Value → Shared → Prop} (X : (Mine.hd.heap_1 w.params).In s.heap) (x : AccP w.params s.heap a dx vs n es n') (h : Q v s) : wpAny (model prog w) A (sequenceKey (.ref a) v name) Q E s := by
  unfold sequenceKey
  refine wpAny_bind (x.inst.type.here ?_)
  refine wpAny_bind ((anyM_none (l := seqItemTypes) (C := 178) X rfl).here ?_)
  rw [if_pos (show (!false) = true from rfl)]
  exact wpAny_pure h
theorem lp_slice {vl vu vt : Value} {lo hi st : Option Int} {Q : Value × Value × Value → Shared → Prop} (hs : s.heap.IsSliceOf sl vl vu vt) (pl : IsPart vl lo) (pu : IsPart vu hi) (ps : IsPart vt st) (h0 : st ≠ some 0)
    (h : Q (rawPart lo, rawPart hi, rawPart st) s) : wpAny (model prog w) A (Builtin.List.listSliceParts (.ref sl)) Q E s := by
  obtain ⟨os, hos, hcs, hds⟩ := id hs
  rw [listSliceParts_eq]
  have hstep : ¬ ((rawPart st == rawInt 0) = true) := by
    cases st with
    | none => exact Bool.false_ne_true
    | some c =>
      intro hh
      have : c = 0 := by simpa [rawPart, rawInt] using hh
      exact h0 (by rw [this])
  refine wpAny_bind (wpAny_field hos hds (x := vt) rfl (wpAny_bind (wpAny_listPart ps ?_)))
  rw [if_neg hstep]
  refine wpAny_bind (wpAny_field hos hds (x := vl) rfl (wpAny_bind (wpAny_listPart pl ?_)))
  exact wpAny_bind (wpAny_field hos hds (x := vu) rfl (wpAny_bind (wpAny_listPart pu (wpAny_pure h))))
theorem lsub_slice {vl vu vt : Value} {Q : Option Int → Shared → Prop} (hs : s.heap.IsSliceOf sl vl vu vt) (h : Q none s) : wpAny (model prog w) A (Builtin.List.listSubscript? (.ref sl)) Q E s := by
  obtain ⟨os, hos, hcs, hds⟩ := id hs
  unfold Builtin.List.listSubscript?
  refine wpAny_bind (wpAny_specialOf (T := "slice") ⟨os, hos, hcs⟩ slice_no_index ?_)
  simp only [Option.isNone_none, if_true]
  exact wpAny_pure h
theorem acc_getslice {vl vu vt : Value} {lo hi st : Option Int} {Q : Value → Shared → Prop} (X : (Mine.hd.heap_1 w.params).In s.heap) (x : AccP w.params s.heap a dx vs n es n') (hz : vs.size ≤ 1000)
    (hs : s.heap.IsSliceOf sl vl vu vt) (pl : IsPart vl lo) (pu : IsPart vu hi) (ps : IsPart vt st) (h0 : st ≠ some 0)
    (h : Q (.ref s.heap.objs.size) { s with heap := s.heap.push { cls := .type "list", data := .seq (slicePick vs lo hi st) } }) : wpAny (model prog w) A (getItem (.ref a) (.ref sl)) Q E s := by
  unfold getItem
  refine wpAny_holding (wpAny_bind (acc_key X x ?_))
  refine wpAny_bind (acc_special X x f_get (slot_list_getitem.bind _) k_get s_get p_get entry_list_getitem (args_list_getitem _ _) ?_)
  obtain ⟨os, hos, hcs, hds⟩ := id hs
  have hTs : s.TypeIs (.ref sl) "slice" := ⟨os, hos, hcs⟩
  unfold Builtin.«list.__getitem__»
  refine wpAny_bind (wpAny_of_eq (a := (.ref a, .ref sl)) rfl ?_)
  dsimp only
  refine wpAny_bind (lsub_slice hs ?_)
  dsimp only
  refine wpAny_bind (wpAny_typeOf hTs ?_)
  rw [if_neg (by decide)]
  refine wpAny_bind (lp_slice hs pl pu ps h0 ?_)
  dsimp only
  refine wpAny_bind ?_
  unfold Builtin.List.listItems
  refine wpAny_bind (wpAny_seqItems x.at_ rfl (wpAny_pure ?_))
  refine wpAny_bind (wpAny_of_eq (sliceIndices_raw lo hi st vs.size h0) ?_)
  exact wpAny_bind (wpAny_newObj_type (wpAny_pure ⟨_, rfl, wpAny_pure h⟩) (Nat.le_trans (slicePick_size_le vs lo hi st) (by unfold sizeLine; omega)))
theorem acc_getint {k : Int} {t : Tok} {v : Value} {Q : Value → Shared → Prop} (X : (Mine.hd.heap_1 w.params).In s.heap) (x : AccP w.params s.heap a dx vs n es n') (hz : vs.size ≤ 1000) (h0 : 0 ≤ k) (hv : vs[k.toNat]? = some v)
    (h : Q v s) : wpAny (model prog w) A (getItem (.ref a) (.int k t)) Q E s := by
  have hk : k.toNat < vs.size := (Array.getElem?_eq_some_iff.mp hv).1
  unfold getItem
  refine wpAny_holding (wpAny_bind (acc_key X x ?_))
  refine wpAny_bind (acc_special X x f_get (slot_list_getitem.bind _) k_get s_get p_get entry_list_getitem (args_list_getitem _ _) ?_)
  show wpAny _ _ (Builtin.List.listSubscript? (.int k t) >>= _) _ _ s
  refine wpAny_bind (wpAny_listSubscript_int (PySem.fitsIndex_of h0 (by omega)) ?_)
  obtain ⟨j, rfl⟩ := Int.eq_ofNat_of_zero_le h0
  have hx' : vs[j]? = some v := hv
  show wpAny _ _ ((seqItemAt a j >>= fun r => pure (r.map (j, ·))) >>= _) _ _ s
  refine wpAny_bind (wpAny_bind (wpAny_seqItemAt x.at_ rfl (wpAny_pure ?_)))
  rw [hx']
  first
    | exact wpAny_bind (wpAny_pure (wpAny_pure ⟨v, rfl, wpAny_pure h⟩))
    | exact wpAny_pure ⟨v, rfl, wpAny_pure h⟩
theorem acc_setslice {vl : Value} {k l nl : Nat} {new : Array Value} {lo : Option Int} {Q : Unit → Shared → Prop} (X : (Mine.hd.heap_1 w.params).In s.heap) (x : AccP w.params s.heap a dx vs n es n') (hz : vs.size ≤ 1000) (hz2 : new.size ≤ 1000)
    (hs : s.heap.IsSliceOf sl vl .none .none) (pl : IsPart vl lo) (hlo : sliceBounds lo none none vs.size = ((k : Int), (vs.size : Int), 1)) (hk : k ≤ vs.size) (hl : s.heap.get? l = some { cls := .type "list", data := .seq new nl }) (hne : l ≠ a)
    (h : ∀ h' n1, h'.get? a = some (accObj dx (vs.extract 0 k ++ new) n1) → Heap.SameBut a s.heap h' → Q () { s with heap := h' }) : wpAny (model prog w) A (setItem (.ref a) (.ref sl) (.ref l)) Q E s := by
  unfold setItem
  refine wpAny_holding (wpAny_bind (acc_key X x ?_))
  refine wpAny_bind (acc_special X x f_set (slot_list_setitem.bind _) k_set s_set p_set entry_list_setitem (args_list_setitem _ _ _) ?_)
  obtain ⟨os, hos, hcs, hds⟩ := id hs
  have hTs : s.TypeIs (.ref sl) "slice" := ⟨os, hos, hcs⟩
  have hTl : s.TypeIs (.ref l) "list" := ⟨_, hl, rfl⟩
  unfold Builtin.«list.__setitem__»
  refine wpAny_bind (wpAny_of_eq (a := (.ref a, [.ref sl, .ref l])) rfl ?_)
  dsimp only
  refine wpAny_bind (lsub_slice hs ?_)
  dsimp only
  refine wpAny_bind (wpAny_typeOf hTs ?_)
  rw [if_neg (by decide)]
  refine wpAny_bind (lp_slice hs pl .none .none (by simp) ?_)
  dsimp only
  have hsr : Builtin.List.listSameRef (.ref a) (.ref l) = false := by
    unfold Builtin.List.listSameRef
    simpa using Ne.symm hne
  rw [hsr, if_neg (by decide)]
  refine wpAny_bind ?_
  unfold Builtin.List.listAllItems
  refine wpAny_bind (wpAny_typeOf hTl ?_)
  rw [if_pos (by decide)]
  unfold Builtin.List.listItems
  refine wpAny_bind (wpAny_seqItems hl rfl (wpAny_pure ?_))
  refine wpAny_bind (wpAny_bind (wpAny_seqItems x.at_ rfl (wpAny_pure ?_)))
  refine wpAny_bind (wpAny_of_eq (sliceIndices_raw lo none none vs.size (by simp)) ?_)
  rw [hlo]
  dsimp only
  rw [if_pos (by decide)]
  refine wpAny_bind (wpAny_rule ?_)
  rw [if_neg (by unfold Builtin.List.listTooLong; simp; unfold sizeLine; omega)]
  have hf : vs.extract 0 ((k : Int)).toNat ++ new ++ vs.extract (max (k : Int) (vs.size : Int)).toNat vs.size = vs.extract 0 k ++ new := by
    rw [show (max (k : Int) (vs.size : Int)).toNat = vs.size from by omega, Int.toNat_natCast]
    simp
  refine wpAny_bind (m := updateSeq a _) (acc_upd (f := fun xs => xs.extract 0 ((k : Int)).toNat ++ new ++ xs.extract (max (k : Int) (vs.size : Int)).toNat xs.size) x.at_ ?_ fun h' n1 e1 e2 => ?_)
  · rw [hf]
    simp only [Array.size_append, Array.size_extract]
    unfold sizeLine
    omega
  · rw [hf] at e1
    exact wpAny_bind (wpAny_letGo (wpAny_pure ⟨_, rfl, wpAny_pure (h h' n1 e1 e2)⟩))
end


theorem fr_same {h₀ h h' : Heap} {L a : Addr} {m : Str → Option Value} (F : Fr h₀ L h m) (hs : Heap.SameBut a h h') (ha : a ≠ L) (h0 : h₀.get? a = none) : Fr h₀ L h' m :=
  fr_wr (wr := [a]) F (fun b o hb e => (hs.2 b (by simpa using hb)).trans e) (by simpa using ha.symm) (by simpa using h0)
theorem news_same {h₀ h h' : Heap} {L a : Addr} {news : List (Addr × Obj)} (N : News h₀ L h news) (hs : Heap.SameBut a h h') (hw : ∀ p ∈ news, p.1 ≠ a) : News h₀ L h' news :=
  fun p hp => ⟨(hs.2 _ (hw p hp)).trans (N p hp).1, (N p hp).2⟩
theorem hide2 {a b : Addr} (h1 : 240 ≤ a) (h2 : 240 ≤ b) : ∀ c ∈ [a, b], c ∈ tabs ∨ 240 ≤ c := by
  intro c hc
  simp only [List.mem_cons, List.not_mem_nil, or_false] at hc
  rcases hc with rfl | rfl
  · exact .inr h1
  · exact .inr h2
theorem hide_none {h : Heap} {H : List Addr} {q : Addr} (e : (hideAll h H).get? q = none) (hq : q ∉ H) : h.get? q = none := by
  cases z : h.get? q with
  | none => rfl
  | some o => rw [hideAll_get _ z hq] at e; cases e
theorem kept_of {h h' : Heap} {a b : Addr} {o : Obj} (k : ∀ c p, (hideAll h [a, b]).get? c = some p → h'.get? c = some p) (hb : h.get? b = some o) (hb' : h'.get? b = some o) : Kept [a] h h' := by
  intro c p hc e
  by_cases q : c = b
  · subst q; rw [hb] at e; cases e; exact hb'
  · exact k c p (hideAll_get _ e (by simp only [List.mem_cons, List.not_mem_nil, or_false] at hc ⊢; exact fun z => z.elim hc q))
/-- the heads of the news for two objects that the frame may change -/
theorem news2 {h h₁ : Heap} {H : List Addr} {a b : Addr} {o p : Obj} (hk : ∀ b o, h.get? b = some o → h₁.get? b = some o) (ha : h.get? a = some o) (hb : h.get? b = some p) (h1 : a ∈ H) (h2 : b ∈ H) {L : Addr} (hL : L = h.objs.size) :
    News (hideAll h H) L h₁ [(a, o), (b, p)] :=
  news_cons (news_cons News.nil (hk _ _ hb) (fun e => absurd (Heap.lt_size hb) (by rw [e, hL]; exact Nat.lt_irrefl _)) (hideAll_none _ h2)) (hk _ _ ha) (fun e => absurd (Heap.lt_size ha) (by rw [e, hL]; exact Nat.lt_irrefl _)) (hideAll_none _ h1)
section
variable {w : World} {A : Around} {s : Shared} {mg mb : Str → Option Value} {prog : Program} {Q : Value → Shared → Prop} {E : Value → Shared → Prop}
  {a dx : Addr} {vs : Array Value} {n n' : Nat} {es : List DictEntry}
set_option maxHeartbeats 4000000 in
theorem push_wp (O : Ok w mg mb s.heap) (hd : A.depth + 1 < recursionLimit) (x : AccP w.params s.heap a dx vs n es n') (he : accE w.params es) (h1 : 240 ≤ a) (h2 : 240 ≤ dx) (hne : dx ≠ a) (hz : vs.size ≤ 1000) (f y : Str) (tf ty : Tok)
    (hQ : ∀ h' tk n1 q, AccP w.params h' a dx (vs.push (.ref q)) n1 es n' → h'.get? q = some { cls := .type "tuple", data := .seq #[.str f tf, .str y ty] } → s.heap.get? q = none → Kept [a] s.heap h' → Q .none { s with heap := h', toks := tk }) :
    wpAny (model prog w) A (call (.ref 122) [.ref a, .str f tf, .str y ty]) Q E s := by
  refine callQ [a, dx] [("self", .ref a), ("fws", .str f tf), ("string", .str y ty)] O (by k_is) (by k_is) (by omega) (BindsTo.of_eq rfl) (locs rfl) (hide2 h1 h2) (fun g L' h₁ tk' hg hL F' X' T' hk => ?_)
  have N : News g L' h₁ [(a, accObj dx vs n), (dx, dictOf es n')] := hg ▸ news2 hk x.at_ x.dx_ (by simp) (by simp) hL
  repeat' (((fail_if_success with_reducible refine gdG ?_); ((fail_if_success with_reducible first | refine gdW ?_ | refine gdF ?_ | refine gdL ?_ | refine gdT ?_ | refine gdC ?_ | refine gdM (by decide) ?_ | show PySem.wpAt _ _ _ _ _ _ _); first | walk1 | (dsimp only; walk1))))
  refine acc_method (X'.keeps F'.keep) ⟨(N _ (.head _)).1, (N _ (.tail _ (.head _))).1⟩ f_append t_append rfl (by rcases he with rfl | ⟨_, _, rfl⟩ <;> rfl) ?_
  repeat' (((fail_if_success with_reducible first | refine gdW ?_ | refine gdF ?_ | refine gdL ?_ | refine gdT ?_ | refine gdC ?_ | refine gdM (by decide) ?_ | show PySem.wpAt _ _ _ _ _ _ _); first | walk1 | (dsimp only; walk1)))
  with_reducible rename Fr _ _ _ _ => F2
  with_reducible rename News _ _ _ _ => N2
  refine acc_append (X'.keeps F2.keep) ⟨(N2 _ (.tail _ (.head _))).1, (N2 _ (.tail _ (.tail _ (.head _)))).1⟩ hz (fun h' n1 e1 e2 => ?_)
  have ha := (N2 _ (.tail _ (.head _))).2
  have hD := N2 _ (.head _)
  have hd2 := (N2 _ (.tail _ (.tail _ (.head _)))).1
  dsimp only at ha hD hd2
  have hl := ‹a < _ ∧ dx < _›
  have F3 := fr_same F2 e2 ha.1 ha.2
  refine wpAny_execs_nil (hQ _ _ _ _ ⟨e1, (e2.2 _ hne).trans hd2⟩ ((e2.2 _ (Nat.ne_of_gt hl.1)).trans hD.1) (hide_none (hg ▸ hD.2.2) (by simp only [List.mem_cons, List.not_mem_nil, or_false, not_or]; exact ⟨Nat.ne_of_gt hl.1, Nat.ne_of_gt hl.2⟩)) ?_)
  exact kept_of (hg ▸ F3.keep) x.dx_ ((e2.2 _ hne).trans hd2)
end


section
variable {prog : Program} {w : World} {A : Around} {E : Value → Shared → Prop} {h : Heap} {g : Array GenState} {d : Drawn} {t : Nat} {os : OsState}

theorem sup_entry_wrapper_descriptor : entryFor table "wrapper_descriptor.__get__" = some Builtin.«wrapper_descriptor.__get__» := entryFor_of_tree (by kernel_rfl)
theorem sup_args_wrapper_descriptor (a b c : Value) : argsOk "wrapper_descriptor.__get__" ⟨[a, b, c], []⟩ := by unfold argsOk; kernel_rfl
theorem sup_slot_wrapper_descriptor : Slot "wrapper_descriptor" "__get__" "wrapper_descriptor.__get__" := .of (owner := "wrapper_descriptor") (n := "__get__") (by rw [typeLookup_type, builtinLookup_eq_fast]; kernel_rfl) (by decide +kernel) (by decide +kernel) (by decide +kernel)
    (by first | exact .inl (by decide +kernel) | exact .inr (by decide +kernel)) (by rw [isSubtype_type]; kernel_rfl)

theorem sup_entry_method_descriptor : entryFor table "method_descriptor.__get__" = some Builtin.«method_descriptor.__get__» := entryFor_of_tree (by kernel_rfl)
theorem sup_args_method_descriptor (a b c : Value) : argsOk "method_descriptor.__get__" ⟨[a, b, c], []⟩ := by unfold argsOk; kernel_rfl
theorem sup_slot_method_descriptor : Slot "method_descriptor" "__get__" "method_descriptor.__get__" := .of (owner := "method_descriptor") (n := "__get__") (by rw [typeLookup_type, builtinLookup_eq_fast]; kernel_rfl) (by decide +kernel) (by decide +kernel) (by decide +kernel)
    (by first | exact .inl (by decide +kernel) | exact .inr (by decide +kernel)) (by rw [isSubtype_type]; kernel_rfl)

theorem sup_ty___len__ : typeOf (.builtin "list.__len__") = pure (.type "wrapper_descriptor") := by
  show builtinType "list.__len__" = _
  rw [builtinType_eq_fast]; kernel_rfl
set_option maxHeartbeats 2000000 in
theorem sup_get___len__ {x : Addr} {Q : Value → Shared → Prop} (X : (Mine.hd.heap_1 w.params).In h) (hi : Looks (model prog w) h (isInstance (.ref x) (.type "list")) true)
    (hq : Q (.ref h.objs.size) ⟨h.push { cls := .type "method-wrapper", data := .fields #[.builtin "list.__len__", .ref x] }, g, d, t, os⟩) :
    wpAny (model prog w) A (call (.builtin "wrapper_descriptor.__get__") [.builtin "list.__len__", .ref x, .ref 178]) Q E ⟨h, g, d, t, os⟩ := by
  have hT : (⟨h, g, d, t, os⟩ : Shared).TypeIs (.builtin "list.__len__") "wrapper_descriptor" := by
    have := sup_ty___len__
    first | exact this | (unfold Shared.TypeIs; exact this) | rfl
  refine wpAny_call_entry sup_slot_wrapper_descriptor hT sup_entry_wrapper_descriptor ?_ (sup_args_wrapper_descriptor _ _ _)
  unfold Builtin.«wrapper_descriptor.__get__»
  refine wpAny_bind (wpAny_of_eq (a := (.builtin "list.__len__", some (.ref x), some (.ref 178))) (by kernel_rfl) ?_)
  dsimp only
  skip
  refine wpAny_bind (wpAny_bind (wpAny_of_eq (a := (Str.ofString "__len__", .type "list")) (by kernel_rfl) ?_))
  refine wpAny_bind (hi.at ?_)
  rw [if_neg (by decide)]
  refine wpAny_pure ?_
  exact wpAny_bind (wpAny_newObj_type (wpAny_pure ⟨_, rfl, hq⟩) (by size_fits))

theorem sup_ty___init__ : typeOf (.builtin "list.__init__") = pure (.type "wrapper_descriptor") := by
  show builtinType "list.__init__" = _
  rw [builtinType_eq_fast]; kernel_rfl
set_option maxHeartbeats 2000000 in
theorem sup_get___init__ {x : Addr} {Q : Value → Shared → Prop} (X : (Mine.hd.heap_1 w.params).In h) (hi : Looks (model prog w) h (isInstance (.ref x) (.type "list")) true)
    (hq : Q (.ref h.objs.size) ⟨h.push { cls := .type "method-wrapper", data := .fields #[.builtin "list.__init__", .ref x] }, g, d, t, os⟩) :
    wpAny (model prog w) A (call (.builtin "wrapper_descriptor.__get__") [.builtin "list.__init__", .ref x, .ref 178]) Q E ⟨h, g, d, t, os⟩ := by
  have hT : (⟨h, g, d, t, os⟩ : Shared).TypeIs (.builtin "list.__init__") "wrapper_descriptor" := by
    have := sup_ty___init__
    first | exact this | (unfold Shared.TypeIs; exact this) | rfl
  refine wpAny_call_entry sup_slot_wrapper_descriptor hT sup_entry_wrapper_descriptor ?_ (sup_args_wrapper_descriptor _ _ _)
  unfold Builtin.«wrapper_descriptor.__get__»
  refine wpAny_bind (wpAny_of_eq (a := (.builtin "list.__init__", some (.ref x), some (.ref 178))) (by kernel_rfl) ?_)
  dsimp only
  skip
  refine wpAny_bind (wpAny_bind (wpAny_of_eq (a := (Str.ofString "__init__", .type "list")) (by kernel_rfl) ?_))
  refine wpAny_bind (hi.at ?_)
  rw [if_neg (by decide)]
  refine wpAny_pure ?_
  exact wpAny_bind (wpAny_newObj_type (wpAny_pure ⟨_, rfl, hq⟩) (by size_fits))

theorem sup_ty_pop : typeOf (.builtin "list.pop") = pure (.type "method_descriptor") := by
  show builtinType "list.pop" = _
  rw [builtinType_eq_fast]; kernel_rfl
set_option maxHeartbeats 2000000 in
theorem sup_get_pop {x : Addr} {Q : Value → Shared → Prop} (X : (Mine.hd.heap_1 w.params).In h) (hi : Looks (model prog w) h (isInstance (.ref x) (.type "list")) true)
    (hq : Q (.ref h.objs.size) ⟨h.push { cls := .type "builtin_function_or_method", data := .fields #[.builtin "list.pop", .ref x] }, g, d, t, os⟩) :
    wpAny (model prog w) A (call (.builtin "method_descriptor.__get__") [.builtin "list.pop", .ref x, .ref 178]) Q E ⟨h, g, d, t, os⟩ := by
  have hT : (⟨h, g, d, t, os⟩ : Shared).TypeIs (.builtin "list.pop") "method_descriptor" := by
    have := sup_ty_pop
    first | exact this | (unfold Shared.TypeIs; exact this) | rfl
  refine wpAny_call_entry sup_slot_method_descriptor hT sup_entry_method_descriptor ?_ (sup_args_method_descriptor _ _ _)
  unfold Builtin.«method_descriptor.__get__»
  refine wpAny_bind (wpAny_of_eq (a := (.builtin "list.pop", some (.ref x), some (.ref 178))) (by kernel_rfl) ?_)
  dsimp only
  rw [if_neg (by decide +kernel)]
  refine wpAny_bind (wpAny_bind (wpAny_of_eq (a := (Str.ofString "pop", .type "list")) (by kernel_rfl) ?_))
  refine wpAny_bind (hi.at ?_)
  rw [if_neg (by decide)]
  refine wpAny_pure ?_
  exact wpAny_bind (wpAny_newObj_type (wpAny_pure ⟨_, rfl, hq⟩) (by size_fits))

theorem sup_ga_gen {so x : Addr} {i dt gi : String} {name : Str} {tk : Tok} {Q : Fin → Shared → Prop} (hso : h.get? so = some { cls := .type "super", dict := none, data := .fields #[.ref 178, .ref x, .ref 178], slots := #[] }) (X : (Mine.hd.heap_1 w.params).In h)
    (hx : x ≠ 178) (hn : (name == Str.ofString "__class__") = false) (hf : alongIn (Mine.hd.heap_1 w.params) name [.type "list", .type "object"] = some (some (.builtin i))) (hTf : typeOf (.builtin i) = pure (.type dt)) (hlk : typeLookup (.type dt) "__get__" = pure (some (.builtin gi)))
    (hcall : wpAny (model prog w) A (call (.builtin gi) [.builtin i, .ref x, .ref 178]) (fun v s' => Q (.done (.ret v)) s') E ⟨h, g, d, t, os⟩) :
    wpAny (model prog w) A (Builtin.«super.__getattribute__» ⟨[.ref so, .str name tk], []⟩) Q E ⟨h, g, d, t, os⟩ := by
  have hno : Looks (model prog w) h (opaqueClassAbove (.ref 178)) none := looks_opaque X (by k_is)
  have hc : ∃ cd, clsIn (Mine.hd.heap_1 w.params) 178 = some cd ∧ cd.mro = [.ref 178, .type "list", .type "object"] := ⟨_, rfl, rfl⟩
  obtain ⟨cd, hc, hm⟩ := hc
  have hC : Looks (model prog w) h (mroOf (.ref 178)) cd.mro := (looks_clsIn X hc).andThen .now
  have hl : (cd.mro.dropWhile (· != .ref 178)).drop 1 = [.type "list", .type "object"] := by rw [hm]; rfl
  have hne : (Value.ref x == Value.ref 178) = false := by simp [hx]
  have hdt : ({ cls := .type "super", dict := none, data := .fields #[.ref 178, .ref x, .ref 178], slots := #[] } : Obj).data = .fields #[.ref 178, .ref x, .ref 178] := rfl
  have f0 : (#[.ref 178, .ref x, .ref 178] : Array Value)[0]? = some (.ref 178) := rfl
  have f1 : (#[.ref 178, .ref x, .ref 178] : Array Value)[1]? = some (.ref x) := rfl
  have f2 : (#[.ref 178, .ref x, .ref 178] : Array Value)[2]? = some (.ref 178) := rfl
  unfold Builtin.«super.__getattribute__»
  dsimp only
  refine wpAny_bind (wpAny_pure ?_)
  refine bm_if_false rfl ?_
  refine wpAny_bind (wpAny_pure ?_)
  dsimp only
  refine wpAny_bind (wpAny_field hso hdt f0 ?_)
  refine wpAny_bind (wpAny_field hso hdt f1 ?_)
  refine wpAny_bind (wpAny_field hso hdt f2 ?_)
  refine bm_if_false (by rw [show (Str.ofString "__class__") = ("__class__" : Str) from rfl] at hn; rw [hn]; rfl) ?_
  refine wpAny_bind (ks_wpAny_notOpaque hno ?_)
  refine bm_if_false rfl ?_
  refine wpAny_bind (Looks.at hC ?_)
  rw [hl]
  refine wpAny_bind (ks_forIn_along X (fun _ _ => rfl) rfl ?_ hf)
  dsimp only
  refine wpAny_bind (wpAny_of_eq hTf ?_)
  refine wpAny_bind (wpAny_of_eq hlk ?_)
  dsimp only
  rw [hne, if_neg (by decide)]
  refine wpAny_bind (wpAny_holding (wpAny_mono hcall (fun v s' z => ?_) fun _ _ z => z))
  first
    | exact wpAny_pure z
    | exact wpAny_pure (wpAny_pure z)
    | exact wpAny_pure (wpAny_pure (wpAny_pure z))
    | exact wpAny_bind (wpAny_pure (wpAny_pure z))
    | exact wpAny_bind (wpAny_pure (wpAny_pure (wpAny_pure z)))

theorem sup_al___len__ : alongIn (Mine.hd.heap_1 w.params) "__len__" [.type "list", .type "object"] = some (some (.builtin "list.__len__")) := by kernel_rfl
set_option maxHeartbeats 2000000 in
theorem sup_method___len__ {so x : Addr} {pl : Sem Bool} {Q : Value × List Value → Shared → Prop} (hso : h.get? so = some { cls := .type "super", dict := none, data := .fields #[.ref 178, .ref x, .ref 178], slots := #[] }) (X : (Mine.hd.heap_1 w.params).In h)
    (hi : Looks (model prog w) h (isInstance (.ref x) (.type "list")) true) (hx : x ≠ 178)
    (hq : Q (.ref h.objs.size, []) ⟨h.push { cls := .type "method-wrapper", data := .fields #[.builtin "list.__len__", .ref x] }, g, d, t + 1, os⟩) :
    wpAny (model prog w) A (getMethod (.ref so) "__len__" pl) Q E ⟨h, g, d, t, os⟩ := by
  have hlk := PySem.F.ks_slot_super_ga.lookup
  have hcan := PySem.F.ks_canon_super_ga
  have hT : ∀ t', (⟨h, g, d, t', os⟩ : Shared).TypeIs (.ref so) "super" := fun _ => ⟨_, hso, rfl⟩
  unfold getMethod
  refine wpAny_bind (wpAny_specialOf (hT _) hlk ?_)
  show wpAny _ _ (if (Manifest.canonical "super.__getattribute__" != "object.__getattribute__") = true then _ else _) _ _ _
  rw [if_pos hcan]
  unfold getAttr getAttrBy
  refine wpAny_bind (wpAny_bind (wpAny_mkText (wpAny_holding (wpAny_bind (wpAny_typeOf (hT _) (wpAny_bind (wpAny_of_eq hlk ?_)))))))
  show wpAny _ _ (getAttrByItsOwn (.ref so) (.str "__len__" t) (.type "super") (.builtin "super.__getattribute__") true false) _ _ _
  unfold getAttrByItsOwn hookBefore callGetattribute boundAndCalled
  refine wpAny_bind (wpAny_of_eq (show (if onTheHeap (.type "super") then typeLookup (.type "super") "__getattr__" else pure none) = pure none from rfl) ?_)
  refine wpAny_bind (wpAny_attempt (wpAny_holding ?_))
  show wpAny _ _ (bindSpecial (.builtin "super.__getattribute__") (.ref so) >>= _) _ _ _
  refine wpAny_bind (wpAny_of_eq (PySem.F.ks_slot_super_ga.bind _) ?_)
  refine wpAny_mono (Q := fun v s' => v = .ref h.objs.size ∧ s' = ⟨h.push { cls := .type "method-wrapper", data := .fields #[.builtin "list.__len__", .ref x] }, g, d, t + 1, os⟩) (E := fun _ _ => False)
    (wpAny_call_entry PySem.F.ks_slot_super_ga (hT _) PySem.F.ks_entry_super_ga (sup_ga_gen hso X hx (by decide +kernel) sup_al___len__ sup_ty___len__ sup_slot_wrapper_descriptor.lookup (sup_get___len__ X hi ⟨_, rfl, rfl, rfl⟩)) (PySem.F.ks_gaArgs_super _ _)) (fun v s' hv => ?_) fun _ _ z => z.elim
  obtain ⟨rfl, rfl⟩ := hv
  exact wpAny_pure (wpAny_pure hq)

theorem sup_al___init__ : alongIn (Mine.hd.heap_1 w.params) "__init__" [.type "list", .type "object"] = some (some (.builtin "list.__init__")) := by kernel_rfl
set_option maxHeartbeats 2000000 in
theorem sup_method___init__ {so x : Addr} {pl : Sem Bool} {Q : Value × List Value → Shared → Prop} (hso : h.get? so = some { cls := .type "super", dict := none, data := .fields #[.ref 178, .ref x, .ref 178], slots := #[] }) (X : (Mine.hd.heap_1 w.params).In h)
    (hi : Looks (model prog w) h (isInstance (.ref x) (.type "list")) true) (hx : x ≠ 178)
    (hq : Q (.ref h.objs.size, []) ⟨h.push { cls := .type "method-wrapper", data := .fields #[.builtin "list.__init__", .ref x] }, g, d, t + 1, os⟩) :
    wpAny (model prog w) A (getMethod (.ref so) "__init__" pl) Q E ⟨h, g, d, t, os⟩ := by
  have hlk := PySem.F.ks_slot_super_ga.lookup
  have hcan := PySem.F.ks_canon_super_ga
  have hT : ∀ t', (⟨h, g, d, t', os⟩ : Shared).TypeIs (.ref so) "super" := fun _ => ⟨_, hso, rfl⟩
  unfold getMethod
  refine wpAny_bind (wpAny_specialOf (hT _) hlk ?_)
  show wpAny _ _ (if (Manifest.canonical "super.__getattribute__" != "object.__getattribute__") = true then _ else _) _ _ _
  rw [if_pos hcan]
  unfold getAttr getAttrBy
  refine wpAny_bind (wpAny_bind (wpAny_mkText (wpAny_holding (wpAny_bind (wpAny_typeOf (hT _) (wpAny_bind (wpAny_of_eq hlk ?_)))))))
  show wpAny _ _ (getAttrByItsOwn (.ref so) (.str "__init__" t) (.type "super") (.builtin "super.__getattribute__") true false) _ _ _
  unfold getAttrByItsOwn hookBefore callGetattribute boundAndCalled
  refine wpAny_bind (wpAny_of_eq (show (if onTheHeap (.type "super") then typeLookup (.type "super") "__getattr__" else pure none) = pure none from rfl) ?_)
  refine wpAny_bind (wpAny_attempt (wpAny_holding ?_))
  show wpAny _ _ (bindSpecial (.builtin "super.__getattribute__") (.ref so) >>= _) _ _ _
  refine wpAny_bind (wpAny_of_eq (PySem.F.ks_slot_super_ga.bind _) ?_)
  refine wpAny_mono (Q := fun v s' => v = .ref h.objs.size ∧ s' = ⟨h.push { cls := .type "method-wrapper", data := .fields #[.builtin "list.__init__", .ref x] }, g, d, t + 1, os⟩) (E := fun _ _ => False)
    (wpAny_call_entry PySem.F.ks_slot_super_ga (hT _) PySem.F.ks_entry_super_ga (sup_ga_gen hso X hx (by decide +kernel) sup_al___init__ sup_ty___init__ sup_slot_wrapper_descriptor.lookup (sup_get___init__ X hi ⟨_, rfl, rfl, rfl⟩)) (PySem.F.ks_gaArgs_super _ _)) (fun v s' hv => ?_) fun _ _ z => z.elim
  obtain ⟨rfl, rfl⟩ := hv
  exact wpAny_pure (wpAny_pure hq)

theorem sup_al_pop : alongIn (Mine.hd.heap_1 w.params) "pop" [.type "list", .type "object"] = some (some (.builtin "list.pop")) := by kernel_rfl
set_option maxHeartbeats 2000000 in
theorem sup_method_pop {so x : Addr} {pl : Sem Bool} {Q : Value × List Value → Shared → Prop} (hso : h.get? so = some { cls := .type "super", dict := none, data := .fields #[.ref 178, .ref x, .ref 178], slots := #[] }) (X : (Mine.hd.heap_1 w.params).In h)
    (hi : Looks (model prog w) h (isInstance (.ref x) (.type "list")) true) (hx : x ≠ 178)
    (hq : Q (.ref h.objs.size, []) ⟨h.push { cls := .type "builtin_function_or_method", data := .fields #[.builtin "list.pop", .ref x] }, g, d, t + 1, os⟩) :
    wpAny (model prog w) A (getMethod (.ref so) "pop" pl) Q E ⟨h, g, d, t, os⟩ := by
  have hlk := PySem.F.ks_slot_super_ga.lookup
  have hcan := PySem.F.ks_canon_super_ga
  have hT : ∀ t', (⟨h, g, d, t', os⟩ : Shared).TypeIs (.ref so) "super" := fun _ => ⟨_, hso, rfl⟩
  unfold getMethod
  refine wpAny_bind (wpAny_specialOf (hT _) hlk ?_)
  show wpAny _ _ (if (Manifest.canonical "super.__getattribute__" != "object.__getattribute__") = true then _ else _) _ _ _
  rw [if_pos hcan]
  unfold getAttr getAttrBy
  refine wpAny_bind (wpAny_bind (wpAny_mkText (wpAny_holding (wpAny_bind (wpAny_typeOf (hT _) (wpAny_bind (wpAny_of_eq hlk ?_)))))))
  show wpAny _ _ (getAttrByItsOwn (.ref so) (.str "pop" t) (.type "super") (.builtin "super.__getattribute__") true false) _ _ _
  unfold getAttrByItsOwn hookBefore callGetattribute boundAndCalled
  refine wpAny_bind (wpAny_of_eq (show (if onTheHeap (.type "super") then typeLookup (.type "super") "__getattr__" else pure none) = pure none from rfl) ?_)
  refine wpAny_bind (wpAny_attempt (wpAny_holding ?_))
  show wpAny _ _ (bindSpecial (.builtin "super.__getattribute__") (.ref so) >>= _) _ _ _
  refine wpAny_bind (wpAny_of_eq (PySem.F.ks_slot_super_ga.bind _) ?_)
  refine wpAny_mono (Q := fun v s' => v = .ref h.objs.size ∧ s' = ⟨h.push { cls := .type "builtin_function_or_method", data := .fields #[.builtin "list.pop", .ref x] }, g, d, t + 1, os⟩) (E := fun _ _ => False)
    (wpAny_call_entry PySem.F.ks_slot_super_ga (hT _) PySem.F.ks_entry_super_ga (sup_ga_gen hso X hx (by decide +kernel) sup_al_pop sup_ty_pop sup_slot_method_descriptor.lookup (sup_get_pop X hi ⟨_, rfl, rfl, rfl⟩)) (PySem.F.ks_gaArgs_super _ _)) (fun v s' hv => ?_) fun _ _ z => z.elim
  obtain ⟨rfl, rfl⟩ := hv
  exact wpAny_pure (wpAny_pure hq)
end


section
variable {prog : Program} {w : World} {A : Around} {s : Shared} {mg mb : Str → Option Value}
  {name qual : Str} {params : Arguments} {body : List Stmt} {scope : Scope} {dV kV doc pm cdv ct oc : Value} {an od : Option Addr} {osl : Array (Option Value)} {f : Addr}
/-- a call of a method that names its class: the code on top of the stack is known -/
theorem rawQS {vs : List Value} {kw : List (Str × Value)} {Q : Value → Shared → Prop} (H : List Addr) (binds : List (Str × Value)) (O : Ok w mg mb s.heap)
    (ho : (Mine.hd.heap_1 w.params).lookup f = some ⟨oc, od, .func (fnX name qual params body scope [("__class__", 102)] dV kV doc pm an cdv ct), osl⟩) (hcd : codeIn (Mine.hd.heap_1 w.params) cdv qual = true) (hroom : A.depth < recursionLimit)
    (hbind : BindsTo s (fnX name qual params body scope [("__class__", 102)] dV kV doc pm an cdv ct) ⟨vs, kw⟩ binds) (hloc : ∀ y ∈ binds, scope.names.lookup y.1 = some .local) (hH : ∀ a ∈ H, a ∈ tabs ∨ 240 ≤ a)
    (h : ∀ g L' h₁ tk, g = hideAll s.heap H → L' = s.heap.objs.size → Fr g L' h₁ (fun y => binds.reverse.lookup y) → (Mine.hd.heap_1 w.params).In g → Top0 mg mb g → (∀ b o, s.heap.get? b = some o → h₁.get? b = some o) →
      PySem.wpAt (model prog w) (A.deeper (ksEnv qual scope L' f cdv 102)) (.func body (ksEnv qual scope L' f cdv 102)) (execs body (ksEnv qual scope L' f cdv 102)) (fun fl s' => Q (match fl with | .ret v => v | _ => .none) s') NoE { s with heap := h₁, toks := tk })
    (hcell : ∀ x ∈ scope.names, x.2 ≠ .cell := by decide) (hco : scope.isCoroutine = false := by rfl) (hgen : scope.isGenerator = false := by rfl) (hk : scope.kind = .function := by rfl) :
    codeAny (model prog w) A (.call (.ref f) ⟨vs, kw⟩) (fun r s' => ∃ v, r = .ok (.ret v) ∧ Q v s') s := by
  obtain ⟨X, T⟩ := O.stays (g := hideAll s.heap H) fun b o hb ht e => hideAll_get _ e fun m => (hH b m).elim ht fun q => absurd hb (Nat.not_lt.mpr q)
  refine ks_codeAny_call_defAt (fd := fnX name qual params body scope [("__class__", 102)] dV kV doc pm an cdv ct) (body := body) (binds := binds) hroom (O.frag _ _ ho) rfl O.T.nolimit (codeRec_of O.frag hcd) rfl hbind hcell hloc (fun h₁ hns hk₁ => ?_) hco hgen hk
  exact ks_wpAt_mono (h _ s.heap.objs.size h₁ _ rfl rfl ⟨hns, fun b o e => hk₁ b o (of_hideAll _ e), Nat.le_of_eq (hideAll_size _ _)⟩ X T hk₁) (fun fl s' hp => ⟨_, rfl, hp⟩) fun _ _ e => e.elim

theorem callQS {vs : List Value} {kw : List (Str × Value)} {Q : Value → Shared → Prop} {E : Value → Shared → Prop} (H : List Addr) (binds : List (Str × Value)) (O : Ok w mg mb s.heap)
    (ho : (Mine.hd.heap_1 w.params).lookup f = some ⟨oc, od, .func (fnX name qual params body scope [("__class__", 102)] dV kV doc pm an cdv ct), osl⟩) (hcd : codeIn (Mine.hd.heap_1 w.params) cdv qual = true) (hroom : A.depth < recursionLimit)
    (hbind : BindsTo s (fnX name qual params body scope [("__class__", 102)] dV kV doc pm an cdv ct) ⟨vs, kw⟩ binds) (hloc : ∀ y ∈ binds, scope.names.lookup y.1 = some .local) (hH : ∀ a ∈ H, a ∈ tabs ∨ 240 ≤ a)
    (h : ∀ g L' h₁ tk, g = hideAll s.heap H → L' = s.heap.objs.size → Fr g L' h₁ (fun y => binds.reverse.lookup y) → (Mine.hd.heap_1 w.params).In g → Top0 mg mb g → (∀ b o, s.heap.get? b = some o → h₁.get? b = some o) →
      PySem.wpAt (model prog w) (A.deeper (ksEnv qual scope L' f cdv 102)) (.func body (ksEnv qual scope L' f cdv 102)) (execs body (ksEnv qual scope L' f cdv 102)) (fun fl s' => Q (match fl with | .ret v => v | _ => .none) s') NoE { s with heap := h₁, toks := tk })
    (hcell : ∀ x ∈ scope.names, x.2 ≠ .cell := by decide) (hco : scope.isCoroutine = false := by rfl) (hgen : scope.isGenerator = false := by rfl) (hk : scope.kind = .function := by rfl) :
    wpAny (model prog w) A (call (.ref f) vs kw) Q E s := by
  exact wpCall (P := Q) (rawQS H binds O ho hcd hroom hbind hloc hH h hcell hco hgen hk) fun _ _ z => z

theorem sup_node {E : Value → Shared → Prop} {g : Heap} {L x cda : Addr} {m : Str → Option Value} {p0 p1 : Pos} {attr : Str} {whole : Sem Value} {fd : FuncData} {vs : Array Value} {tf : Tok} {ccl : Value} {cdd : Option Addr} {ccs : Array (Option Value)} {ox : Obj} {odx : Option Obj} {ar : Arg} {Q : Value → Shared → Prop}
    (F : Fr g L s.heap m) (X₀ : (Mine.hd.heap_1 w.params).In g) (T : Top0 mg mb g)
    (hf : (Mine.hd.heap_1 w.params).lookup f = some ⟨oc, od, .func fd, osl⟩) (hp : (fd.params.posonlyargs ++ fd.params.args).head? = some ar) (hv : m ar.arg = some (.ref x)) (I : InstAt s.heap x ox 178 odx)
    (hcode : (Mine.hd.heap_1 w.params).lookup cda = some ⟨ccl, cdd, .fields vs, ccs⟩) (hvs : vs[2]? = some (.str prog.main.file tf)) 
    (hks : scope.names.lookup ("super" : Str) = some .globalImplicit) (hkc : scope.names.lookup ("__class__" : Str) = some .free) (hka : scope.names.lookup ar.arg = some .local) (hk : scope.kind = .function)
    (hat : (attr == ("__class__" : Str)) = false) (htop : (prog.main.scope.names.lookup ("super" : Str)).isSome = false)
    (h : ∀ so h', h'.get? so = some (ks_superObj 178 x 178) → (∀ b o, s.heap.get? b = some o → h'.get? b = some o) → s.heap.objs.size ≤ so → Q (.ref so) { s with heap := h' }) :
    PySem.wpAt (model prog w) A (.func body (ksEnv qual scope L f (.ref cda) 102)) (attributeBase (.Call (.Name "super" p0) [] [] p1) attr (ksEnv qual scope L f (.ref cda) 102) whole) Q E s := by
  have X : (Mine.hd.heap_1 w.params).In s.heap := X₀.keeps F.keep
  obtain ⟨hh, gs, d, t, os⟩ := s
  have hc : ∃ o cd, (Mine.hd.heap_1 w.params).lookup 178 = some o ∧ o.data = .cls cd := ⟨_, _, rfl, rfl⟩
  obtain ⟨oD, cdD, hD0, hD2⟩ := hc
  have hD1 : hh.get? 178 = some oD := X _ _ hD0
  have hce : ∃ o, (Mine.hd.heap_1 w.params).lookup 102 = some o ∧ o.data = .cell (some (.ref 178)) := ⟨_, rfl, rfl⟩
  obtain ⟨oc2, hcell, hcd2⟩ := hce
  refine ks_wpAt_super_base (env := ksEnv qual scope L f (.ref cda) 102) hks hkc hat rfl (X _ _ hf) rfl hp rfl (X _ _ hcode) rfl hvs (by simp) htop ?_
  refine ks_loadName_global hk hks (loadGlobal_builtin (env := ksEnv qual scope L f (.ref cda) 102) (T.g.keeps F.keep) (mg_none_of X₀ T.g (by k_is)) (T.b.keeps F.keep) ((T.builtins _ (by decide +kernel)).trans (show bootBuiltins "super" = some (.type "super") from by decide +kernel)) ⟨rfl, ?_⟩)
  refine wpAny_loadName_free hk hkc rfl ⟨_, X _ _ hcell, hcd2⟩ ?_
  refine wpAny_loadName_local hk hka F.ns hv ?_
  refine ks_wpAny_isType_cls hD1 hD2 ⟨rfl, ?_⟩
  refine ks_wpAny_call_super hD1 hD2 I.at_ I.cls (fun c e => ?_) (looks_mroIn X (by k_is)) (fun h' e k => h _ _ e k (Nat.le_refl _))
  have := I.no
  unfold notCls at this
  rw [e] at this
  exact Bool.noConfusion this
end


noncomputable def popSig : Manifest.Signature := (Manifest.signature? "list.pop").getD ⟨.hand, "", "", .none, []⟩
theorem popSig_eq : Manifest.signature? "list.pop" = some popSig := by kernel_rfl
theorem pop_args (a : Addr) : Bind.checkArgs "list.pop" { popSig with full := s!"{(Str.ofString "_Accumulator").toString}.{Bind.lastOf "list.pop"}" } ⟨[.ref a], []⟩ = pure () := by kernel_rfl
section
variable {prog : Program} {w : World} {A : Around} {E : Value → Shared → Prop} {s : Shared} {a dx q : Addr} {vs : Array Value} {n n' : Nat} {es : List DictEntry}
theorem bound_call {i bc : String} {B : Builtin} {Q : Value → Shared → Prop} (hq : s.heap.get? q = some { cls := .type bc, data := .fields #[.builtin i, .ref a] })
    (h1 : (Value.type bc == Value.type "method" || Value.type bc == Value.type "builtin_function_or_method" || Value.type bc == Value.type "method-wrapper") = true) (h2 : (Value.type bc != Value.type "method") = true)
    (hp : plainId i = true) (hb : entryFor table i = some B) (hc : ∀ {E' : Value → Shared → Prop} {Q' : Unit → Shared → Prop}, Q' () s → wpAny (model prog w) A.in1 (checkBoundCall i ⟨[.ref a], []⟩) Q' E' s)
    (h : wpAny (model prog w) A.in1 (B ⟨[.ref a], []⟩) (fun fin s' => ∃ v, fin = .done (.ret v) ∧ Q v s') E s) : wpAny (model prog w) A (call (.ref q) []) Q E s := by
  refine wpAny_call (codeAny_of_tree ?_)
  show wpAny _ A.in1 (callAny (.ref q) _) _ _ s
  simp only [callAny]
  refine wpAny_bind (wpAny_load hq ?_)
  dsimp only
  rw [if_pos h1]
  show wpAny _ _ (if (Value.type bc != Value.type "method") = true then _ else _) _ _ _
  rw [if_pos h2]
  refine wpAny_bind (hc ?_)
  refine wpAny_pure ⟨plainId_quiet hp _, codeAny_builtin hb ?_⟩
  rw [Around.under_plainId hp _]
  refine wpAny_mono h (fun fin s' z => ?_) fun _ _ z => z
  obtain ⟨v, rfl, z⟩ := z
  exact z
theorem bound_len {Q : Value → Shared → Prop} (x : AccP w.params s.heap a dx vs n es n') (hq : s.heap.get? q = some { cls := .type "method-wrapper", data := .fields #[.builtin "list.__len__", .ref a] })
    (h : Q (.int (vs.size : Nat) s.toks) { s with toks := s.toks + 1 }) : wpAny (model prog w) A (call (.ref q) []) Q E s := by
  refine bound_call hq (by decide) (by decide) p_len e_len (fun z => wpAny_of_eq (show checkBoundCall "list.__len__" ⟨[.ref a], []⟩ = pure () by kernel_rfl) z) ?_
  unfold Builtin.«list.__len__»
  refine wpAny_bind (wpAny_of_eq (a := (.ref a, [])) rfl ?_)
  dsimp only
  refine wpAny_bind ?_
  unfold seqSize
  refine wpAny_bind (wpAny_loadPart x.at_ ?_)
  refine wpAny_pure ?_
  exact wpAny_bind (wpAny_mkInt (wpAny_pure ⟨_, rfl, h⟩))
theorem bound_init {Q : Value → Shared → Prop} (x : AccP w.params s.heap a dx #[] n es n') (hq : s.heap.get? q = some { cls := .type "method-wrapper", data := .fields #[.builtin "list.__init__", .ref a] })
    (h : ∀ h' n1, h'.get? a = some (accObj dx #[] n1) → Heap.SameBut a s.heap h' → Q .none { s with heap := h' }) : wpAny (model prog w) A (call (.ref q) []) Q E s := by
  refine bound_call hq (by decide) (by decide) p_init e_init (fun z => wpAny_of_eq (show checkBoundCall "list.__init__" ⟨[.ref a], []⟩ = pure () by kernel_rfl) z) ?_
  unfold Builtin.«list.__init__»
  dsimp only
  rw [if_neg (by decide), if_neg (by decide)]
  refine wpAny_bind ?_
  unfold Builtin.List.listItems
  refine wpAny_bind (wpAny_seqItems x.at_ rfl (wpAny_pure ?_))
  refine wpAny_bind (acc_upd (f := fun _ => #[]) x.at_ (by simp) fun h' n1 e1 e2 => ?_)
  exact wpAny_bind (wpAny_letGo (wpAny_pure ⟨_, rfl, h h' n1 e1 e2⟩))
theorem list_pop_run {v : Value} {Q : Fin → Shared → Prop} (x : AccP w.params s.heap a dx (vs.push v) n es n') (hz : vs.size ≤ 1000)
    (h : ∀ h' n1, h'.get? a = some (accObj dx vs n1) → Heap.SameBut a s.heap h' → Q (.done (.ret v)) { s with heap := h' }) : wpAny (model prog w) A (Builtin.«list.pop» ⟨[.ref a], []⟩) Q E s := by
  unfold Builtin.«list.pop»
  refine wpAny_bind (wpAny_of_eq (a := (.ref a, [])) rfl ?_)
  dsimp only
  refine wpAny_bind (wpAny_pure ?_)
  rw [if_neg (by decide)]
  refine wpAny_bind ?_
  unfold Builtin.List.listItems
  refine wpAny_bind (wpAny_seqItems x.at_ rfl (wpAny_pure ?_))
  rw [if_neg (by simp)]
  have hs : (seqIndex? (-1) (vs.push v).size).bind (fun k => (vs.push v)[k]?.map (k, ·)) = some (vs.size, v) := by
    have : seqIndex? (-1) (vs.push v).size = some vs.size := by
      rw [PySem.seqIndex_neg (by omega) (by simp only [Array.size_push]; omega)]
      simp only [Array.size_push]
      congr 1
      omega
    rw [this]
    simp
  rw [hs]
  dsimp only
  refine wpAny_bind (acc_upd (f := fun q => q.eraseIdxIfInBounds vs.size) x.at_ ?_ fun h' n1 e1 e2 => ?_)
  · refine Nat.le_trans (m := (vs.push v).size) ?_ (by simp only [Array.size_push]; unfold sizeLine; omega)
    unfold Array.eraseIdxIfInBounds
    split <;> simp
  · refine wpAny_pure (h h' n1 ?_ e2)
    rw [e1]
    congr 2
    unfold Array.eraseIdxIfInBounds
    rw [dif_pos (by simp)]
    congr 1
    apply Array.toList_inj.mp
    simp [Array.eraseIdx]
theorem bound_pop {v : Value} {Q : Value → Shared → Prop} (X : (Mine.hd.heap_1 w.params).In s.heap) (x : AccP w.params s.heap a dx (vs.push v) n es n') (hz : vs.size ≤ 1000) (hq : s.heap.get? q = some { cls := .type "builtin_function_or_method", data := .fields #[.builtin "list.pop", .ref a] })
    (h : ∀ h' n1, h'.get? a = some (accObj dx vs n1) → Heap.SameBut a s.heap h' → Q v { s with heap := h' }) : wpAny (model prog w) A (call (.ref q) []) Q E s := by
  refine bound_call hq (by decide) (by decide) p_pop e_pop ?_ (list_pop_run x hz fun h' n1 e1 e2 => ⟨_, rfl, h h' n1 e1 e2⟩)
  intro E' Q' z
  have hc : ∃ cd, clsIn (Mine.hd.heap_1 w.params) 178 = some cd ∧ cd.qualname = Str.ofString "_Accumulator" := ⟨_, rfl, rfl⟩
  obtain ⟨cd, hc, hn⟩ := hc
  have hk : builtinKind "list.pop" = some .method := by decide +kernel
  have L1 := looks_clsIn (M := model prog w) X hc
  have L2 : Looks (model prog w) s.heap (typeOf (.ref 178)) (.type "type") := looks_typeIn X rfl
  have L3 : Looks (model prog w) s.heap (isInstance (.ref a) (.type "module")) false := x.inst.type.andThen (looks_mroIn X (by k_is))
  have L4 := x.inst.type (M := model prog w)
  unfold checkBoundCall
  rw [popSig_eq, hk]
  dsimp only
  refine bm_if_false (by decide) ?_
  refine wpAny_bind (L3.here ?_)
  refine bm_if_false (by decide +kernel) ?_
  refine wpAny_bind ?_
  refine wpAny_bind (wpAny_load x.at_ ?_)
  refine wpAny_pure ?_
  refine bm_if_false rfl ?_
  refine wpAny_bind (L4.here ?_)
  dsimp only
  refine wpAny_bind (L1.here ?_)
  rw [hn]
  refine wpAny_bind (L2.here ?_)
  refine bm_if_true (by decide) ?_
  exact wpAny_of_eq (pop_args a) z
end


section
variable {prog : Program} {w : World} {A : Around} {E : Value → Shared → Prop} {s : Shared} {q : Addr} {bc : String} {vs : Array Value}
theorem callWith_bound {pos : Pos} {Q : Value → Shared → Prop} (hq : s.heap.get? q = some { cls := .type bc, data := .fields vs }) (hb : bc = "method-wrapper" ∨ bc = "builtin_function_or_method")
    (h : wpAny (model prog w) A (call (.ref q) []) Q E s) : wpAny (model prog w) A (callWith pos (.ref q) [] [] []) Q E s := by
  unfold callWith
  refine wpAny_bind (wpAny_holding (evalArgs_nil3 (wpAny_bind (wpAny_standAt ?_))))
  refine wpAny_bind (m := keeperOf (.ref q)) ?_
  unfold keeperOf
  refine wpAny_bind (wpAny_load hq ?_)
  dsimp only
  have h1 : (Value.type bc != Value.type "method") = true := by rcases hb with rfl | rfl <;> decide
  have h2 : (Value.type bc == Value.type "builtin_function_or_method" || Value.type bc == Value.type "method-wrapper") = true := by rcases hb with rfl | rfl <;> decide
  rw [if_pos h1, if_pos h2]
  refine wpAny_pure ?_
  exact wpAny_bind (wpAny_mono h (fun r s₂ hr => wpAny_bind (wpAny_holding (wpAny_point (wpAny_pure hr)))) fun _ _ x => x)
end
section
variable {w : World} {A : Around} {s : Shared} {mg mb : Str → Option Value} {Q : Value → Shared → Prop} {E : Value → Shared → Prop}
  {a dx : Addr} {vs : Array Value} {n n' : Nat} {es : List DictEntry}
set_option maxHeartbeats 4000000 in
theorem part_count_wp (O : Ok w mg mb s.heap) (hd : A.depth + 1 < recursionLimit) (x : AccP w.params s.heap a dx vs n es n')
    (hQ : ∀ t h' tk, (∀ b o, s.heap.get? b = some o → h'.get? b = some o) → Q (.int (vs.size : Nat) t) { s with heap := h', toks := tk }) :
    wpAny (model PySem.Challenge.pw_xo0030_01 w) A (call (.ref 175) [.ref a]) Q E s := by
  refine callQS [] [("self", .ref a)] O (by k_is) (by k_is) (by omega) (BindsTo.of_eq rfl) (locs rfl) (by simp) (fun g L' h₁ tk hg hL F' X' T' hk => ?_)
  subst hg
  have x1 : AccP w.params h₁ a dx vs n es n' := ⟨hk _ _ x.at_, hk _ _ x.dx_⟩
  refine ks_wpAt_execs_cons (ks_wpAt_Return_some (ks_wpAt_MethodCall ?_))
  refine sup_node F' X' T' (by k_is) rfl rfl x1.inst (by k_is) rfl rfl rfl rfl rfl (by decide +kernel) rfl (fun so h2 e2 k2 l2 => ?_)
  have X2 := (X'.keeps F'.keep).keeps k2
  have x2 : AccP w.params h2 a dx vs n es n' := ⟨k2 _ _ x1.at_, k2 _ _ x1.dx_⟩
  have ha : a ≠ 178 := fun e => absurd (x1.at_.symm.trans (e ▸ (X'.keeps F'.keep) 178 _ rfl)) (by simp)
  refine sup_method___len__ e2 X2 (acc_listP X2 x2) ha ?_
  have hq : (h2.push { cls := .type "method-wrapper", data := .fields #[.builtin "list.__len__", .ref a] }).get? h2.objs.size = some { cls := .type "method-wrapper", data := .fields #[.builtin "list.__len__", .ref a] } := Heap.get?_push_size _ rfl
  refine callWith_bound hq (.inl rfl) (bound_len (n' := n') (es := es) (vs := vs) (n := n) (dx := dx) ⟨Heap.get?_push_of_some _ x2.at_, Heap.get?_push_of_some _ x2.dx_⟩ hq ?_)
  exact hQ _ _ _ fun b o e => Heap.get?_push_of_some _ (k2 _ _ (hk _ _ e))
end


theorem t_pc {w : World} : typeIn (Mine.hd.heap_1 w.params) (.ref 175) = some (.type "function") := by k_is
theorem f_pc {w : World} : findIn (Mine.hd.heap_1 w.params) (.ref 178) "part_count" = some (some (.ref 175)) := by k_is
theorem ks_wpAt_execs_nil {M : Model} {A : Around} {c : Code} {env : Env} {Q : Flow → Shared → Prop} {E : Value → Shared → Prop} {s : Shared} (h : Q .next s) : PySem.wpAt M A c (execs [] env) Q E s := wpAt_of_wpAny (wpAny_execs_nil h)
section
variable {w : World} {A : Around} {s : Shared} {mg mb : Str → Option Value} {Q : Value → Shared → Prop} {E : Value → Shared → Prop}
  {a dx : Addr} {vs : Array Value} {n n' : Nat} {es : List DictEntry}
set_option maxHeartbeats 4000000 in
theorem pop_wp (O : Ok w mg mb s.heap) (hd : A.depth + 2 < recursionLimit) {v : Value} (x : AccP w.params s.heap a dx (vs.push v) n es n') (he : accE w.params es) (h1 : 240 ≤ a) (h2 : 240 ≤ dx) (hne : dx ≠ a) (hz : vs.size ≤ 1000)
    (hQ : ∀ h' tk n1, AccP w.params h' a dx vs n1 es n' → Kept [a] s.heap h' → Q v { s with heap := h', toks := tk }) :
    wpAny (model PySem.Challenge.pw_xo0030_01 w) A (call (.ref 138) [.ref a]) Q E s := by
  refine callQS [a, dx] [("self", .ref a)] O (by k_is) (by k_is) (by omega) (BindsTo.of_eq rfl) (locs rfl) (hide2 h1 h2) (fun g L' h₁ tk hg hL F' X' T' hk => ?_)
  have N : News g L' h₁ [(a, accObj dx (vs.push v) n), (dx, dictOf es n')] := hg ▸ news2 hk x.at_ x.dx_ (by simp) (by simp) hL
  have x1 : AccP w.params h₁ a dx (vs.push v) n es n' := ⟨hk _ _ x.at_, hk _ _ x.dx_⟩
  refine ks_wpAt_execs_cons (ks_wpAt_If (wpAt_of_wpAny ?_))
  repeat' (((fail_if_success with_reducible first | refine gdW ?_ | refine gdF ?_ | refine gdL ?_ | refine gdT ?_ | refine gdC ?_ | refine gdM (by decide) ?_ | show PySem.wpAt _ _ _ _ _ _ _); first | walk1 | (dsimp only; walk1)))
  refine acc_method (X'.keeps F'.keep) x1 f_pc t_pc rfl (by rcases he with rfl | ⟨_, _, rfl⟩ <;> rfl) ?_
  repeat' (((fail_if_success with_reducible first | refine gdW ?_ | refine gdF ?_ | refine gdL ?_ | refine gdT ?_ | refine gdC ?_ | refine gdM (by decide) ?_ | show PySem.wpAt _ _ _ _ _ _ _); first | walk1 | (dsimp only; walk1)))
  refine part_count_wp (O.keeps hk) (by show A.depth + 1 + 1 < _; omega) x1 (fun t h2 tk2 k2 => ?_)
  have F2 := fr_kept F' k2
  have N2 := news_kept N k2
  clear F' N
  repeat' (((fail_if_success with_reducible first | refine gdW ?_ | refine gdF ?_ | refine gdL ?_ | refine gdT ?_ | refine gdC ?_ | refine gdM (by decide) ?_ | show PySem.wpAt _ _ _ _ _ _ _); first | walk1 | (dsimp only; walk1)))
  · exfalso
    have : ((vs.push v).size : Int) = 0 := by assumption
    simp only [Array.size_push] at this
    omega
  · refine ks_wpAt_execs_nil ?_
    dsimp only
    have x2 : AccP w.params h2 a dx (vs.push v) n es n' := ⟨k2 _ _ x1.at_, k2 _ _ x1.dx_⟩
    refine ks_wpAt_execs_cons (ks_wpAt_Return_some (ks_wpAt_MethodCall ?_))
    refine sup_node F2 X' T' (by k_is) rfl rfl x2.inst (by k_is) rfl rfl rfl rfl rfl (by decide +kernel) rfl (fun so h3 e3 k3 l3 => ?_)
    have X3 := (X'.keeps F2.keep).keeps k3
    have x3 : AccP w.params h3 a dx (vs.push v) n es n' := ⟨k3 _ _ x2.at_, k3 _ _ x2.dx_⟩
    have ha : a ≠ 178 := fun e => absurd h1 (by rw [e]; decide)
    refine sup_method_pop e3 X3 (acc_listP X3 x3) ha ?_
    have hq : (h3.push { cls := .type "builtin_function_or_method", data := .fields #[.builtin "list.pop", .ref a] }).get? h3.objs.size = some { cls := .type "builtin_function_or_method", data := .fields #[.builtin "list.pop", .ref a] } := Heap.get?_push_size _ rfl
    refine callWith_bound hq (.inr rfl) (bound_pop (X3.keeps fun _ _ e => Heap.get?_push_of_some _ e) (n' := n') (es := es) (vs := vs) (n := n) (dx := dx) ⟨Heap.get?_push_of_some _ x3.at_, Heap.get?_push_of_some _ x3.dx_⟩ hz hq (fun h4 n4 e4 s4 => ?_))
    have hN := N2 _ (.head _)
    have F4 := fr_same (fr_kept (fr_kept F2 k3) fun _ _ e => Heap.get?_push_of_some _ e) s4 hN.2.1 hN.2.2
    have hd4 := (s4.2 _ hne).trans (Heap.get?_push_of_some _ x3.dx_)
    exact hQ _ _ _ ⟨e4, hd4⟩ (kept_of (hg ▸ F4.keep) x.dx_ hd4)
end


section
variable {prog : Program} {w : World} {A : Around} {E : Value → Shared → Prop} {s : Shared} {a dx : Addr} {vs : Array Value} {n n' : Nat} {es : List DictEntry}
theorem acc_subtail {value slice : Expr} {i : Value} {Q : Value → Shared → Prop} (X : (Mine.hd.heap_1 w.params).In s.heap) (x : AccP w.params s.heap a dx vs n es n')
    (h : wpAny (model prog w) A (getItem (.ref a) i) Q E s) (hsl : ∃ l, subscripted slice false (.ref a) i = operate l (getItem (.ref a) i)) : wpAny (model prog w) A (subscriptTail value slice (.ref a) i) Q E s := by
  obtain ⟨l, hsl⟩ := hsl
  unfold subscriptTail getitemInPython
  refine wpAny_bind (wpAny_bind (wpAny_bind (x.inst.type.here ((looks_findIn X f_get).here ?_))))
  dsimp only
  refine wpAny_pure ?_
  rw [hsl]
  exact wpAny_bind (wpAny_operating (wpAny_mono h (fun v s' z => wpAny_bind (wpAny_letTemporaryGo (wpAny_pure z))) fun _ _ z => z))
end
section
variable {prog : Program} {w : World} {A : Around} {s : Shared} {mg mb : Str → Option Value} {Q : Value → Shared → Prop} {E : Value → Shared → Prop}
  {a dx : Addr} {vs : Array Value} {n n' : Nat} {es : List DictEntry}
set_option maxHeartbeats 4000000 in
theorem reset0_wp (O : Ok w mg mb s.heap) (hd : A.depth + 1 < recursionLimit) (x : AccP w.params s.heap a dx vs n es n') (he : accE w.params es) (h1 : 240 ≤ a) (h2 : 240 ≤ dx) (hne : dx ≠ a) (hz : vs.size ≤ 1000)
    (hQ : ∀ h' tk n1 tk' t n2, AccP w.params h' a dx #[] n1 (accD w.params tk' (.int 0 t)) n2 → Kept [a, dx] s.heap h' → Q .none { s with heap := h', toks := tk }) :
    wpAny (model prog w) A (call (.ref 160) [.ref a]) Q E s := by
  refine callQ [a, dx] [("self", .ref a), ("startval", .none)] O (by k_is) (by k_is) (by omega) (BindsTo.of_defaults (T := 153) rfl (O.frag 153 _ rfl) rfl rfl rfl) (locs rfl) (hide2 h1 h2) (fun g L' h₁ tk hg hL F' X' T' hk => ?_)
  have N : News g L' h₁ [(a, accObj dx vs n), (dx, dictOf es n')] := hg ▸ news2 hk x.at_ x.dx_ (by simp) (by simp) hL
  repeat' (((fail_if_success with_reducible first | refine gdW ?_ | refine gdF ?_ | refine gdL ?_ | refine gdT ?_ | refine gdC ?_ | refine gdM (by decide) ?_ | show PySem.wpAt _ _ _ _ _ _ _); first | walk1 | (dsimp only; walk1)))
  with_reducible rename Fr _ _ _ _ => F2
  with_reducible rename News _ _ _ _ => N2
  have hN := N2 _ (.tail _ (.head _))
  have hlt := ‹a < _ ∧ dx < _›
  dsimp only at hN
  refine acc_setslice (n := n) (k := 0) (new := #[]) (nl := 0) ((X'.keeps F2.keep).keeps fun _ _ e => Heap.get?_push_of_some _ e) ⟨Heap.get?_push_of_some _ hN.1, Heap.get?_push_of_some _ (N2 _ (.tail _ (.tail _ (.head _)))).1⟩ hz (Nat.zero_le _) (Heap.IsSliceOf.new ..) .none (slice_whole _) (Nat.zero_le _) (Heap.get?_push_of_some _ (N2 _ (.head _)).1) (Nat.ne_of_gt hlt.1) (fun h3 n3 e3 s3 => ?_)
  rw [show vs.extract 0 0 ++ #[] = #[] from by simp] at e3
  have F3 := fr_same (F2.push _) s3 hN.2.1 hN.2.2
  have hd3 := (s3.2 _ hne).trans (Heap.get?_push_of_some _ (N2 _ (.tail _ (.tail _ (.head _)))).1)
  have N3 : News g L' h3 [(a, _), (dx, _)] := news_cons (news_cons News.nil hd3 (N2 _ (.tail _ (.tail _ (.head _)))).2.1 (N2 _ (.tail _ (.tail _ (.head _)))).2.2) e3 hN.2.1 hN.2.2
  clear F2 N2
  repeat' (((fail_if_success with_reducible first | refine gdW ?_ | refine gdF ?_ | refine gdL ?_ | refine gdT ?_ | refine gdC ?_ | refine gdM (by decide) ?_ | show PySem.wpAt _ _ _ _ _ _ _); first | walk1 | (dsimp only; walk1)))
  refine acc_setattr (X'.keeps F3.keep) ⟨e3, hd3⟩ he hne (fun h4 tk4 n4 k4 e4 s4 => ?_)
  have F4 := fr_same F3 s4 (N3 _ (.tail _ (.head _))).2.1 (N3 _ (.tail _ (.head _))).2.2
  refine wpAny_execs_nil (hQ h4 k4 n3 tk4 _ n4 ⟨(s4.2 a (Ne.symm hne)).trans e3, e4⟩ fun b o hb e => F4.keep b o (hg ▸ hideAll_get _ e hb))
set_option maxHeartbeats 4000000 in
theorem reset1_wp (O : Ok w mg mb s.heap) (hd : A.depth + 1 < recursionLimit) (x : AccP w.params s.heap a dx vs n es n') (he : accE w.params es) (h1 : 240 ≤ a) (h2 : 240 ≤ dx) (hne : dx ≠ a) (hz : vs.size ≤ 1000)
    {l nl : Nat} {new : Array Value} (hl : s.heap.get? l = some { cls := .type "list", data := .seq new nl }) (hz2 : new.size ≤ 1000)
    (hQ : ∀ h' tk n1 tk' t n2, AccP w.params h' a dx new n1 (accD w.params tk' (.int 0 t)) n2 → Kept [a, dx] s.heap h' → Q .none { s with heap := h', toks := tk }) :
    wpAny (model prog w) A (call (.ref 160) [.ref a, .ref l]) Q E s := by
  refine callQ [a, dx] [("self", .ref a), ("startval", .ref l)] O (by k_is) (by k_is) (by omega) (BindsTo.of_defaults (T := 153) rfl (O.frag 153 _ rfl) rfl rfl rfl) (locs rfl) (hide2 h1 h2) (fun g L' h₁ tk hg hL F' X' T' hk => ?_)
  have N : News g L' h₁ [(a, accObj dx vs n), (dx, dictOf es n')] := hg ▸ news2 hk x.at_ x.dx_ (by simp) (by simp) hL
  have hla : l ≠ a := fun e => by have := hl.symm.trans (e ▸ x.at_); simp at this
  have hld : l ≠ dx := fun e => by have := hl.symm.trans (e ▸ x.dx_); simp at this
  have hlg : g.get? l = some { cls := .type "list", data := .seq new nl } := hg ▸ hideAll_get _ hl (by simp only [List.mem_cons, List.not_mem_nil, or_false, not_or]; exact ⟨hla, hld⟩)
  repeat' (((fail_if_success with_reducible first | refine gdW ?_ | refine gdF ?_ | refine gdL ?_ | refine gdT ?_ | refine gdC ?_ | refine gdM (by decide) ?_ | show PySem.wpAt _ _ _ _ _ _ _); first | walk1 | (dsimp only; walk1)))
  with_reducible rename Fr _ _ _ _ => F2
  with_reducible rename News _ _ _ _ => N2
  have hN := N2 _ (.head _)
  dsimp only at hN
  refine acc_setslice (n := n) (k := 0) (new := new) (nl := nl) ((X'.keeps F2.keep).keeps fun _ _ e => Heap.get?_push_of_some _ e) ⟨Heap.get?_push_of_some _ hN.1, Heap.get?_push_of_some _ (N2 _ (.tail _ (.head _))).1⟩ hz hz2 (Heap.IsSliceOf.new ..) .none (slice_whole _) (Nat.zero_le _) (Heap.get?_push_of_some _ (F2.keep _ _ hlg)) hla (fun h3 n3 e3 s3 => ?_)
  rw [show vs.extract 0 0 ++ new = new from by simp] at e3
  have F3 := fr_same (F2.push _) s3 hN.2.1 hN.2.2
  have hd3 := (s3.2 _ hne).trans (Heap.get?_push_of_some _ (N2 _ (.tail _ (.head _))).1)
  have N3 : News g L' h3 [(a, _), (dx, _)] := news_cons (news_cons News.nil hd3 (N2 _ (.tail _ (.head _))).2.1 (N2 _ (.tail _ (.head _))).2.2) e3 hN.2.1 hN.2.2
  clear F2 N2
  repeat' (((fail_if_success with_reducible first | refine gdW ?_ | refine gdF ?_ | refine gdL ?_ | refine gdT ?_ | refine gdC ?_ | refine gdM (by decide) ?_ | show PySem.wpAt _ _ _ _ _ _ _); first | walk1 | (dsimp only; walk1)))
  refine acc_setattr (X'.keeps F3.keep) ⟨e3, hd3⟩ he hne (fun h4 tk4 n4 k4 e4 s4 => ?_)
  have F4 := fr_same F3 s4 (N3 _ (.tail _ (.head _))).2.1 (N3 _ (.tail _ (.head _))).2.2
  refine wpAny_execs_nil (hQ h4 k4 n3 tk4 _ n4 ⟨(s4.2 a (Ne.symm hne)).trans e3, e4⟩ fun b o hb e => F4.keep b o (hg ▸ hideAll_get _ e hb))
set_option maxHeartbeats 4000000 in
theorem pop_from_wp (O : Ok w mg mb s.heap) (hd : A.depth + 1 < recursionLimit) (x : AccP w.params s.heap a dx vs n es n') (h1 : 240 ≤ a) (h2 : 240 ≤ dx) (hne : dx ≠ a) (hz : vs.size ≤ 1000) (i : Nat) (hi : i ≤ vs.size) (ti : Tok)
    (hQ : ∀ h' tk n1 l, AccP w.params h' a dx (vs.extract 0 i) n1 es n' → h'.get? l = some { cls := .type "list", data := .seq (vs.toList.drop i).toArray } → s.heap.get? l = none → Kept [a] s.heap h' → Q (.ref l) { s with heap := h', toks := tk }) :
    wpAny (model prog w) A (call (.ref 130) [.ref a, .int (i : Nat) ti]) Q E s := by
  refine callQ [a, dx] [("self", .ref a), ("i", .int (i : Nat) ti)] O (by k_is) (by k_is) (by omega) (BindsTo.of_defaults (T := 123) rfl (O.frag 123 _ rfl) rfl rfl rfl) (locs rfl) (hide2 h1 h2) (fun g L' h₁ tk hg hL F' X' T' hk => ?_)
  have N : News g L' h₁ [(a, accObj dx vs n), (dx, dictOf es n')] := hg ▸ news2 hk x.at_ x.dx_ (by simp) (by simp) hL
  repeat' (((fail_if_success with_reducible first | refine gdW ?_ | refine gdF ?_ | refine gdL ?_ | refine gdT ?_ | refine gdC ?_ | refine gdM (by decide) ?_ | show PySem.wpAt _ _ _ _ _ _ _); first | walk1 | (dsimp only; walk1)))
  with_reducible rename Fr _ _ _ _ => F2
  with_reducible rename News _ _ _ _ => N2
  have hN := N2 _ (.head _)
  have hM := N2 _ (.tail _ (.head _))
  dsimp only at hN hM
  have x2 : AccP w.params (h₁.push { cls := .type "slice", data := .fields #[.int (i : Nat) ti, .none, .none] }) a dx vs n es n' := ⟨Heap.get?_push_of_some _ hN.1, Heap.get?_push_of_some _ hM.1⟩
  have X2 := (X'.keeps F2.keep).keeps fun b o e => Heap.get?_push_of_some { cls := .type "slice", data := .fields #[.int (i : Nat) ti, .none, .none] } e
  refine acc_subtail X2 x2 (acc_getslice X2 x2 hz (Heap.IsSliceOf.new ..) (.int _ _) .none .none (by simp) ?_) ⟨_, rfl⟩
  rw [slicePick_from _ _ hi]
  have hsl : s.heap.get? (h₁.push { cls := .type "slice", data := .fields #[.int (i : Nat) ti, .none, .none] }).objs.size = none := Heap.get?_none_of_le (by
    rw [Heap.size_push]
    exact Nat.le_succ_of_le (Nat.le_of_lt (hL ▸ F2.ns.lt)))
  have F3 := (F2.push { cls := .type "slice", data := .fields #[.int (i : Nat) ti, .none, .none] }).push { cls := .type "list", data := .seq (vs.toList.drop i).toArray }
  have N3 := (news_kept N2 (fun b o e => Heap.get?_push_of_some { cls := .type "slice", data := .fields #[.int (i : Nat) ti, .none, .none] } e)).push (F2.push { cls := .type "slice", data := .fields #[.int (i : Nat) ti, .none, .none] }) { cls := .type "list", data := .seq (vs.toList.drop i).toArray }
  clear F2 N2 x2 X2
  dsimp only
  generalize (h₁.push { cls := .type "slice", data := .fields #[.int (i : Nat) ti, .none, .none] }).objs.size = l at *
  generalize (h₁.push { cls := .type "slice", data := .fields #[.int (i : Nat) ti, .none, .none] }).push { cls := .type "list", data := .seq (vs.toList.drop i).toArray } = h5 at *
  have hla : l ≠ a := fun e => by rw [e, x.at_] at hsl; cases hsl
  have hld : l ≠ dx := fun e => by rw [e, x.dx_] at hsl; cases hsl
  repeat' (((fail_if_success with_reducible first | refine gdW ?_ | refine gdF ?_ | refine gdL ?_ | refine gdT ?_ | refine gdC ?_ | refine gdM (by decide) ?_ | show PySem.wpAt _ _ _ _ _ _ _); first | walk1 | (dsimp only; walk1)))
  with_reducible rename Fr _ _ _ _ => F4
  with_reducible rename News _ _ _ _ => N4
  have M0 := N4 _ (.head _)
  have M1 := N4 _ (.tail _ (.head _))
  have M2 := N4 _ (.tail _ (.tail _ (.head _)))
  have M3 := N4 _ (.tail _ (.tail _ (.tail _ (.head _))))
  dsimp only at M0 M1 M2 M3
  refine acc_setslice (n := n) (k := i) (new := #[]) (nl := 0) ((X'.keeps F4.keep).keeps fun _ _ e => Heap.get?_push_of_some _ e) ⟨Heap.get?_push_of_some _ M2.1, Heap.get?_push_of_some _ M3.1⟩ hz (Nat.zero_le _) (Heap.IsSliceOf.new ..) (.int _ _) (slice_to_end _ _ hi) hi (Heap.get?_push_of_some _ M0.1) ?_ (fun h6 n6 e6 s6 => ?_)
  · exact fun e => by have := M0.1.symm.trans (e ▸ M2.1); simp at this
  rw [show vs.extract 0 i ++ #[] = vs.extract 0 i from by simp] at e6
  have F6 := fr_same (F4.push _) s6 M2.2.1 M2.2.2
  have hd6 := (s6.2 _ hne).trans (Heap.get?_push_of_some _ M3.1)
  have hl6 := (s6.2 _ hla).trans (Heap.get?_push_of_some _ M1.1)
  have N6 : News g L' h6 [(l, _), (a, _), (dx, _)] := news_cons (news_cons (news_cons News.nil hd6 M3.2.1 M3.2.2) e6 M2.2.1 M2.2.2) hl6 M1.2.1 M1.2.2
  clear F4 N4
  repeat' (((fail_if_success with_reducible first | refine gdW ?_ | refine gdF ?_ | refine gdL ?_ | refine gdT ?_ | refine gdC ?_ | refine gdM (by decide) ?_ | show PySem.wpAt _ _ _ _ _ _ _); first | walk1 | (dsimp only; walk1)))
  exact hQ _ _ _ _ ⟨e6, hd6⟩ hl6 hsl (kept_of (hg ▸ F6.keep) x.dx_ hd6)
end


def SeqAt (h : Heap) (a : Addr) (items : Array Value) : Prop := ∃ o n, h.get? a = some o ∧ o.data = .seq items n
theorem SeqAt.extBut {h h' : Heap} {a b : Addr} {items : Array Value} (x : SeqAt h a items) (hs : Heap.ExtBut b h h') (hab : a ≠ b) : SeqAt h' a items := let ⟨o, n, ho, r⟩ := x; ⟨o, n, hs a o hab ho, r⟩
theorem SeqAt.at {h h' : Heap} {a : Addr} {items : Array Value} (x : SeqAt h a items) (hs : ∀ o, h.get? a = some o → h'.get? a = some o) : SeqAt h' a items := let ⟨o, n, ho, r⟩ := x; ⟨o, n, hs o ho, r⟩
section
variable {prog : Program} {w : World} {A : Around} {E : Value → Shared → Prop} {s : Shared}
theorem next_item_seq {it l : Addr} {i : Nat} {items : Array Value} {x : Value} {Q : Option Value → Shared → Prop} (hit : s.heap.IsListIter it l i)
    (hl : SeqAt s.heap l items) (hx : items[i]? = some x)
    (hQ : ∀ h', h'.IsListIter it l (i + 1) → Heap.SameBut it s.heap h' → Q (some x) { s with heap := h' }) :
    wpAny (model prog w) A (pyNext (.ref it)) Q E s := by
  obtain ⟨o, ho, hc, hd⟩ := id hit
  obtain ⟨ol, nl, hol, hdl⟩ := hl
  unfold pyNext
  refine wpAny_bind (wpAny_attempt (wpAny_callSpecial?_slot (name := Str.ofString "__next__") hit.typeIs slot_listiter_next
    (wpAny_call_entry slot_listiter_next hit.typeIs entry_listiter_next ?_ (args_listiter_next _))))
  show wpAny _ _ (field (.ref it) 0 >>= _) _ _ s
  refine wpAny_bind (wpAny_field ho hd (x := .ref l) rfl ?_)
  show wpAny _ _ (if (Value.ref l == Value.none) = true then _ else _) _ _ s
  rw [if_neg (show ¬ ((Value.ref l == Value.none) = true) from Bool.false_ne_true)]
  show wpAny _ _ (field (.ref it) 1 >>= _) _ _ s
  refine wpAny_bind (wpAny_field ho hd (x := .int i 0) rfl ?_)
  show wpAny _ _ (seqItems? (.ref l) >>= _) _ _ s
  refine wpAny_bind (wpAny_seqItems hol hdl ?_)
  simp only [Int.toNat_natCast, hx]
  refine wpAny_bind (wpAny_setField ho hd (by simp) (wpAny_pure ⟨x, rfl, wpAny_pure (hQ _ ?_ (Heap.SameBut.update ..))⟩))
  exact ⟨_, Heap.get?_update_self _ ho (Obj.isFreed_of_fields (Obj.data_mapFields hd _)), (Obj.cls_mapFields ..).trans hc, by
    rw [Obj.data_mapFields hd]; simp [rawInt]⟩
theorem next_end_seq {it l : Addr} {i : Nat} {items : Array Value} {Q : Option Value → Shared → Prop} (hh : A.handled = none)
    (hit : s.heap.IsListIter it l i) (hl : SeqAt s.heap l items) (hx : items[i]? = none)
    (hQ : ∀ h', Heap.ExtBut it s.heap h' → Q none { s with heap := h' }) : wpAny (model prog w) A (pyNext (.ref it)) Q E s := by
  obtain ⟨o, ho, hc, hd⟩ := id hit
  obtain ⟨ol, nl, hol, hdl⟩ := hl
  unfold pyNext
  refine wpAny_bind (wpAny_attempt (wpAny_callSpecial?_slot (name := Str.ofString "__next__") hit.typeIs slot_listiter_next
    (wpAny_call_entry slot_listiter_next hit.typeIs entry_listiter_next ?_ (args_listiter_next _))))
  show wpAny _ _ (field (.ref it) 0 >>= _) _ _ s
  refine wpAny_bind (wpAny_field ho hd (x := .ref l) rfl ?_)
  show wpAny _ _ (if (Value.ref l == Value.none) = true then _ else _) _ _ s
  rw [if_neg (show ¬ ((Value.ref l == Value.none) = true) from Bool.false_ne_true)]
  show wpAny _ _ (field (.ref it) 1 >>= _) _ _ s
  refine wpAny_bind (wpAny_field ho hd (x := .int i 0) rfl ?_)
  show wpAny _ _ (seqItems? (.ref l) >>= _) _ _ s
  refine wpAny_bind (wpAny_seqItems hol hdl ?_)
  simp only [Int.toNat_natCast, hx]
  refine wpAny_bind (wpAny_rule (wpAny_bind (wpAny_setField ho hd (by simp) ?_)))
  show wpAny _ _ (newExc (.type "StopIteration") [] >>= _) _ _ _
  refine wpAny_bind ?_
  simp only [newExc, newTuple]
  refine wpAny_bind (wpAny_newObj_type ?_ (by size_fits))
  refine wpAny_bind (m := firstArgMember _ _) (wpAny_of_eq (a := Value.none) (by first | rfl | (simp only [firstArgMember]; rfl)) ?_)
  refine wpAny_newObj_type ?_ (by size_fits)
  simp only [raiseNew]
  refine wpAny_bind (wpAny_handled ?_)
  rw [show A.in1.handled = none from hh]
  refine wpAny_bind (wpAny_pure (wpAny_throw ?_))
  refine wpAny_bind (wpAny_isInstance (T := "StopIteration") (b := true) ⟨_, Heap.get?_push_size _ rfl, rfl⟩ isSubtype_stop ?_)
  exact wpAny_pure (hQ _ (((Heap.SameBut.update ..).extBut.push _).push _))
theorem WalksU_seq (hh : A.handled = none) (I ax : Addr) (hne : ax ≠ I) (items : Array Value) (Ts : Nat → Addr) (vals : Nat → Array Value)
    (hit : ∀ j, j < items.size → items[j]? = some (.ref (Ts j))) (hTI : ∀ j, j < items.size → Ts j ≠ I) :
    WalksU prog w A I (I :: ax :: (List.range items.size).map Ts) [I] items.size (fun j v => v = vals j)
      (fun j h => h.IsListIter I ax j ∧ SeqAt h ax items ∧ ∀ k, k < items.size → h.IsTuple (Ts k) (vals k))
      (fun j T h => (j < items.size ∧ T = Ts j) ∧ h.IsListIter I ax (j + 1) ∧ SeqAt h ax items ∧ ∀ k, k < items.size → h.IsTuple (Ts k) (vals k)) where
  sub := fun b hb => by simp at hb; simp [hb]
  frame := fun _ _ _ st hk => ⟨st.1.at fun o e => hk I (by simp) o e, st.2.1.at fun o e => hk ax (by simp) o e,
    fun k hk' => (st.2.2 k hk').at fun o e => hk (Ts k) (List.mem_cons_of_mem _ (List.mem_cons_of_mem _ (List.mem_map.mpr ⟨k, List.mem_range.mpr hk', rfl⟩))) o e⟩
  item := fun i s Q E hi st hQ => by
    refine next_item_seq st.1 st.2.1 (x := .ref (Ts i)) (hit i hi) fun h' hit' hs' => ?_
    have tup : ∀ k, k < items.size → h'.IsTuple (Ts k) (vals k) := fun k hk' => (st.2.2 k hk').extBut hs'.extBut (hTI k hk')
    exact hQ (Ts i) (vals i) h' s.toks rfl (tup i hi) ⟨⟨hi, rfl⟩, hit', st.2.1.extBut hs'.extBut hne, tup⟩ fun b o hb e => hs'.extBut b o (fun h => hb (by simp [h])) e
  go := fun _ _ _ _ _ s Q _ hm hQ => wpAny_letOwnedTupleGo_listiter hm.2.1 (hQ s.heap hm.2 fun _ _ _ e => e)
  apart := fun j T _ hm hmem => by
    rcases List.mem_cons.mp hmem with e | e
    · exact hTI j hm.1.1 (hm.1.2 ▸ e)
    · cases e
  done := fun s Q E st hQ => next_end_seq hh st.1 st.2.1 (by simp) fun h' he' => hQ h' s.toks fun b o hb e => he' b o (fun h => hb (by simp [h])) e
  self := fun _ _ _ _ st hQ => wpAny_pyIter_listiter st.1 hQ
end
section
variable {prog : Program} {w : World} {A : Around} {E : Value → Shared → Prop} {s : Shared} {a dx : Addr} {vs : Array Value} {n n' : Nat} {es : List DictEntry}
theorem acc_cs {refuse : Sem Value} {Q : Option Value → Shared → Prop} (X : (Mine.hd.heap_1 w.params).In s.heap) (x : AccP w.params s.heap a dx vs n es n')
    (hc : wpAny (model prog w) A (call (.builtin "list.__iter__") [.ref a]) (fun v => Q (some v)) E s) : wpAny (model prog w) A (callSpecialIfBoundUnlessNone? (.ref a) "__iter__" refuse) Q E s := by
  have I := x.inst
  simp only [callSpecialIfBoundUnlessNone?, bindSpecialIfBound?]
  refine wpAny_holding (wpAny_bind (wpAny_bind (wpAny_bind (I.type.here ((looks_findIn X f_iter).here ?_)))))
  have hb : bindSpecial (.builtin "list.__iter__") (.ref a) = pure (.builtin "list.__iter__", [.ref a]) := slot_list_iter.bind _
  simp only [hb]
  refine wpAny_bind (wpAny_askSetting (wpAny_ite ?_))
  have fin : wpAny (model prog w) A (if (Value.builtin "list.__iter__" == Value.none) = true then (refuse >>= fun v => pure (some v)) else (call (.builtin "list.__iter__") [.ref a] >>= fun v => pure (some v))) Q E s := by
    simp only [builtin_beq_none, Bool.false_eq_true, if_false]
    exact wpAny_bind (wpAny_mono hc (fun v s' h' => wpAny_pure h') fun _ _ h' => h')
  split
  · exact wpAny_bind (wpAny_pure (wpAny_pure fin))
  · exact wpAny_tryCatch (wpAny_bind (wpAny_pure (wpAny_pure fin)))
theorem acc_iter {Q : Value → Shared → Prop} (X : (Mine.hd.heap_1 w.params).In s.heap) (x : AccP w.params s.heap a dx vs n es n')
    (hQ : Q (.ref s.heap.objs.size) { s with heap := s.heap.push { cls := .type "list_iterator", data := .fields #[.ref a, .int 0 0] } }) : wpAny (model prog w) A (pyIter (.ref a)) Q E s := by
  have I := x.inst
  have sub : wpAny (model prog w) A (call (.builtin "list.__iter__") [.ref a]) (fun it s' => ∃ T' r, s'.TypeIs it T' ∧ typeLookup (.type T') "__next__" = pure (some r) ∧ Q it s') E s := by
    refine acc_call X x k_iter s_iter p_iter e_iter (a_iter _) ?_
    show wpAny _ _ (do ret (← newFields "list_iterator" [.ref a, rawInt 0])) _ _ s
    exact wpAny_bind (wpAny_newObj_type (wpAny_pure ⟨_, rfl, "list_iterator", _, ⟨_, Heap.get?_push_size _ rfl, rfl⟩, slot_listiter_next.lookup, hQ⟩))
  unfold pyIter
  refine wpAny_bind (wpAny_bind (I.type.here ((looks_findIn X f_iter).here ?_)))
  show wpAny _ A (callSpecialIfBoundUnlessNone? (.ref a) "__iter__" _ >>= _) _ _ _
  refine wpAny_bind (acc_cs X x (wpAny_mono sub (fun it s' h' => ?_) fun _ _ x => x))
  obtain ⟨T', r, hT', hl, hQ⟩ := h'
  exact wpAny_bind (wpAny_specialOf hT' hl (wpAny_pure hQ))
end


theorem args_sum2 (a b : Value) : argsOk "sum" ⟨[a, b], []⟩ := by unfold argsOk; kernel_rfl
section
variable {prog : Program} {w : World} {A : Around} {E : Value → Shared → Prop} {s : Shared}
theorem call_sum2 {x : Value} {ts : Tok} {Q : Value → Shared → Prop}
    (h : wpAny (model prog w) A.in1 (pyIter x) (fun it s₂ => ∃ I fp wr G n P St val, it = .ref I ∧ WalksS prog w A.in1 I fp wr G n P St ∧ St 0 s₂ ∧ (∀ b ∈ fp, b < s₂.heap.objs.size) ∧
      (∀ i v, P i v → ∃ t, v = .int (val i) t) ∧
      ∀ s' t', Moved wr G s₂ s' → Q (.int (preSum val n) t') s') E s) :
    wpAny (model prog w) A (call (.builtin "sum") [x, .int 0 ts]) Q E s := by
  refine call_function_tree PySem.F.kind_sum PySem.F.plain_sum PySem.F.entry_sum (args_sum2 _ _) ?_
  unfold Builtin.«sum»
  simp only [List.length_cons, List.length_nil]
  rw [if_neg (by decide)]
  refine wpAny_bind (wpAny_of_eq (show Builtin.Builtins.bindParams "sum" ["start"] 0 ⟨[.int 0 ts], []⟩ = pure [some (.int 0 ts)] from rfl) ?_)
  refine wpAny_bind (wpAny_mono h (fun it s₂ h₂ => ?_) fun _ _ e => e)
  obtain ⟨I, fp, wr, G, n, P, St, val, rfl, W, hst, hfp, hval, hQ⟩ := h₂
  dsimp only
  refine bm_if_true (by decide +kernel) ?_
  refine wpAny_bind (wpAny_rule (wpAny_bind (wpAny_mkInt ?_)))
  refine wpAny_bind (wpAny_pure ?_)
  simp only [List.forIn_cons, List.forIn_nil]
  refine wpAny_bind (wpAny_bind (wpAny_bind (wpAny_isInstance (T := "int") (b := false) (typeIs_int _ _ _) PySem.sub_int_str ?_)))
  simp only [Bool.false_eq_true, if_false]
  refine wpAny_pure (wpAny_bind (wpAny_bind (wpAny_isInstance (T := "int") (b := false) (typeIs_int _ _ _) PySem.sub_int_bytes ?_)))
  simp only [Bool.false_eq_true, if_false]
  refine wpAny_pure (wpAny_bind (wpAny_bind (wpAny_isInstance (T := "int") (b := false) (typeIs_int _ _ _) PySem.sub_int_bytearray ?_)))
  simp only [Bool.false_eq_true, if_false]
  refine wpAny_pure (wpAny_pure ?_)
  refine wpAny_bind (wpAny_newObj_type ?_ (by size_fits))
  have hSf : s₂.heap.objs.size ∉ fp := fun hm => Nat.lt_irrefl _ (hfp _ hm)
  refine wpAny_pure ⟨plainId_quiet PySem.F.plain_sum_loop _, codeAny_sum_loopAnyS W val hval s₂.heap.objs.size hSf n 0 _ s₂.toks 0 0 (.inl rfl) rfl (Nat.zero_le _)
    (W.frame 0 s₂ _ _ hst (by first | exact Nat.le_refl _ | exact Nat.le_succ _ | omega) fun b _ o e => Heap.get?_push_of_some _ e) (Heap.get?_push_size _ rfl) fun s' t' hm => ?_⟩
  exact hQ s' t' (hm.drop_new (by first | exact Nat.le_refl _ | exact Nat.le_succ _ | omega))
/-- the code of a generator expression: the table of its outer code may grow -/
theorem gx_code {env : Env} {c P : Addr} {ps : Array Value} {pos : Pos} {qualname : Str} {scope : Scope} {Q : Value → Shared → Prop} (hc : env.code = .ref c) (hok : s.heap.IsCode c P ps) (htab : s.heap.TableAt c P ps)
    (hQ : ∀ code h' tk more, Heap.ExtBut P s.heap h' → h'.IsCode c P (ps ++ more) → h'.TableAt c P (ps ++ more) → Q code { s with heap := h', toks := tk }) :
    wpAny (model prog w) A (genexprCode env pos qualname scope) Q E s := by
  cases hnf : codeAmong pos ps.toList with
  | some cv =>
    refine wpAny_genexprCode_hit hc hok hnf ?_
    have := hQ cv s.heap s.toks #[] (Heap.ExtBut.refl _ _) (by simpa using hok) (by simpa using htab)
    exact this
  | none =>
    exact wpAny_genexprCodeX hc hok htab hnf fun c' h' tk x1 _ _ x2 _ x3 _ => hQ _ _ _ _ x1 x2 x3
end
theorem code144 {w : World} {h : Heap} {ps : Array Value} (X : (Mine.hd.heap_1 w.params).In h) (T : TabAt h 140 ps) : h.IsCode 144 140 ps ∧ h.TableAt 144 140 ps := by
  have hc : ∃ o, (Mine.hd.heap_1 w.params).lookup 144 = some o ∧ o.cls = .type "code" ∧ ∃ vs file tf flags tg inF text tt, o.data = .fields vs ∧ vs.getD 11 .none = .ref 140 ∧ vs.getD 18 .none = .str file tf ∧
    vs.getD 7 .none = .int flags tg ∧ vs.getD 9 .none = .bool inF ∧ vs.getD 10 .none = .int text tt ∧ vs[11]? = some (.ref 140) := ⟨_, rfl, rfl, _, _, _, _, _, _, _, _, rfl, rfl, rfl, rfl, rfl, rfl, rfl⟩
  obtain ⟨o, ho, hcl, vs, file, tf, flags, tg, inF, text, tt, h1, h2, h3, h4, h5, h6, h7⟩ := hc
  exact ⟨⟨o, vs, file, tf, flags, tg, inF, text, tt, _, X _ _ ho, h1, h2, h3, h4, h5, h6, T.1, rfl, T.2, by decide⟩, ⟨o, vs, X _ _ ho, hcl, h1, h7⟩, T.1⟩
theorem code151 {w : World} {h : Heap} {ps : Array Value} (X : (Mine.hd.heap_1 w.params).In h) (T : TabAt h 147 ps) : h.IsCode 151 147 ps ∧ h.TableAt 151 147 ps := by
  have hc : ∃ o, (Mine.hd.heap_1 w.params).lookup 151 = some o ∧ o.cls = .type "code" ∧ ∃ vs file tf flags tg inF text tt, o.data = .fields vs ∧ vs.getD 11 .none = .ref 147 ∧ vs.getD 18 .none = .str file tf ∧
    vs.getD 7 .none = .int flags tg ∧ vs.getD 9 .none = .bool inF ∧ vs.getD 10 .none = .int text tt ∧ vs[11]? = some (.ref 147) := ⟨_, rfl, rfl, _, _, _, _, _, _, _, _, rfl, rfl, rfl, rfl, rfl, rfl, rfl⟩
  obtain ⟨o, ho, hcl, vs, file, tf, flags, tg, inF, text, tt, h1, h2, h3, h4, h5, h6, h7⟩ := hc
  exact ⟨⟨o, vs, file, tf, flags, tg, inF, text, tt, _, X _ _ ho, h1, h2, h3, h4, h5, h6, T.1, rfl, T.2, by decide⟩, ⟨o, vs, X _ _ ho, hcl, h1, h7⟩, T.1⟩


def PartsAt (h : Heap) (vs : Array Value) (parts : List (Str × Str)) : Prop :=
  vs.size = parts.length ∧ ∃ (Ts : Nat → Addr) (tf tx : Nat → Tok), ∀ j, j < vs.size → vs[j]? = some (.ref (Ts j)) ∧ h.IsTuple (Ts j) #[.str (parts.getD j (Str.ofString "", Str.ofString "")).1 (tf j), .str (parts.getD j (Str.ofString "", Str.ofString "")).2 (tx j)]
noncomputable def lenOf (parts : List (Str × Str)) : Nat := (parts.map fun p => p.1.length + p.2.length).sum
section
variable {prog : Program} {w : World} {A : Around} {E : Value → Shared → Prop} {s : Shared} {mg mb : Str → Option Value} {env : Env} {m : Str → Option Value}
theorem len_of {nm : Str} {p1 p2 p3 : Pos} {x : Str} {t : Tok} {Q : Value → Shared → Prop} (hk : env.scope.kind = .function) (hl : env.kindOf "len" = some .globalImplicit) (hn : env.kindOf nm = some .local) (hnd : (nm == ("__debug__" : Str)) = false)
    (hg : s.heap.Ns env.globals mg) (hb : s.heap.Ns env.builtins mb) (h1 : mg "len" = none) (h2 : mb "len" = some (.builtin "len")) (hm : s.heap.Ns env.locals m) (hv : m nm = some (.str x t)) (hz : x.length ≤ 100000)
    (h : ∀ tk t', Q (.int (x.length : Nat) t') { s with toks := tk }) : wpAny (model prog w) A (eval (.Call (.Name "len" p1) [.Name nm p2] [] p3) env) Q E s := by
  refine Call_Name1 (Calls.Name_function_global hk hl (Calls.loadGlobal_builtin hg h1 hb h2 (PySem.Calls.callWith_builtin rfl (Calls.evalArgs_plain (Calls.spliced_cons (wpAny_Name (wpAny_loadName_local hk hn hm hv (Calls.spliced_nil ?_)) hnd))))))
  exact SBL.len (by omega) (h _ _)
theorem len_elt {p1 p2 p3 p4 p5 p6 p7 : Pos} {x y : Str} {tx ty : Tok} {Q : Value → Shared → Prop} (hk : env.scope.kind = .function) (hl : env.kindOf "len" = some .globalImplicit) (hn1 : env.kindOf "fws" = some .local) (hn2 : env.kindOf "part" = some .local)
    (hg : s.heap.Ns env.globals mg) (hb : s.heap.Ns env.builtins mb) (h1 : mg "len" = none) (h2 : mb "len" = some (.builtin "len")) (hm : s.heap.Ns env.locals m) (hx : m "fws" = some (.str x tx)) (hy : m "part" = some (.str y ty)) (hzx : x.length ≤ 100000) (hzy : y.length ≤ 100000)
    (h : ∀ tk t', Q (.int ((x.length + y.length : Nat) : Int) t') { s with toks := tk }) :
    wpAny (model prog w) A (eval (.BinOp (.Call (.Name "len" p1) [.Name "fws" p2] [] p3) .Add (.Call (.Name "len" p4) [.Name "part" p5] [] p6) p7) env) Q E s := by
  refine wpAny_BinOp (len_of hk hl hn1 (by decide) hg hb h1 h2 hm hx hzx fun tk t' => ?_)
  refine len_of (s := { s with toks := tk }) hk hl hn2 (by decide) hg hb h1 h2 hm hy hzy fun tk2 t2 => ?_
  exact wpAny_add_int (h _ _)
end
section
variable {prog : Program} {w : World} {A : Around} {s : Shared} {mg mb : Str → Option Value} {Q : Value → Shared → Prop} {E : Value → Shared → Prop}
  {a dx : Addr} {vs : Array Value} {n n' : Nat} {tk : Tok}
theorem preSum_len (parts : List (Str × Str)) : preSum (fun j => (((parts.getD j (Str.ofString "", Str.ofString "")).1.length + (parts.getD j (Str.ofString "", Str.ofString "")).2.length : Nat) : Int)) parts.length = (lenOf parts : Nat) := by
  have key : ∀ k, k ≤ parts.length → preSum (fun j => (((parts.getD j (Str.ofString "", Str.ofString "")).1.length + (parts.getD j (Str.ofString "", Str.ofString "")).2.length : Nat) : Int)) k = (lenOf (parts.take k) : Nat) := by
    intro k
    induction k with
    | zero => intro _; simp [preSum, lenOf]
    | succ k ih =>
      intro hk
      rw [preSum, ih (by omega), List.take_add_one, List.getElem?_eq_getElem (by omega)]
      simp only [lenOf, List.map_append, List.sum_append, Option.toList_some, List.map_cons, List.map_nil, List.sum_cons, List.sum_nil, Nat.add_zero]
      rw [List.getD_eq_getElem?_getD, List.getElem?_eq_getElem (by omega)]
      simp
  rw [key _ (Nat.le_refl _), List.take_length]
theorem bare_of {g : Nat} {a b : Array GenState} (h : GenOnlyQ g a b) (ha : AllBare a) : AllBare b := by
  rcases h with rfl | ⟨⟨h1, h2⟩, h3⟩
  · exact ha
  · intro y hy
    refine hideG (fun Gz hGz => ?_)
    obtain ⟨k, hk, rfl⟩ := Array.mem_iff_getElem.mp hy
    refine hGz ?_
    clear hGz Gz
    by_cases e : k = g
    · exact h3 _ (by rw [← e]; exact Array.getElem?_eq_getElem hk)
    · have := h2 k e
      rw [Array.getElem?_eq_getElem hk] at this
      exact ha _ (Array.mem_of_getElem? this.symm)
theorem getD_len {parts : List (Str × Str)} (h : ∀ p ∈ parts, p.1.length ≤ 1000 ∧ p.2.length ≤ 1000) (i : Nat) : (parts.getD i (Str.ofString "", Str.ofString "")).1.length ≤ 1000 ∧ (parts.getD i (Str.ofString "", Str.ofString "")).2.length ≤ 1000 := by
  rw [List.getD_eq_getElem?_getD]
  cases e : parts[i]? with
  | none => exact ⟨by decide +kernel, by decide +kernel⟩
  | some p => exact h p (List.mem_of_getElem? e)
set_option maxHeartbeats 4000000 in
theorem len_wp (O : Ok w mg mb s.heap) (hd : A.depth + 2 < recursionLimit) (hh : A.handled = none) {parts : List (Str × Str)} {t0 : Tok} (x : AccAt w.params s.heap a dx vs n tk (.int 0 t0) n') (hp : PartsAt s.heap vs parts) (hz : vs.size ≤ 1000) (hlen : ∀ p ∈ parts, p.1.length ≤ 1000 ∧ p.2.length ≤ 1000)
    (hQ : ∀ t s', Ext [] s s' → Q (.int (lenOf parts : Nat) t) s') :
    wpAny (model prog w) A (call (.ref 145) [.ref a]) Q E s := by
  refine callQ [140] [("self", .ref a)] O (by k_is) (by k_is) (by omega) (BindsTo.of_eq rfl) (locs rfl) (by intro b hb; exact .inl (by simp at hb; subst hb; simp [tabs])) (fun g L' h₁ tk' hg hL F' X' T' hk => ?_)
  have N : News g L' h₁ [] := News.nil
  ((fail_if_success with_reducible first | refine gdW ?_ | refine gdF ?_ | refine gdL ?_ | refine gdT ?_ | refine gdC ?_ | refine gdM (by decide) ?_ | show PySem.wpAt _ _ _ _ _ _ _); first | walk1 | (dsimp only; walk1))
  ((fail_if_success with_reducible first | refine gdW ?_ | refine gdF ?_ | refine gdL ?_ | refine gdT ?_ | refine gdC ?_ | refine gdM (by decide) ?_ | show PySem.wpAt _ _ _ _ _ _ _); first | walk1 | (dsimp only; walk1))
  ((fail_if_success with_reducible first | refine gdW ?_ | refine gdF ?_ | refine gdL ?_ | refine gdT ?_ | refine gdC ?_ | refine gdM (by decide) ?_ | show PySem.wpAt _ _ _ _ _ _ _); first | walk1 | (dsimp only; walk1))
  ((fail_if_success with_reducible first | refine gdW ?_ | refine gdF ?_ | refine gdL ?_ | refine gdT ?_ | refine gdC ?_ | refine gdM (by decide) ?_ | show PySem.wpAt _ _ _ _ _ _ _); first | walk1 | (dsimp only; walk1))
  ((fail_if_success with_reducible first | refine gdW ?_ | refine gdF ?_ | refine gdL ?_ | refine gdT ?_ | refine gdC ?_ | refine gdM (by decide) ?_ | show PySem.wpAt _ _ _ _ _ _ _); first | walk1 | (dsimp only; walk1))
  show wpAny _ _ (spliced [(false, eval (.GeneratorExp _ _ _ _) _), (false, eval (.Attribute _ _ _) _)]) _ _ _
  refine Calls.spliced_cons ?_
  refine wpAny_GeneratorExp_walksQT (cl := []) hh rfl rfl (by decide) rfl rfl rfl (by decide) rfl (by show A.depth + 1 < _; omega) ?_ (by intro _; rfl)
  have x1 : AccAt w.params h₁ a dx vs n tk (.int 0 t0) n' := ⟨hk _ _ x.at_, hk _ _ x.dx_⟩
  have X1 := X'.keeps F'.keep
  ((fail_if_success with_reducible first | refine gdW ?_ | refine gdF ?_ | refine gdL ?_ | refine gdT ?_ | refine gdC ?_ | refine gdM (by decide) ?_ | show PySem.wpAt _ _ _ _ _ _ _); first | walk1 | (dsimp only; walk1))
  refine acc_iter X1 x1.toP ?_
  obtain ⟨ps, hps⟩ := O.P.1
  have X2 := X1.keeps fun b o e => Heap.get?_push_of_some { cls := .type "list_iterator", data := .fields #[.ref a, .int 0 0] } e
  have c1 := code144 X2 (ps := ps) ⟨Heap.get?_push_of_some _ (hk _ _ hps.1), hps.2⟩
  have nl2 := (T'.nolimit.keeps F'.keep).keeps fun b o e => Heap.get?_push_of_some { cls := .type "list_iterator", data := .fields #[.ref a, .int 0 0] } e
  refine ⟨nl2, gx_code rfl c1.1 c1.2 (fun code h3 tk3 more k3 c3 t3 => ?_)⟩
  refine hideG (fun Gz hGz => ?_)
  obtain ⟨hps2, Ts, tf, tx, hparts⟩ := hp
  refine hGz ?_
  clear hGz Gz
  have hlt140 : ∀ b o, g.get? b = some o → b ≠ 140 := fun b o e q => by rw [q, hg, hideAll_none _ (by simp)] at e; cases e
  have F3 : Fr g L' h3 (fun y => List.lookup y ([(Str.ofString "self", Value.ref a)] : List (Str × Value)).reverse) := by
    have F2 := F'.push { cls := .type "list_iterator", data := .fields #[.ref a, .int 0 0] }
    refine ⟨ns_at F2.ns fun o e => k3 _ o (by rw [hL]; exact fun q => absurd (Heap.lt_size hps.1) (by rw [q]; exact Nat.lt_irrefl _)) e, fun b o e => k3 b o (hlt140 b o e) (F2.keep b o e), F2.above⟩
  have X3 := X'.keeps F3.keep
  have hs3 : ∀ b o, s.heap.get? b = some o → b ≠ 140 → h3.get? b = some o := fun b o e hb => k3 b o hb (Heap.get?_push_of_some _ (hk b o e))
  refine wpAny_builtinsFor (T'.g.keeps F3.keep) (mg_of X' T'.g (show nsIn (Mine.hd.heap_1 w.params) mainGlobals "__builtins__" = some (some (.ref 4)) by k_is)) (by decide) (hs3 4 _ O.M4 (by decide)) rfl rfl rfl ?_
  have hIne : h₁.objs.size ≠ 140 := fun q => absurd (Heap.lt_size (hk _ _ hps.1)) (by rw [← q]; exact Nat.lt_irrefl _)
  have hIs : s.heap.objs.size ≤ h₁.objs.size := hL ▸ Nat.le_of_lt F'.ns.lt
  have hI240 : 240 ≤ h₁.objs.size := Nat.le_of_lt (Nat.lt_of_le_of_lt (Heap.lt_size (O.frag 239 _ rfl)) (hL ▸ F'.ns.lt))
  have hI : h3.get? h₁.objs.size = some { cls := .type "list_iterator", data := .fields #[.ref a, .int 0 0] } := k3 _ _ hIne (Heap.get?_push_size _ rfl)
  have ha3 : h3.get? a = some (accObj dx vs n) := hs3 _ _ x.at_ (fun q => by
    have := x.at_.symm.trans (q ▸ hps.1)
    simp at this)
  have hIlt := Heap.lt_size hI
  generalize h₁.objs.size = I at *
  have hT3 : ∀ j, j < vs.size → h3.IsTuple (Ts j) #[.str (parts.getD j (Str.ofString "", Str.ofString "")).1 (tf j), .str (parts.getD j (Str.ofString "", Str.ofString "")).2 (tx j)] := by
    intro j hj
    refine hideG (fun Gz hGz => ?_)
    obtain ⟨o, e1, e2, e3⟩ := (hparts j hj).2
    refine hGz ?_
    clear hGz Gz
    exact ⟨o, hs3 _ _ e1 (fun q => by
      have := e1.symm.trans (q ▸ hps.1)
      cases this
      cases e2), e2, e3⟩
  have haI : a ≠ I := fun e => by have := ha3.symm.trans (e.symm ▸ hI); simp at this
  have hTI : ∀ j, j < vs.size → Ts j ≠ I := fun j hj e => by
    refine hideG (fun Gz hGz => ?_)
    obtain ⟨o, e1, e2, e3⟩ := hT3 j hj
    refine hGz ?_
    clear hGz Gz
    rw [e, hI] at e1
    cases e1
    simp at e2
  refine ⟨I, _, [I], vs.size, _, _, _, fun _ => true, fun i y => ∃ t, y = .int (((parts.getD i (Str.ofString "", Str.ofString "")).1.length + (parts.getD i (Str.ofString "", Str.ofString "")).2.length : Nat) : Int) t, rfl,
    fun A' hA' => WalksU_seq hA' I a ?_ vs Ts (fun j => #[.str (parts.getD j (Str.ofString "", Str.ofString "")).1 (tf j), .str (parts.getD j (Str.ofString "", Str.ofString "")).2 (tx j)]) (fun j hj => (hparts j hj).1) ?_, fun i vals e => ⟨_, _, e⟩, ⟨⟨_, hI, rfl, rfl⟩, ⟨_, n, ha3, rfl⟩, hT3⟩, ?_, T'.nolimit.keeps F3.keep, ?_, ?_, ?_⟩
  · exact haI
  · exact hTI
  · intro b hb
    rcases List.mem_cons.mp hb with rfl | hb
    · exact hIlt
    · rcases List.mem_cons.mp hb with rfl | hb
      · exact Heap.lt_size ha3
      · obtain ⟨k, hk', rfl⟩ := List.mem_map.mp hb
        obtain ⟨o, e1, _⟩ := hT3 k (List.mem_range.mp hk')
        exact Heap.lt_size e1
  · intro hm
    have := List.mem_singleton.mp hm
    have h2 : ∃ o, (Mine.hd.heap_1 w.params).lookup 2 = some o ∧ o.cls = .none := ⟨_, rfl, rfl⟩
    obtain ⟨o, e1, e2⟩ := h2
    have := (X3 _ _ e1).symm.trans (show h3.get? 2 = _ from this ▸ hI)
    cases this
    cases e2
  · intro href hkr
    refine ⟨fun A' E' i va vb s₂ m₂ _ _ _ _ _ _ => ?_, fun A' E' i va vb s₂ m₂ hA' hPt _ hn hva hvb hfp => ?_⟩
    · rw [List.forIn_nil]
      exact wpAny_pure ⟨rfl, s₂.heap, s₂.toks, rfl, fun _ _ e => e⟩
    · injection hPt with hPt
      injection hPt with h1 hPt
      injection hPt with h2 _
      subst h1 h2
      have keep5 : ∀ b o, h3.get? b = some o → b ≠ I → s₂.heap.get? b = some o := fun b o e hb => hfp b (List.mem_range.mpr (Heap.lt_size e)) (by simpa using hb) o (hkr b o e)
      refine len_elt (mg := mg) (mb := mb) rfl rfl rfl rfl ?_ ?_ ?_ ?_ hn hva hvb ?_ ?_ (fun tk t' => ⟨⟨t', rfl⟩, s₂.heap, tk, rfl, fun _ _ e => e⟩)
      · exact ns_at (T'.g.keeps F3.keep) fun o e => keep5 _ o e (fun q => absurd hI240 (by have q' : mainGlobals = I := q; rw [← q']; decide))
      · exact ns_at (T'.b.keeps F3.keep) fun o e => keep5 _ o e (fun q => absurd hI240 (by have q' : builtinsNs = I := q; rw [← q']; decide))
      · exact mg_none_of X' T'.g (by k_is)
      · exact (T'.builtins _ (by decide +kernel)).trans (by decide +kernel)
      · exact Nat.le_trans (getD_len hlen i).1 (by decide)
      · exact Nat.le_trans (getD_len hlen i).2 (by decide)
  · intro ga h5 tk5 gs hgs hga hsz5 hk5 W st5
    have F5 := fr_kept F3 hk5
    have hd3 : h3.get? dx = some (dictOf (accD w.params tk (.int 0 t0)) n') := hs3 _ _ x.dx_ (fun q => by
      have := x.dx_.symm.trans (q ▸ hps.1)
      simp at this)
    have x5 : AccAt w.params h5 a dx vs n tk (.int 0 t0) n' := ⟨hk5 _ _ ha3, hk5 _ _ hd3⟩
    have N5 : News g L' h5 [] := News.nil
    refine Calls.spliced_cons ?_
    repeat' (((fail_if_success with_reducible first | refine gdW ?_ | refine gdF ?_ | refine gdL ?_ | refine gdT ?_ | refine gdC ?_ | refine gdM (by decide) ?_ | show PySem.wpAt _ _ _ _ _ _ _); first | walk1 | (dsimp only; walk1)))
    refine acc_getattr (X'.keeps F5.keep) x5 rfl (Calls.spliced_nil (call_sum2 ?_))
    have W1 := W.in4_1
    have st6 := W1.frame 0 _ h5 (tk5 + 1) st5 (Nat.le_succ _) fun _ _ _ e => e
    have hpass : passing (fun _ => true) vs.size 0 = List.range vs.size := by unfold passing; simp
    refine W1.self 0 _ _ _ st6 ⟨ga, _, _, _, _, _, _, fun j => (((parts.getD j (Str.ofString "", Str.ofString "")).1.length + (parts.getD j (Str.ofString "", Str.ofString "")).2.length : Nat) : Int), rfl, W1, st6, ?_, ?_, fun s' t' hm => ?_⟩
    · intro b hb
      show b < h5.objs.size
      rcases List.mem_cons.mp hb with rfl | hb
      · rw [hsz5]; exact Nat.lt_succ_self _
      · rcases List.mem_cons.mp hb with rfl | hb
        · rw [hsz5]; exact Nat.lt_succ_of_lt hga
        · rw [hsz5]; exact Nat.lt_succ_of_lt (Nat.lt_trans (List.mem_range.mp hb) hga)
    · rintro j v ⟨i, hi, t, rfl⟩
      rw [hpass] at hi
      obtain ⟨hj, rfl⟩ := List.getElem?_eq_some_iff.mp hi
      exact ⟨t, by simp⟩
    · rw [hpass, List.length_range, hps2, preSum_len]
      have hCk : ∀ b o, s.heap.get? b = some o → b ∉ [h3.objs.size, I] := by
        intro b o e hm'
        simp only [List.mem_cons, List.not_mem_nil, or_false] at hm'
        have hb := Heap.lt_size e
        rcases hm' with rfl | rfl
        · exact absurd (Nat.lt_trans hb (Nat.lt_of_le_of_lt hIs hIlt) : h3.objs.size < h3.objs.size) (Nat.lt_irrefl _)
        · exact absurd hb (Nat.not_lt.mpr hIs)
      have kept : ∀ b o, s.heap.get? b = some o → b ≠ 140 → s'.heap.get? b = some o := fun b o e hb => hm.heap b o (hCk b o e) (hk5 _ _ (hs3 b o e hb))
      refine hQ _ _ ⟨fun b o _ hb e => kept b o e (notab_of (h := h3) hb).1, fun P hP qs hqs => ?_, fun hg' => ?_, hm.os⟩
      · simp only [tabs, List.mem_cons, List.not_mem_nil, or_false] at hP
        rcases hP with rfl | rfl
        · have : ps = qs := by
            have := hps.1.symm.trans hqs.1
            simpa using this
          refine hideG (fun Gz hGz => ?_)
          subst this
          obtain ⟨_, _, _, _, _, _, _, _, _, _, _, _, _, _, _, _, _, _, _, htr, _⟩ := id c3
          refine hGz ?_
          clear hGz Gz
          exact ⟨more, hm.heap _ _ (by simp only [List.mem_cons, List.not_mem_nil, or_false, not_or]; exact ⟨fun q => absurd (Heap.lt_size t3.2) (by rw [← q]; exact Nat.lt_irrefl _), fun q => hIne q.symm⟩) (hk5 _ _ t3.2), htr⟩
        · exact ⟨#[], by simpa using kept _ _ hqs.1 (by decide), by simpa using hqs.2⟩
      · exact bare_of hm.gens (hg'.push hgs)
end


theorem joinTotal_le (ts : List Str) (h : (ts.map (·.length)).sum ≤ 10000000) : JoinOk (Str.ofString "") ts = true := by
  unfold JoinOk
  rw [Bool.not_eq_true']
  unfold Builtin.Str.tooLong
  rw [StrLaws.joinTotal, show (Str.ofString "").length = 0 from by decide +kernel]
  simp only [Nat.mul_zero, Nat.add_zero]
  exact decide_eq_false (by unfold sizeLine; omega)
section
variable {prog : Program} {w : World} {A : Around} {E : Value → Shared → Prop} {s : Shared} {mg mb : Str → Option Value} {env : Env} {m : Str → Option Value}
theorem join_tup {a : Addr} {x y e : Str} {tx ty te : Tok} {n : Nat} {Q : Value → Shared → Prop} (he : e = Str.ofString "") (ha : s.heap.get? a = some { cls := .type "tuple", data := .seq #[.str x tx, .str y ty] n }) (hzx : x.length ≤ 1000) (hzy : y.length ≤ 1000)
    (h : ∀ tk t', Q (.str (Txt.join (Str.ofString "") [x, y]) t') { s with toks := tk }) : wpAny (model prog w) A (call (.builtin "str.join") [.str e te, .ref a]) Q E s := by
  subst he
  have hok := joinTotal_le [x, y] (by simp; omega)
  unfold JoinOk at hok
  rw [Bool.not_eq_true'] at hok
  refine wpAny_call (codeAny_call_builtin PySem.F.slot_str_join.plain PySem.F.entry_str_join (PySem.F.slot_str_join.check _ _ _ _ _ _ _ _ (typeIs_str _ _ _) (PySem.F.args_str_join_2 _ _) ?_))
  exact meets_str_join_tuple _ te a [(x, tx), (y, ty)] hok prog w A (wants Q E) s ⟨⟨_, n, ha, rfl, rfl⟩, post_join [(x, tx), (y, ty)] ⟨joinFit_length hok, fun t' k => h k t'⟩⟩
theorem join_elt {p1 p2 p3 p4 p5 p6 : Pos} {kt : Nat} {x y : Str} {te tx ty : Tok} {Q : Value → Shared → Prop} {pl : Sem Bool} (hk : env.scope.kind = .function) (hl : env.kindOf "EMPTYSTRING" = some .globalImplicit) (hn1 : env.kindOf "fws" = some .local) (hn2 : env.kindOf "part" = some .local)
    (hg : s.heap.Ns env.globals mg) (h1 : mg "EMPTYSTRING" = some (.str (Str.ofString "") te)) (hm : s.heap.Ns env.locals m) (hx : m "fws" = some (.str x tx)) (hy : m "part" = some (.str y ty)) (hzx : x.length ≤ 1000) (hzy : y.length ≤ 1000)
    (h : ∀ h' tk t', (∀ b o, s.heap.get? b = some o → h'.get? b = some o) → Q (.str (Txt.join (Str.ofString "") [x, y]) t') { s with heap := h', toks := tk })
    (he : eval (.Call (.Attribute (.Name "EMPTYSTRING" p1) "join" p2) [.Tuple [.Name "fws" p3, .Name "part" p4] kt p5] [] p6) env = (do
      let ov ← eval (.Name "EMPTYSTRING" p1) env
      standAt p2.atName
      let (f, first) ← holding [ov] (getMethod ov "join" pl)
      callWith p6 f first [(false, eval (.Tuple [.Name "fws" p3, .Name "part" p4] kt p5) env)] [])) :
    wpAny (model prog w) A (eval (.Call (.Attribute (.Name "EMPTYSTRING" p1) "join" p2) [.Tuple [.Name "fws" p3, .Name "part" p4] kt p5] [] p6) env) Q E s := by
  rw [he]
  refine wpAny_bind (Calls.Name_function_global hk hl (Calls.loadGlobal_global hg h1 ?_))
  refine wpAny_bind (wpAny_standAt (wpAny_bind (wpAny_holding (getMethod_builtin (typeIs_str _ _ _) PySem.F.plainAttrs_str PySem.F.slot_str_join PySem.F.type_str_join (fun a e => by cases e) ?_))))
  refine Calls.callWith_builtin rfl (Calls.evalArgs_plain (Calls.spliced_cons (wpAny_Tuple ?_)))
  show wpAny _ _ (spliced [(false, eval (.Name "fws" _) env), (false, eval (.Name "part" _) env)]) _ _ _
  refine Calls.spliced_cons (wpAny_Name (wpAny_loadName_local hk hn1 hm hx (Calls.spliced_cons (wpAny_Name (wpAny_loadName_local hk hn2 hm hy (Calls.spliced_nil ⟨(show (2:Nat) ≤ sizeLine by decide), Calls.spliced_nil ?_⟩)) (by decide)))) (by decide))
  exact join_tup rfl (Heap.get?_push_size _ rfl) hzx hzy fun tk t' => h _ _ _ fun b o e => Heap.get?_push_of_some _ e
end


noncomputable def pairOf (p : Str × Str) : Str := Txt.join (Str.ofString "") [p.1, p.2]
noncomputable def textOf (parts : List (Str × Str)) : Str := Txt.join (Str.ofString "") (parts.map pairOf)
theorem pairOf_length (p : Str × Str) : (pairOf p).length = p.1.length + p.2.length := by
  unfold pairOf Txt.join
  rw [StrLaws.glued_eq_join]
  show (p.1 ++ Str.ofString "" ++ p.2).length = _
  rw [Str.length_append, Str.length_append, show (Str.ofString "").length = 0 from by decide +kernel]
  omega
theorem pairs_sum : ∀ {parts : List (Str × Str)}, (∀ p ∈ parts, p.1.length ≤ 1000 ∧ p.2.length ≤ 1000) → ((parts.map pairOf).map (·.length)).sum ≤ 2000 * parts.length
  | [], _ => Nat.zero_le _
  | p :: r, h => by
    have h1 := h p List.mem_cons_self
    have h2 := pairs_sum (parts := r) fun q hq => h q (List.mem_cons_of_mem _ hq)
    simp only [List.map_cons, List.sum_cons, List.length_cons, pairOf_length] at h2 ⊢
    omega
theorem texts_of {l : List (Str × Tok)} {parts : List (Str × Str)} (h : l.length = parts.length) (hj : ∀ j (hj : j < l.length), l[j].1 = pairOf (parts.getD j (Str.ofString "", Str.ofString ""))) : l.map (·.1) = parts.map pairOf := by
  apply List.ext_getElem
  · simp [h]
  · intro j h1 h2
    simp only [List.getElem_map]
    rw [hj j (by simpa using h1), List.getD_eq_getElem?_getD, List.getElem?_eq_getElem (by simpa using h2)]
    rfl
section
variable {prog : Program} {w : World} {A : Around} {s : Shared} {mg mb : Str → Option Value} {Q : Value → Shared → Prop} {E : Value → Shared → Prop}
  {a dx : Addr} {vs : Array Value} {n n' : Nat} {tk : Tok}
set_option maxHeartbeats 4000000 in
theorem str_wp (O : Ok w mg mb s.heap) (hd : A.depth + 2 < recursionLimit) (hh : A.handled = none) {parts : List (Str × Str)} {es : List DictEntry} (x : AccP w.params s.heap a dx vs n es n') (hp : PartsAt s.heap vs parts) (hz : vs.size ≤ 1000) (hlen : ∀ p ∈ parts, p.1.length ≤ 1000 ∧ p.2.length ≤ 1000)
    (hQ : ∀ t s', Ext [] s s' → Q (.str (textOf parts) t) s') :
    wpAny (model prog w) A (call (.ref 152) [.ref a]) Q E s := by
  refine callQ [147] [("self", .ref a)] O (by k_is) (by k_is) (by omega) (BindsTo.of_eq rfl) (locs rfl) (by intro b hb; exact .inl (by simp at hb; subst hb; simp [tabs])) (fun g L' h₁ tk' hg hL F' X' T' hk => ?_)
  have N : News g L' h₁ [] := News.nil
  repeat' (((fail_if_success with_reducible first | refine gdW ?_ | refine gdF ?_ | refine gdL ?_ | refine gdT ?_ | refine gdC ?_ | refine gdM (by decide) ?_ | show PySem.wpAt _ _ _ _ _ _ _); first | walk1 | (dsimp only; walk1)))
  refine wpAny_GeneratorExp_walksQT (cl := []) hh rfl rfl (by decide) rfl rfl rfl (by decide) rfl (by show A.depth + 1 < _; omega) ?_ (by intro _; rfl)
  have x1 : AccP w.params h₁ a dx vs n es n' := ⟨hk _ _ x.at_, hk _ _ x.dx_⟩
  have X1 := X'.keeps F'.keep
  ((fail_if_success with_reducible first | refine gdW ?_ | refine gdF ?_ | refine gdL ?_ | refine gdT ?_ | refine gdC ?_ | refine gdM (by decide) ?_ | show PySem.wpAt _ _ _ _ _ _ _); first | walk1 | (dsimp only; walk1))
  refine acc_iter X1 x1 ?_
  obtain ⟨ps, hps⟩ := O.P.2
  have X2 := X1.keeps fun b o e => Heap.get?_push_of_some { cls := .type "list_iterator", data := .fields #[.ref a, .int 0 0] } e
  have c1 := code151 X2 (ps := ps) ⟨Heap.get?_push_of_some _ (hk _ _ hps.1), hps.2⟩
  have nl2 := (T'.nolimit.keeps F'.keep).keeps fun b o e => Heap.get?_push_of_some { cls := .type "list_iterator", data := .fields #[.ref a, .int 0 0] } e
  refine ⟨nl2, gx_code rfl c1.1 c1.2 (fun code h3 tk3 more k3 c3 t3 => ?_)⟩
  refine hideG (fun Gz hGz => ?_)
  obtain ⟨hps2, Ts, tf, tx, hparts⟩ := hp
  refine hGz ?_
  clear hGz Gz
  have hlt147 : ∀ b o, g.get? b = some o → b ≠ 147 := fun b o e q => by rw [q, hg, hideAll_none _ (by simp)] at e; cases e
  have F3 : Fr g L' h3 (fun y => List.lookup y ([(Str.ofString "self", Value.ref a)] : List (Str × Value)).reverse) := by
    have F2 := F'.push { cls := .type "list_iterator", data := .fields #[.ref a, .int 0 0] }
    refine ⟨ns_at F2.ns fun o e => k3 _ o (by rw [hL]; exact fun q => absurd (Heap.lt_size hps.1) (by rw [q]; exact Nat.lt_irrefl _)) e, fun b o e => k3 b o (hlt147 b o e) (F2.keep b o e), F2.above⟩
  have X3 := X'.keeps F3.keep
  have hs3 : ∀ b o, s.heap.get? b = some o → b ≠ 147 → h3.get? b = some o := fun b o e hb => k3 b o hb (Heap.get?_push_of_some _ (hk b o e))
  refine wpAny_builtinsFor (T'.g.keeps F3.keep) (mg_of X' T'.g (show nsIn (Mine.hd.heap_1 w.params) mainGlobals "__builtins__" = some (some (.ref 4)) by k_is)) (by decide) (hs3 4 _ O.M4 (by decide)) rfl rfl rfl ?_
  have hIne : h₁.objs.size ≠ 147 := fun q => absurd (Heap.lt_size (hk _ _ hps.1)) (by rw [← q]; exact Nat.lt_irrefl _)
  have hIs : s.heap.objs.size ≤ h₁.objs.size := hL ▸ Nat.le_of_lt F'.ns.lt
  have hI240 : 240 ≤ h₁.objs.size := Nat.le_of_lt (Nat.lt_of_le_of_lt (Heap.lt_size (O.frag 239 _ rfl)) (hL ▸ F'.ns.lt))
  have hI : h3.get? h₁.objs.size = some { cls := .type "list_iterator", data := .fields #[.ref a, .int 0 0] } := k3 _ _ hIne (Heap.get?_push_size _ rfl)
  have ha3 : h3.get? a = some (accObj dx vs n) := hs3 _ _ x.at_ (fun q => by
    have := x.at_.symm.trans (q ▸ hps.1)
    simp at this)
  have hIlt := Heap.lt_size hI
  generalize h₁.objs.size = I at *
  have hT3 : ∀ j, j < vs.size → h3.IsTuple (Ts j) #[.str (parts.getD j (Str.ofString "", Str.ofString "")).1 (tf j), .str (parts.getD j (Str.ofString "", Str.ofString "")).2 (tx j)] := by
    intro j hj
    refine hideG (fun Gz hGz => ?_)
    obtain ⟨o, e1, e2, e3⟩ := (hparts j hj).2
    refine hGz ?_
    clear hGz Gz
    exact ⟨o, hs3 _ _ e1 (fun q => by
      have := e1.symm.trans (q ▸ hps.1)
      cases this
      cases e2), e2, e3⟩
  have haI : a ≠ I := fun e => by have := ha3.symm.trans (e.symm ▸ hI); simp at this
  have hTI : ∀ j, j < vs.size → Ts j ≠ I := fun j hj e => by
    refine hideG (fun Gz hGz => ?_)
    obtain ⟨o, e1, e2, e3⟩ := hT3 j hj
    refine hGz ?_
    clear hGz Gz
    rw [e, hI] at e1
    cases e1
    simp at e2
  refine ⟨I, _, [I], vs.size, _, _, _, fun _ => true, fun i y => ∃ t, y = .str (pairOf (parts.getD i (Str.ofString "", Str.ofString ""))) t, rfl,
    fun A' hA' => WalksU_seq hA' I a ?_ vs Ts (fun j => #[.str (parts.getD j (Str.ofString "", Str.ofString "")).1 (tf j), .str (parts.getD j (Str.ofString "", Str.ofString "")).2 (tx j)]) (fun j hj => (hparts j hj).1) ?_, fun i vals e => ⟨_, _, e⟩, ⟨⟨_, hI, rfl, rfl⟩, ⟨_, n, ha3, rfl⟩, hT3⟩, ?_, T'.nolimit.keeps F3.keep, ?_, ?_, ?_⟩
  · exact haI
  · exact hTI
  · intro b hb
    rcases List.mem_cons.mp hb with rfl | hb
    · exact hIlt
    · rcases List.mem_cons.mp hb with rfl | hb
      · exact Heap.lt_size ha3
      · obtain ⟨k, hk', rfl⟩ := List.mem_map.mp hb
        obtain ⟨o, e1, _⟩ := hT3 k (List.mem_range.mp hk')
        exact Heap.lt_size e1
  · intro hm
    have := List.mem_singleton.mp hm
    have h2 : ∃ o, (Mine.hd.heap_1 w.params).lookup 2 = some o ∧ o.cls = .none := ⟨_, rfl, rfl⟩
    obtain ⟨o, e1, e2⟩ := h2
    have := (X3 _ _ e1).symm.trans (show h3.get? 2 = _ from this ▸ hI)
    cases this
    cases e2
  · intro href hkr
    refine ⟨fun A' E' i va vb s₂ m₂ _ _ _ _ _ _ => ?_, fun A' E' i va vb s₂ m₂ hA' hPt _ hn hva hvb hfp => ?_⟩
    · rw [List.forIn_nil]
      exact wpAny_pure ⟨rfl, s₂.heap, s₂.toks, rfl, fun _ _ e => e⟩
    · injection hPt with hPt
      injection hPt with h1 hPt
      injection hPt with h2 _
      subst h1 h2
      have keep5 : ∀ b o, h3.get? b = some o → b ≠ I → s₂.heap.get? b = some o := fun b o e hb => hfp b (List.mem_range.mpr (Heap.lt_size e)) (by simpa using hb) o (hkr b o e)
      refine join_elt (pl := _) (mg := mg) rfl rfl rfl rfl ?_ (mg_of X' T'.g (show nsIn (Mine.hd.heap_1 w.params) mainGlobals "EMPTYSTRING" = some (some (.str (Str.ofString "") _)) by k_is)) hn hva hvb (getD_len hlen i).1 (getD_len hlen i).2 (fun h' tk t' k' => ⟨⟨t', rfl⟩, h', tk, rfl, k'⟩) rfl
      exact ns_at (T'.g.keeps F3.keep) fun o e => keep5 _ o e (fun q => absurd hI240 (by have q' : mainGlobals = I := q; rw [← q']; decide))
  · intro ga h5 tk5 gs hgs hga hsz5 hk5 W st5
    have F5 := fr_kept F3 hk5
    have N5 : News g L' h5 [] := News.nil
    repeat' (((fail_if_success with_reducible first | refine gdW ?_ | refine gdF ?_ | refine gdL ?_ | refine gdT ?_ | refine gdC ?_ | refine gdM (by decide) ?_ | show PySem.wpAt _ _ _ _ _ _ _); first | walk1 | (dsimp only; walk1)))
    have hpass : passing (fun _ => true) vs.size 0 = List.range vs.size := by unfold passing; simp
    refine SC.joinGen W.in4_2 (fun i s' st => ?_) st5 ?_ (List.mem_cons_self ..) (fun j v => ?_) (fun s' l hm hit => ?_) (by rw [hpass, List.length_range]; unfold sizeLine; omega)
    · exact st.1.typeIs
    · intro b hb
      show b < h5.objs.size
      rcases List.mem_cons.mp hb with rfl | hb
      · rw [hsz5]; exact Nat.lt_succ_self _
      · rcases List.mem_cons.mp hb with rfl | hb
        · rw [hsz5]; exact Nat.lt_succ_of_lt hga
        · rw [hsz5]; exact Nat.lt_succ_of_lt (Nat.lt_trans (List.mem_range.mp hb) hga)
    · rintro ⟨i, hi, t, rfl⟩
      exact ⟨_, _, rfl⟩
    · rw [hpass, List.length_range] at hit
      have hl : l.map (·.1) = parts.map pairOf := by
        refine texts_of ?_ fun j hj => ?_
        · rw [← hps2, ← hit.1]; simp [strValues]
        · obtain ⟨i, hi, t, e⟩ := hit.2 j (.str l[j].1 l[j].2) (by simp [strValues, hj])
          obtain ⟨hj', rfl⟩ := List.getElem?_eq_some_iff.mp hi
          injection e with e1 e2
          rw [e1]
          simp
      rw [hl]
      refine ⟨joinTotal_le _ ?_, fun t' k => hQ _ { s' with toks := k } ?_⟩
      · exact Nat.le_trans (pairs_sum hlen) (by rw [← hps2]; omega)
      have hCk : ∀ b o, s.heap.get? b = some o → b ∉ [h3.objs.size, I] := by
        intro b o e hm'
        simp only [List.mem_cons, List.not_mem_nil, or_false] at hm'
        have hb := Heap.lt_size e
        rcases hm' with rfl | rfl
        · exact absurd (Nat.lt_trans hb (Nat.lt_of_le_of_lt hIs hIlt) : h3.objs.size < h3.objs.size) (Nat.lt_irrefl _)
        · exact absurd hb (Nat.not_lt.mpr hIs)
      have kept : ∀ b o, s.heap.get? b = some o → b ≠ 147 → s'.heap.get? b = some o := fun b o e hb => hm.heap b o (hCk b o e) (hk5 _ _ (hs3 b o e hb))
      refine ⟨fun b o _ hb e => kept b o e (notab_of (h := h3) hb).2, fun P hP qs hqs => ?_, fun hg' => ?_, hm.os⟩
      · simp only [tabs, List.mem_cons, List.not_mem_nil, or_false] at hP
        rcases hP with rfl | rfl
        · exact ⟨#[], by simpa using kept _ _ hqs.1 (by decide), by simpa using hqs.2⟩
        · have : ps = qs := by
            have := hps.1.symm.trans hqs.1
            simpa using this
          refine hideG (fun Gz hGz => ?_)
          subst this
          obtain ⟨_, _, _, _, _, _, _, _, _, _, _, _, _, _, _, _, _, _, _, htr, _⟩ := id c3
          refine hGz ?_
          clear hGz Gz
          exact ⟨more, hm.heap _ _ (by simp only [List.mem_cons, List.not_mem_nil, or_false, not_or]; exact ⟨fun q => absurd (Heap.lt_size t3.2) (by rw [← q]; exact Nat.lt_irrefl _), fun q => hIne q.symm⟩) (hk5 _ _ t3.2), htr⟩
      · exact bare_of hm.gens (hg'.push hgs)
end


theorem handed_int (i : Int) (t : Tok) : handedIn (.int i t) = true := rfl
theorem lenOf_le : ∀ {parts : List (Str × Str)}, (∀ p ∈ parts, p.1.length ≤ 1000 ∧ p.2.length ≤ 1000) → lenOf parts ≤ 2000 * parts.length
  | [], _ => Nat.zero_le _
  | p :: r, h => by
    have h1 := h p List.mem_cons_self
    have h2 := lenOf_le (parts := r) fun q hq => h q (List.mem_cons_of_mem _ hq)
    simp only [lenOf, List.map_cons, List.sum_cons, List.length_cons] at h2 ⊢
    omega
theorem lenOf_lt {h : Heap} {vs : Array Value} {parts : List (Str × Str)} (hp : PartsAt h vs parts) (hz : vs.size ≤ 1000) (hlen : ∀ p ∈ parts, p.1.length ≤ 1000 ∧ p.2.length ≤ 1000) : (lenOf parts : Int) < 9223372036854775808 := by
  have h1 := lenOf_le hlen
  have h2 := hp.1
  omega
section
variable {prog : Program} {w : World} {A : Around} {E : Value → Shared → Prop} {s : Shared} {mg mb : Str → Option Value} {a dx : Addr} {vs : Array Value} {n n' : Nat} {tk : Tok} {t0 : Tok} {parts : List (Str × Str)}
theorem acc_len {Q : Value → Shared → Prop} (O : Ok w mg mb s.heap) (hd : A.depth + 2 < recursionLimit) (hh : A.handled = none) (x : AccAt w.params s.heap a dx vs n tk (.int 0 t0) n') (hp : PartsAt s.heap vs parts) (hz : vs.size ≤ 1000) (hlen : ∀ p ∈ parts, p.1.length ≤ 1000 ∧ p.2.length ≤ 1000)
    (hQ : ∀ t s', Ext [] s s' → Q (.int (lenOf parts : Nat) t) s') : wpAny (model prog w) A (call (.builtin "len") [.ref a]) Q E s := by
  have hlt : (lenOf parts : Int) < 9223372036854775808 := lenOf_lt hp hz hlen
  refine Calls.call_function_entry kind_len plain_len entry_len (args_len1 _) ?_
  unfold Builtin.«len»
  refine wpAny_bind (m := oneArg "len" _) (wpAny_pure ?_)
  refine wpAny_bind (m := callSpecial? (.ref a) (Str.ofString "__len__")) (special_fn O.frag x.inst f_len (by k_is) (len_wp O hd hh x hp hz hlen fun t s' hx => ?_))
  refine wpAny_bind (wpAny_holding (wpAny_pure ?_))
  refine wpAny_bind (wpAny_letGo ?_)
  show wpAny _ _ (if (lenOf parts : Int) < 0 then _ else _) _ _ _
  rw [if_neg (by omega)]
  show wpAny _ _ (if (lenOf parts : Int) ≥ 2 ^ 63 then _ else _) _ _ _
  rw [if_neg (by omega)]
  refine wpAny_bind (wpAny_mkInt (wpAny_pure ⟨_, rfl, hQ _ _ ?_⟩))
  exact ⟨hx.keep, hx.tab, hx.gens, hx.os⟩
theorem acc_truthy {Q : Bool → Shared → Prop} (O : Ok w mg mb s.heap) (hd : A.depth + 2 < recursionLimit) (hh : A.handled = none) (x : AccAt w.params s.heap a dx vs n tk (.int 0 t0) n') (hp : PartsAt s.heap vs parts) (hz : vs.size ≤ 1000) (hlen : ∀ p ∈ parts, p.1.length ≤ 1000 ∧ p.2.length ≤ 1000)
    (hQ : ∀ s', Ext [] s s' → Q (decide (0 < lenOf parts)) s') : wpAny (model prog w) A (truthy (.ref a)) Q E s := by
  have hlt : (lenOf parts : Int) < 9223372036854775808 := lenOf_lt hp hz hlen
  unfold truthy
  refine wpAny_bind (wpAny_bind (wpAny_bind (x.inst.type.here ((looks_findIn O.frag f_bool).here (wpAny_pure ?_)))))
  dsimp only
  refine wpAny_bind (wpAny_bind (x.inst.type.here ((looks_findIn O.frag f_len).here ?_)))
  refine bm_if_false rfl ?_
  refine wpAny_bind (wpAny_runValue (codeAny_builtin entry_len ?_))
  rw [Around.under_plainId plain_len]
  unfold Builtin.«len»
  refine wpAny_bind (m := oneArg "len" _) (wpAny_pure ?_)
  refine wpAny_bind (m := callSpecial? (.ref a) (Str.ofString "__len__")) (special_fn O.frag x.inst f_len (by k_is) (len_wp O hd hh x hp hz hlen fun t s' hx => ?_))
  refine wpAny_bind (wpAny_holding (wpAny_pure ?_))
  refine wpAny_bind (wpAny_letGo ?_)
  show wpAny _ _ (if (lenOf parts : Int) < 0 then _ else _) _ _ _
  rw [if_neg (by omega)]
  show wpAny _ _ (if (lenOf parts : Int) ≥ 2 ^ 63 then _ else _) _ _ _
  rw [if_neg (by omega)]
  refine wpAny_bind (wpAny_mkInt (wpAny_pure ?_))
  have e : ((lenOf parts : Int) != 0) = decide (0 < lenOf parts) := by
    by_cases h0 : lenOf parts = 0
    · rw [h0]; rfl
    · rw [decide_eq_true (by omega)]
      simp only [bne_iff_ne, ne_eq]
      omega
  have z := hQ { s' with toks := s'.toks + 1 } ⟨hx.keep, hx.tab, hx.gens, hx.os⟩
  rw [← e] at z
  exact wpAny_pure z
theorem acc_str {Q : Value → Shared → Prop} {es : List DictEntry} (O : Ok w mg mb s.heap) (hd : A.depth + 2 < recursionLimit) (hh : A.handled = none) (hu : A.units < 9000) (x : AccP w.params s.heap a dx vs n es n') (hp : PartsAt s.heap vs parts) (hz : vs.size ≤ 1000) (hlen : ∀ p ∈ parts, p.1.length ≤ 1000 ∧ p.2.length ≤ 1000)
    (hQ : ∀ t s', Ext [] s s' → Q (.str (textOf parts) t) s') : wpAny (model prog w) A (call (.type "str") [.ref a]) Q E s := by
  refine kso_call (by show A.units + 1 + 1 < 9900; omega) O.frag x.inst f_str (by k_is) ?_
  exact str_wp (A := A.in1.in1) O hd hh x hp hz hlen fun t s' hx => hQ _ _ hx
theorem fr_ext {g : Heap} {L : Addr} {m : Str → Option Value} {S : List Addr} {s s' : Shared} (F : Fr g L s.heap m) (y : Ext S s s') (hg : ∀ b ∈ S, g.get? b = none) (ht : ∀ b ∈ tabs, g.get? b = none) (hL : L ∉ S) (hL2 : 240 ≤ L) : Fr g L s'.heap m :=
  ⟨ns_at F.ns fun o e => y.keep L o hL (fun hm => absurd hL2 (by simp only [tabs, List.mem_cons, List.not_mem_nil, or_false] at hm; rcases hm with rfl | rfl <;> decide)) e,
    fun b o e => y.keep b o (fun hm => by rw [hg b hm] at e; cases e) (fun hm => by rw [ht b hm] at e; cases e) (F.keep b o e), F.above⟩
theorem hide_tabs {h : Heap} {H : List Addr} (hH : ∀ b ∈ tabs, b ∈ H) : ∀ b ∈ tabs, (hideAll h H).get? b = none := fun b hb => hideAll_none _ (hH b hb)
theorem PartsAt.ext {s s' : Shared} {S : List Addr} {vs : Array Value} {parts : List (Str × Str)} (hp : PartsAt s.heap vs parts) (P : Tabs s.heap) (y : Ext S s s') (hS : ∀ b ∈ S, ∀ o, s.heap.get? b = some o → o.cls ≠ .type "tuple") : PartsAt s'.heap vs parts := by
  obtain ⟨h1, Ts, tf, tx, h2⟩ := hp
  refine ⟨h1, Ts, tf, tx, fun j hj => ⟨(h2 j hj).1, ?_⟩⟩
  obtain ⟨o, e1, e2, e3⟩ := (h2 j hj).2
  refine ⟨o, y.keep _ _ (fun hm => hS _ hm _ e1 e2) (fun hm => ?_) e1, e2, e3⟩
  obtain ⟨⟨p1, q1⟩, p2, q2⟩ := P
  simp only [tabs, List.mem_cons, List.not_mem_nil, or_false] at hm
  rcases hm with e | e
  · rw [e, q1.1] at e1; cases e1; cases e2
  · rw [e, q2.1] at e1; cases e1; cases e2
theorem PartsAt.keeps {h h' : Heap} {vs : Array Value} {parts : List (Str × Str)} (hp : PartsAt h vs parts) (k : ∀ b o, h.get? b = some o → h'.get? b = some o) : PartsAt h' vs parts := by
  obtain ⟨h1, Ts, tf, tx, h2⟩ := hp
  exact ⟨h1, Ts, tf, tx, fun j hj => ⟨(h2 j hj).1, let ⟨o, e1, r⟩ := (h2 j hj).2; ⟨o, k _ _ e1, r⟩⟩⟩
theorem size240 (O : Ok w mg mb s.heap) : 240 ≤ s.heap.objs.size := Heap.lt_size (O.frag 239 _ rfl)
theorem AccAt.ext {s s' : Shared} {S : List Addr} {v : Value} (x : AccAt w.params s.heap a dx vs n tk v n') (y : Ext S s s') (h1 : a ∉ S) (h2 : dx ∉ S) (h3 : 240 ≤ a) (h4 : 240 ≤ dx) : AccAt w.params s'.heap a dx vs n tk v n' :=
  ⟨y.keep _ _ h1 (fun hm => absurd h3 (by simp only [tabs, List.mem_cons, List.not_mem_nil, or_false] at hm; rcases hm with rfl | rfl <;> decide)) x.at_,
    y.keep _ _ h2 (fun hm => absurd h4 (by simp only [tabs, List.mem_cons, List.not_mem_nil, or_false] at hm; rcases hm with rfl | rfl <;> decide)) x.dx_⟩
set_option maxHeartbeats 4000000 in
theorem onlyws_wp (O : Ok w mg mb s.heap) {Q : Value → Shared → Prop} (hd : A.depth + 3 < recursionLimit) (hh : A.handled = none) (hu : A.units < 8000) (x : AccAt w.params s.heap a dx vs n tk (.int 0 t0) n') (hp : PartsAt s.heap vs parts) (hz : vs.size ≤ 1000) (hlen : ∀ p ∈ parts, p.1.length ≤ 1000 ∧ p.2.length ≤ 1000)
    (h0 : 0 < lenOf parts) (ha : 240 ≤ a) (hdx : 240 ≤ dx) (hQ : ∀ s', Ext [] s s' → Q (.bool (Txt.isspace (textOf parts))) s') : wpAny (model prog w) A (call (.ref 167) [.ref a]) Q E s := by
  refine callQ [140, 147] [("self", .ref a)] O (by k_is) (by k_is) (by omega) (BindsTo.of_eq rfl) (locs rfl) (fun b hb => .inl hb) (fun g L' h₁ tk' hg hL F' X' T' hk => ?_)
  have N : News g L' h₁ [] := News.nil
  repeat' (((fail_if_success with_reducible first | refine gdW ?_ | refine gdF ?_ | refine gdL ?_ | refine gdT ?_ | refine gdC ?_ | refine gdM (by decide) ?_ | show PySem.wpAt _ _ _ _ _ _ _); first | walk1 | (dsimp only; walk1)))
  have x1 : AccAt w.params h₁ a dx vs n tk (.int 0 t0) n' := ⟨hk _ _ x.at_, hk _ _ x.dx_⟩
  refine acc_getattr (X'.keeps F'.keep) x1 rfl ?_
  repeat' (((fail_if_success with_reducible first | refine gdW ?_ | refine gdF ?_ | refine gdL ?_ | refine gdT ?_ | refine gdC ?_ | refine gdM (by decide) ?_ | show PySem.wpAt _ _ _ _ _ _ _); first | walk1 | (dsimp only; walk1)))
  refine acc_truthy (O.keeps hk) (by show A.depth + 1 + 2 < _; omega) hh x1 (hp.keeps hk) hz hlen (fun s2 y2 => ?_)
  have hL2 : 240 ≤ L' := hL ▸ size240 O
  have F2 := fr_ext F' y2 (by simp) (by subst hg; exact hide_tabs fun b hb => hb) (by simp) hL2
  have O2 := (O.keeps hk).ext y2 (by simp)
  have x2 := x1.ext y2 (by simp) (by simp) ha hdx
  have hp2 := (hp.keeps hk).ext (O.keeps hk).P y2 (by simp)
  rw [decide_eq_true h0]
  clear F'
  repeat' (((fail_if_success with_reducible first | refine gdW ?_ | refine gdF ?_ | refine gdL ?_ | refine gdT ?_ | refine gdC ?_ | refine gdM (by decide) ?_ | show PySem.wpAt _ _ _ _ _ _ _); first | walk1 | (dsimp only; walk1)))
  refine acc_str O2 (by show A.depth + 1 + 2 < _; omega) hh (by show A.units + 3 < _; omega) x2.toP hp2 hz hlen (fun t3 s3 y3 => ?_)
  have F3 := fr_ext F2 y3 (by simp) (by subst hg; exact hide_tabs fun b hb => hb) (by simp) hL2
  repeat' (((fail_if_success with_reducible first | refine gdW ?_ | refine gdF ?_ | refine gdL ?_ | refine gdT ?_ | refine gdC ?_ | refine gdM (by decide) ?_ | show PySem.wpAt _ _ _ _ _ _ _); first | walk1 | (dsimp only; walk1)))
  with_reducible rename Fr _ _ _ _ => F4
  have y1 : Ext [] s { s with heap := h₁, toks := tk' } := ⟨fun b o _ _ e => hk b o e, fun P _ ps e => ⟨#[], by simpa using hk _ _ e.1, by simpa using e.2⟩, id, rfl⟩
  have y12 : Ext [] s s2 := ⟨fun b o h1 h2 e => y2.keep b o h1 h2 (hk b o e), fun P hP ps e => y2.tab P hP ps ⟨hk _ _ e.1, e.2⟩, y2.gens, y2.os⟩
  have y13 := y12.trans y3
  exact hQ _ ⟨y13.keep, y13.tab, y13.gens, y13.os⟩
end


noncomputable def lnSig : Manifest.Signature := (Manifest.signature? "list.__new__").getD ⟨.hand, "", "", .none, []⟩
theorem lnSig_eq : Manifest.signature? "list.__new__" = some lnSig := by kernel_rfl
theorem ln_args (v : Value) : Bind.checkArgs "list.__new__" lnSig ⟨[.ref 178, v], []⟩ = pure () := by kernel_rfl
theorem ln_kind : builtinKind "list.__new__" = some .builtinFn := by decide +kernel
theorem ln_split : splitId "list.__new__" = some ("list", "__new__") := by decide +kernel
section
variable {prog : Program} {w : World} {A : Around} {R : Result → Shared → Prop} {h : Heap} {g : Array GenState} {d : Drawn} {t : Nat} {os : OsState}
theorem acc_cls (X : (Mine.hd.heap_1 w.params).In h) : ∃ oc od cd sl, h.get? 178 = some ⟨oc, od, .cls cd, sl⟩ ∧ cd.abstract = false ∧ cd.hasDel = false ∧ cd.mro = [.ref 178, .type "list", .type "object"] ∧ (sl.toList[4]?).join = some (.builtin "list.__new__") := by
  have : ∃ oc od cd sl, (Mine.hd.heap_1 w.params).lookup 178 = some ⟨oc, od, .cls cd, sl⟩ ∧ cd.abstract = false ∧ cd.hasDel = false ∧ cd.mro = [.ref 178, .type "list", .type "object"] ∧ (sl.toList[4]?).join = some (.builtin "list.__new__") := ⟨_, _, _, _, rfl, rfl, rfl, rfl, rfl⟩
  obtain ⟨oc, od, cd, sl, e, r⟩ := this
  exact ⟨oc, od, cd, sl, X _ _ e, r⟩
theorem acc_made {M : Model} (X : (Mine.hd.heap_1 w.params).In h) : Looks M h (Bind.madeBy (.ref 178)) (some "list.__new__") := by
  obtain ⟨oc, od, cd, sl, ho, e1, e2, e3, e4⟩ := acc_cls X
  have hm : Looks M h (mroOf (.ref 178)) cd.mro := ((Looks.ld (part := none) ho).andThen .now).andThen .now
  intro A Q E s k q
  unfold Bind.madeBy
  refine wpAny_bind (hm A _ E s k ?_)
  rw [e3, List.forIn_cons]
  refine wpAny_bind (wpAny_bind (wpAny_bind (wpAny_bind (wpAny_loadPart (k _ _ ho) (wpAny_pure ?_)))))
  dsimp only
  rw [← Array.getElem?_toList, e4]
  exact wpAny_pure (wpAny_pure (wpAny_pure q))
theorem acc_base {M : Model} (X : (Mine.hd.heap_1 w.params).In h) : Looks M h (Bind.staticBase (.ref 178)) (.ref 178) := by
  obtain ⟨oc, od, cd, sl, ho, e1, e2, e3, e4⟩ := acc_cls X
  have hm : Looks M h (mroOf (.ref 178)) cd.mro := ((Looks.ld (part := none) ho).andThen .now).andThen .now
  intro A Q E s k q
  unfold Bind.staticBase
  refine wpAny_bind (hm A _ E s k ?_)
  rw [e3, List.forIn_cons]
  exact wpAny_bind (wpAny_bind (wpAny_bind (acc_made X A _ E s k (wpAny_pure (wpAny_pure (wpAny_pure q))))))
theorem new_acc {v : Value} (X : (Mine.hd.heap_1 w.params).In h)
    (hq : R (.ok (.ret (.ref (h.objs.size + 1)))) ⟨(h.push { cls := .type "dict", data := .dict #[] }).push (accObj h.objs.size #[] 0), g, d, t, os⟩) :
    codeAny (model prog w) A (.call (.builtin "list.__new__") ⟨[.ref 178, v], []⟩) R ⟨h, g, d, t, os⟩ := by
  obtain ⟨oc, od, cd, sl, hC, e1, e2, e3, e4⟩ := acc_cls X
  have self : Looks (model prog w) h (isSubtype (.ref 178) (.type "list")) true := looks_mroIn X (by k_is)
  have made := acc_made (M := model prog w) X
  have base := acc_base (M := model prog w) X
  refine codeAny_call_builtin_code (plainId_quiet PySem.F.plain_list_new _) ?_
  simp only [checkBuiltinCall, ln_kind, ln_split, lnSig_eq]
  rw [ln_args]
  repeat (first | simp only [bne_self_eq_false, Bool.false_eq_true, if_false] | lk)
  refine codeAny_builtin_stack PySem.F.entry_list_new rfl fun p st => ?_
  rw [Around.under_plainId PySem.F.plain_list_new _]
  have hown := PySem.owner_list_new
  have hCd : (⟨oc, od, .cls cd, sl⟩ : Obj).data = .cls cd := rfl
  simp only [hown]
  refine wpAny_bind (ks_wpAny_isType_cls hC hCd ?_)
  refine bm_if_false rfl ?_
  refine wpAny_bind (self.at ?_)
  refine bm_if_false rfl ?_
  refine wpAny_bind (wpAny_pure ?_)
  refine bm_if_false rfl ?_
  refine wpAny_bind ?_
  show wpAny _ _ (newObj (.type "dict") (.dict #[])) _ _ _
  refine wpAny_newObj_type ?_ (by size_fits)
  dsimp only
  refine wpAny_bind ?_
  show wpAny _ _ (newObjAsIs _ _ _) _ _ _
  unfold newObjAsIs classHasDel
  refine wpAny_bind (wpAny_alloc (wpAny_bind (wpAny_bind (wpAny_load (Heap.get?_push_of_some _ (Heap.get?_push_of_some _ hC)) (wpAny_pure ?_)))))
  rw [e2]
  refine wpAny_pure (wpAny_pure ?_)
  show R _ _
  rw [Heap.size_push]
  exact hq
def InitB (x : Addr) (R : Result → Shared → Prop) (r : Result) (s' : Shared) : Prop := match r with
  | .ok (.ret v) => v = .none ∧ R (.ok (.ret (.ref x))) s'
  | .ok _ => False
  | .error e => R (.error e) s'
theorem make_acc {v : Value} (X : (Mine.hd.heap_1 w.params).In h)
    (hq : codeAny (model prog w) (A.under (.builtin "type.__call__" ⟨[.ref 178, v], []⟩)) (.call (.ref 115) ⟨[.ref (h.objs.size + 1), v], []⟩) (InitB (h.objs.size + 1) R) ⟨(h.push { cls := .type "dict", data := .dict #[] }).push (accObj h.objs.size #[] 0), g, d, t, os⟩) :
    codeAny (model prog w) A (.call (.ref 178) ⟨[v], []⟩) R ⟨h, g, d, t, os⟩ := by
  obtain ⟨oc, od, cd, sl, hC, e1, e2, e3, e4⟩ := acc_cls X
  have self : Looks (model prog w) h (isSubtype (.ref 178) (.ref 178)) true := looks_mroIn X (by k_is)
  have made := acc_made (M := model prog w) X
  have call : Looks (model prog w) h (specialOf (.ref 178) "__call__") (some (.builtin "type.__call__")) := looks_specialIn X (by k_is)
  have typ : Looks (model prog w) h (isInstance (.ref 178) (.type "type")) true := looks_instIn X (by k_is)
  have hi : Looks (model prog w) h (typeLookup (.ref 178) "__init__") (some (.ref 115)) := looks_findIn X f_init
  refine codeAny_of_tree ?_
  show wpAny _ _ (callAny (.ref 178) _) _ _ _
  refine nd_load hC ?_
  show wpAny _ _ (callAny.viaDunder (.ref 178) _) _ _ _
  unfold callAny.viaDunder
  refine wpAny_bind (call.at ?_)
  dsimp only
  rw [tc_bind]
  refine wpAny_bind (wpAny_pure (wpAny_bind (wpAny_pure ?_)))
  refine wpAny_pure (a := Fin.again (.call (.builtin "type.__call__") ⟨[.ref 178, v], []⟩)) (And.intro rfl ?_)
  refine codeAny_call_builtin_at (Code.quiet_builtin _ (by decide +kernel)) entry_typeCall (check_slot tc_kind tc_split typ (tc_args _ _ _) ?_)
  unfold Builtin.«type.__call__»
  have hm : Looks (model prog w) h (mroOf (.ref 178)) cd.mro := ((Looks.ld (part := none) hC).andThen .now).andThen .now
  have e5 : cd.mro.isEmpty = false := by rw [e3]; rfl
  repeat (first | simp only [e5, Bool.false_eq_true, if_false] | with_reducible refine wpAny_call ?_ | lk)
  refine new_acc X ?_
  have k : ∀ b o, h.get? b = some o → ((h.push { cls := .type "dict", data := .dict #[] }).push (accObj h.objs.size #[] 0)).get? b = some o := fun b o e => Heap.get?_push_of_some _ (Heap.get?_push_of_some _ e)
  have hx : ((h.push { cls := .type "dict", data := .dict #[] }).push (accObj h.objs.size #[] 0)).get? (h.objs.size + 1) = some (accObj h.objs.size #[] 0) := by heap_get
  have t1 : Looks (model prog w) ((h.push { cls := .type "dict", data := .dict #[] }).push (accObj h.objs.size #[] 0)) (typeOf (.ref (h.objs.size + 1))) (.ref 178) := (Looks.ld hx).andThen .now
  have s1 := self.keeps k
  have i1 := hi.keeps k
  have b1 := (bind_fn (M := model prog w) X (f := 115) (.ref (h.objs.size + 1)) (by k_is)).keeps k
  unfold isInstance callSpecial? specialOf
  repeat (first | with_reducible refine wpAny_call ?_ | lk)
  refine codeAny_mono hq fun r s' z => ?_
  rcases r with e | (v | _ | _ | _) <;> first | exact z | exact z.elim | skip
  obtain ⟨rfl, z⟩ := z
  exact wpAny_pure (wpAny_pure z)
end


section
variable {w : World} {A : Around} {s : Shared} {mg mb : Str → Option Value} {Q : Value → Shared → Prop} {E : Value → Shared → Prop}
  {a dx : Addr} {vs : Array Value} {n n' : Nat}
set_option maxHeartbeats 4000000 in
theorem init_wp (O : Ok w mg mb s.heap) (hd : A.depth + 1 < recursionLimit) {t0 : Tok} (x : AccP w.params s.heap a dx #[] n [] n') (h1 : 240 ≤ a) (h2 : 240 ≤ dx) (hne : dx ≠ a)
    (hQ : ∀ h' tk n1 tk' n2, AccAt w.params h' a dx #[] n1 tk' (.int 0 t0) n2 → Kept [a, dx] s.heap h' → Q .none { s with heap := h', toks := tk }) :
    codeAny (model PySem.Challenge.pw_xo0030_01 w) A (.call (.ref 115) ⟨[.ref a, .int 0 t0], []⟩) (fun r s' => ∃ v, r = .ok (.ret v) ∧ Q v s') s := by
  refine rawQS [a, dx] [("self", .ref a), ("initial_size", .int 0 t0)] O (by k_is) (by k_is) (by omega) (BindsTo.of_defaults (T := 107) rfl (O.frag 107 _ rfl) rfl rfl rfl) (locs rfl) (hide2 h1 h2) (fun g L' h₁ tk hg hL F' X' T' hk => ?_)
  have N : News g L' h₁ [(a, accObj dx #[] n), (dx, dictOf [] n')] := hg ▸ news2 hk x.at_ x.dx_ (by simp) (by simp) hL
  have x1 : AccP w.params h₁ a dx #[] n [] n' := ⟨hk _ _ x.at_, hk _ _ x.dx_⟩
  refine ks_wpAt_execs_cons (wpAt_of_wpAny ?_)
  repeat' (((fail_if_success with_reducible first | refine gdW ?_ | refine gdF ?_ | refine gdL ?_ | refine gdT ?_ | refine gdC ?_ | refine gdM (by decide) ?_ | show PySem.wpAt _ _ _ _ _ _ _); first | walk1 | (dsimp only; walk1)))
  refine acc_setattr (X'.keeps F'.keep) x1 (.inl rfl) hne (fun h2' tk2 n2 k2 e2 s2 => ?_)
  have Na := N _ (.head _)
  have Nd := N _ (.tail _ (.head _))
  have F2 := fr_same F' s2 Nd.2.1 Nd.2.2
  have x2 : AccP w.params h2' a dx #[] n (accD w.params tk2 (.int 0 t0)) n2 := ⟨(s2.2 a (Ne.symm hne)).trans x1.at_, e2⟩
  dsimp only
  refine ks_wpAt_execs_cons (ks_wpAt_Expr_any (ks_wpAt_MethodCall ?_))
  refine sup_node F2 X' T' (by k_is) rfl rfl x2.inst (by k_is) rfl rfl rfl rfl rfl (by decide +kernel) rfl (fun so h3 e3 k3 l3 => ?_)
  have X3 := (X'.keeps F2.keep).keeps k3
  have x3 : AccP w.params h3 a dx #[] n (accD w.params tk2 (.int 0 t0)) n2 := ⟨k3 _ _ x2.at_, k3 _ _ x2.dx_⟩
  have ha : a ≠ 178 := fun e => absurd h1 (by rw [e]; decide)
  refine sup_method___init__ e3 X3 (acc_listP X3 x3) ha ?_
  have hq : (h3.push { cls := .type "method-wrapper", data := .fields #[.builtin "list.__init__", .ref a] }).get? h3.objs.size = some { cls := .type "method-wrapper", data := .fields #[.builtin "list.__init__", .ref a] } := Heap.get?_push_size _ rfl
  refine callWith_bound hq (.inl rfl) (bound_init (n' := n2) (es := accD w.params tk2 (.int 0 t0)) (n := n) (dx := dx) ⟨Heap.get?_push_of_some _ x3.at_, Heap.get?_push_of_some _ x3.dx_⟩ hq (fun h4 n4 e4 s4 => ?_))
  have F4 := fr_same (fr_kept (fr_kept F2 k3) fun _ _ e => Heap.get?_push_of_some _ e) s4 Na.2.1 Na.2.2
  have hd4 := (s4.2 _ hne).trans (Heap.get?_push_of_some _ x3.dx_)
  refine ks_wpAt_execs_nil ?_
  exact hQ _ _ _ _ _ ⟨e4, hd4⟩ fun b o hb e => F4.keep b o (hg ▸ hideAll_get _ e hb)
theorem make_acc_wp (O : Ok w mg mb s.heap) (hd : A.depth + 2 < recursionLimit) {t0 : Tok}
    (hQ : ∀ a dx h' tk n1 tk' n2, AccAt w.params h' a dx #[] n1 tk' (.int 0 t0) n2 → s.heap.objs.size ≤ a → s.heap.objs.size ≤ dx → dx ≠ a → (∀ b o, s.heap.get? b = some o → h'.get? b = some o) → Q (.ref a) { s with heap := h', toks := tk }) :
    wpAny (model PySem.Challenge.pw_xo0030_01 w) A (call (.ref 178) [.int 0 t0]) Q E s := by
  obtain ⟨h, g, d, t, os⟩ := s
  have hs := size240 O
  have k : ∀ b o, h.get? b = some o → ((h.push { cls := .type "dict", data := .dict #[] }).push (accObj h.objs.size #[] 0)).get? b = some o := fun b o e => Heap.get?_push_of_some _ (Heap.get?_push_of_some _ e)
  refine wpAny_call (make_acc O.frag (codeAny_mono (R := fun r s' => ∃ v, r = .ok (.ret v) ∧ (v = .none ∧ Q (.ref (h.objs.size + 1)) s')) ?_ fun r s' z => ?_))
  · exact init_wp (w := w) (A := A.under (.builtin "type.__call__" ⟨[.ref 178, .int 0 t0], []⟩)) (s := ⟨(h.push { cls := .type "dict", data := .dict #[] }).push (accObj h.objs.size #[] 0), g, d, t, os⟩) (Q := fun v s' => v = .none ∧ Q (.ref (h.objs.size + 1)) s')
      (a := h.objs.size + 1) (dx := h.objs.size) (n := 0) (n' := 0) (O.keeps k) (by show A.depth + 1 + 1 < _; omega) (t0 := t0) ⟨by heap_get, Heap.get?_push_of_some _ (Heap.get?_push_size _ rfl)⟩ (Nat.le_succ_of_le hs) hs (Nat.ne_of_lt (Nat.lt_succ_self _))
      (fun h' tk n1 tk' n2 x kp => ⟨rfl, hQ _ _ _ _ _ _ _ x (Nat.le_succ _) (Nat.le_refl _) (Nat.ne_of_lt (Nat.lt_succ_self _)) fun b o e => kp b o (by
        have := Heap.lt_size e
        simp only [List.mem_cons, List.not_mem_nil, or_false, not_or]
        exact ⟨Nat.ne_of_lt (Nat.lt_succ_of_lt this), Nat.ne_of_lt this⟩) (k b o e)⟩)
  · obtain ⟨v, rfl, rfl, z⟩ := z
    exact ⟨rfl, z⟩
end


section
variable {prog : Program} {w : World} {A : Around} {s : Shared} {env : Env}
/-- a For that ends by break in its first turn -/
theorem for_brk1 {target iter : Expr} {body orelse : List Stmt} {pos : Pos} {Q : Flow → Shared → Prop}
    (h : wpAny (model prog w) A (eval iter env) (fun x s₁ => wpAny (model prog w) A (pyIter x) (fun it s₂ => wpAny (model prog w) A (pyNext it) (fun r s₃ => ∃ v, r = some v ∧
      wpAny (model prog w) A (assign target env v) (fun _ s₄ => wpAny (model prog w) A (execs body env) (fun f s₅ => f = .brk ∧ Q .next s₅) NoE s₄) NoE s₃) NoE s₂) NoE s₁) NoE s)
    (hs : ∀ x, foldedSetIterable iter env x = pure x := by intro _; rfl) (ht : ∀ it v, letOwnedTupleGo target it v = pure () := by intro _ _; rfl) :
    wpAny (model prog w) A (exec (.For target iter body orelse pos) env) Q NoE s := by
  refine wpAny_For (wpAny_mono h (fun x s₁ h₁ => wpAny_mono h₁ (fun it s₂ h₂ => ?_) fun _ _ e => e) fun _ _ e => e) hs
  refine codeAny_forLoop (fun _ s' => s' = s₂) (fun n s' e => ?_) 0 rfl (ht it)
  subst e
  refine wpAny_mono h₂ (fun r s₃ h₃ => ?_) fun _ _ e => e.elim
  obtain ⟨v, rfl, h₃⟩ := h₃
  exact wpAny_mono h₃ (fun _ s₄ h₄ => wpAny_mono h₄ (fun f s₅ h₅ => by obtain ⟨rfl, q⟩ := h₅; exact q) fun _ _ e => e.elim) fun _ _ e => e.elim
theorem space_first {t : Tok} {K : Option Value → Shared → Prop} (hh : A.handled = none)
    (h : ∀ h' tk t', (∀ b o, s.heap.get? b = some o → h'.get? b = some o) → K (some (.str (Str.ofString " ") t')) { s with heap := h', toks := tk }) :
    wpAny (model prog w) A (pyIter (.str (Str.ofString " ") t)) (fun it s₂ => wpAny (model prog w) A (pyNext it) K NoE s₂) NoE s := by
  refine wpAny_pyIter_strU ?_
  rw [show strIterType (Str.ofString " ") = "str_ascii_iterator" from by decide +kernel]
  have hI : (s.heap.push { cls := .type "str_ascii_iterator", data := .fields #[.str (Str.ofString " ") t, .int 0 0] }).IsStrIter s.heap.objs.size "str_ascii_iterator" (Str.ofString " ") t 0 := ⟨_, Heap.get?_push_size _ rfl, rfl, rfl⟩
  refine (Walks.strAscii (A := A) hh s.heap.objs.size (Str.ofString " ") t).item 0 _ _ _ (by decide +kernel) hI (fun v h' tk hP hst hk => ?_)
  obtain ⟨c, u, hc, rfl⟩ := hP
  have h32 : (Str.ofString " ").cps[0]? = some 32 := by decide +kernel
  rw [h32] at hc
  cases hc
  rw [show (⟨#[32]⟩ : Str) = Str.ofString " " from by decide +kernel]
  exact h _ _ _ fun b o e => hk b o (by simpa using Nat.ne_of_lt (Heap.lt_size e)) (Heap.get?_push_of_some _ e)
end
noncomputable abbrev fmtD (P : Params) (tk : Nat → Tok) (mx : Int) (ln a : Addr) : List DictEntry :=
  [{ hash := PyData.keyHash P (Str.ofString "_maxlen"), key := .str (Str.ofString "_maxlen") (tk 0), val := .int mx (tk 1) },
   { hash := PyData.keyHash P (Str.ofString "_continuation_ws"), key := .str (Str.ofString "_continuation_ws") (tk 2), val := .str (Str.ofString " ") (tk 3) },
   { hash := PyData.keyHash P (Str.ofString "_continuation_ws_len"), key := .str (Str.ofString "_continuation_ws_len") (tk 4), val := .int 1 (tk 5) },
   { hash := PyData.keyHash P (Str.ofString "_splitchars"), key := .str (Str.ofString "_splitchars") (tk 6), val := .str (Str.ofString " ") (tk 7) },
   { hash := PyData.keyHash P (Str.ofString "_lines"), key := .str (Str.ofString "_lines") (tk 8), val := .ref ln },
   { hash := PyData.keyHash P (Str.ofString "_current_line"), key := .str (Str.ofString "_current_line") (tk 9), val := .ref a }]
theorem fmtD_of {P : Params} {h : Heap} {da ln a : Addr} {mx : Int} {n : Nat} {t0 t1 t2 t3 t4 t5 t6 t7 t8 t9 : Tok} (e : h.get? da = some (dictOf [{ hash := PyData.keyHash P (Str.ofString "_maxlen"), key := .str (Str.ofString "_maxlen") t0, val := .int mx t1 },
   { hash := PyData.keyHash P (Str.ofString "_continuation_ws"), key := .str (Str.ofString "_continuation_ws") t2, val := .str (Str.ofString " ") t3 },
   { hash := PyData.keyHash P (Str.ofString "_continuation_ws_len"), key := .str (Str.ofString "_continuation_ws_len") t4, val := .int 1 t5 },
   { hash := PyData.keyHash P (Str.ofString "_splitchars"), key := .str (Str.ofString "_splitchars") t6, val := .str (Str.ofString " ") t7 },
   { hash := PyData.keyHash P (Str.ofString "_lines"), key := .str (Str.ofString "_lines") t8, val := .ref ln },
   { hash := PyData.keyHash P (Str.ofString "_current_line"), key := .str (Str.ofString "_current_line") t9, val := .ref a }] n)) : ∃ tk n, h.get? da = some (dictOf (fmtD P tk mx ln a) n) :=
  ⟨fun i => ([t0, t1, t2, t3, t4, t5, t6, t7, t8, t9] : List Nat).getD i 0, n, e⟩
def RowsAt (h : Heap) (ln : Addr) (rows : List Str) : Prop := ∃ (l : List (Str × Tok)) (n : Nat), l.map (·.1) = rows ∧ h.get? ln = some { cls := .type "list", data := .seq (strValues l).toArray n }
structure FmtAt (P : Params) (h : Heap) (fa da ln a dx : Addr) (mx : Int) (rows : List Str) (parts : List (Str × Str)) : Prop where
  fa_ : h.get? fa = some { cls := .ref 94, dict := some da, data := .plain }
  da_ : ∃ tk n, h.get? da = some (dictOf (fmtD P tk mx ln a) n)
  ln_ : RowsAt h ln rows
  acc : ∃ vs n tk t0 n', AccAt P h a dx vs n tk (.int 0 t0) n' ∧ PartsAt h vs parts
  lo : 240 ≤ fa ∧ 240 ≤ da ∧ 240 ≤ ln ∧ 240 ≤ a ∧ 240 ≤ dx
  ap : [fa, da, ln, a, dx].Nodup
section
variable {w : World} {A : Around} {s : Shared} {mg mb : Str → Option Value} {Q : Value → Shared → Prop} {E : Value → Shared → Prop}
set_option maxHeartbeats 4000000 in
theorem fmt_wp (O : Ok w mg mb s.heap) (hd : A.depth + 4 < recursionLimit) (hh : A.handled = none) (mx : Int) (t0 tm t1 t2 : Tok)
    (hQ : ∀ fa da ln a dx h' tk, FmtAt w.params h' fa da ln a dx mx [] [] → (∀ b ∈ [fa, da, ln, a, dx], s.heap.objs.size ≤ b) → (∀ b o, s.heap.get? b = some o → h'.get? b = some o) → Q (.ref fa) { s with heap := h', toks := tk }) :
    wpAny (model PySem.Challenge.pw_xo0030_01 w) A (call (.ref 94) [.int 0 t0, .int mx tm, .str (Str.ofString " ") t1, .str (Str.ofString " ") t2]) Q E s := by
  obtain ⟨h, g, d, t, os⟩ := s
  refine wpAny_call (make_core (C := 94) (makes_of O.frag (by k_is)) (init := .ref 35) (looks_findIn O.frag (by k_is)) (fun self => bind_fn O.frag self (by k_is)) (.inl (by decide)) ?_)
  have k : ∀ b o, h.get? b = some o → ((h.push emptyDict).push (instObj 94 h.objs.size)).get? b = some o := fun b o e => Heap.get?_push_of_some _ (Heap.get?_push_of_some _ e)
  have hs := size240 O
  have hfa : ((h.push emptyDict).push (instObj 94 h.objs.size)).get? (h.objs.size + 1) = some (instObj 94 h.objs.size) := by heap_get
  have hda : ((h.push emptyDict).push (instObj 94 h.objs.size)).get? h.objs.size = some emptyDict := Heap.get?_push_of_some _ (Heap.get?_push_size _ rfl)
  refine codeAny_mono (R := fun r s' => ∃ v, r = .ok (.ret v) ∧ (v = .none ∧ Q (.ref (h.objs.size + 1)) s')) ?_ fun r s' z => by
    obtain ⟨v, rfl, rfl, z⟩ := z
    exact ⟨rfl, z⟩
  have O1 := O.keeps k
  have hnew : ∀ b ∈ [h.objs.size + 1, h.objs.size], h.objs.size ≤ b := by
    intro b hb
    simp only [List.mem_cons, List.not_mem_nil, or_false] at hb
    rcases hb with rfl | rfl
    · exact Nat.le_succ _
    · exact Nat.le_refl _
  generalize (h.push emptyDict).push (instObj 94 h.objs.size) = h0 at *
  have hfd : h.objs.size ≠ h.objs.size + 1 := Nat.ne_of_lt (Nat.lt_succ_self _)
  generalize h.objs.size + 1 = fa at *
  generalize hsd : h.objs.size = da at *
  refine rawCall (s := ⟨h0, g, d, t, os⟩) [fa, da] (P := fun v s' => v = .none ∧ Q (.ref fa) s') (binds := [("self", .ref fa), ("headerlen", .int 0 t0), ("maxlen", .int mx tm), ("continuation_ws", .str (Str.ofString " ") t1), ("splitchars", .str (Str.ofString " ") t2)]) O1 (by k_is) (by k_is) (by show A.depth + 1 < _; omega) (BindsTo.of_eq rfl) (locs rfl) (hide2 (Nat.le_trans hs (hnew _ (by simp))) hs) (fun gb L' h₁ hg hL F' X' T' hk => ?_)
  have N : News gb L' h₁ [(fa, instObj 94 da), (da, emptyDict)] := hg ▸ news2 hk hfa hda (by simp) (by simp) hL
  repeat' (((fail_if_success with_reducible first | refine gdW ?_ | refine gdF ?_ | refine gdL ?_ | refine gdT ?_ | refine gdC ?_ | refine gdM (by decide) ?_ | show PySem.wpAt _ _ _ _ _ _ _); first | walk1 | (dsimp only; walk1)))
  with_reducible rename Fr _ _ _ _ => F2
  with_reducible rename News _ _ _ _ => N2
  have hlo : ∀ b ∈ [fa, da], 240 ≤ b := fun b hb => Nat.le_trans hs (hnew b hb)
  have y2 := ext_fr (s := ⟨h0, g, d, t, os⟩) (s' := ⟨_, g, d, 0, os⟩) (S := [fa, da]) (hg ▸ F2) hlo rfl rfl
  have O2 := O1.ext y2 hlo
  dsimp only at O2
  refine make_acc_wp (mg := mg) (mb := mb) (by exact O2) ?hdep (fun a dx h3 tk3 n1 tk' n2 x3 ha3 hd3 hne k3 => ?_)
  case hdep => show A.depth + 1 + 1 + 2 < _; omega
  have F3 := fr_kept F2 k3
  have hsz2 := F2.ns.lt
  have N3 := news_cons (news_cons (news_kept N2 k3) x3.dx_ (base_ne F2 hd3) (base_none F2 hd3)) x3.at_ (base_ne F2 ha3) (base_none F2 ha3)
  have hL0 : h0.objs.size ≤ L' := Nat.le_of_eq hL.symm
  have gfa : fa < L' := Nat.lt_of_lt_of_le (Heap.lt_size hfa) hL0
  have gda : da < L' := Nat.lt_of_lt_of_le (Heap.lt_size hda) hL0
  have g1 : @LT.lt Nat _ fa a := Nat.lt_trans gfa (Nat.lt_of_lt_of_le hsz2 ha3)
  have g2 : @LT.lt Nat _ da a := Nat.lt_trans gda (Nat.lt_of_lt_of_le hsz2 ha3)
  have g3 : @LT.lt Nat _ fa dx := Nat.lt_trans gfa (Nat.lt_of_lt_of_le hsz2 hd3)
  have g4 : @LT.lt Nat _ da dx := Nat.lt_trans gda (Nat.lt_of_lt_of_le hsz2 hd3)
  have hln := Heap.lt_size (N2 _ (.head _)).1
  have g5 : @LT.lt Nat _ _ a := Nat.lt_of_lt_of_le hln ha3
  have g6 : @LT.lt Nat _ _ dx := Nat.lt_of_lt_of_le hln hd3
  have g7 : @Ne Nat fa da := Ne.symm hfd
  have g8 : @Ne Nat dx a := hne
  clear F2 N2
  repeat' (((fail_if_success with_reducible first | refine gdW ?_ | refine gdF ?_ | refine gdL ?_ | refine gdT ?_ | refine gdC ?_ | refine gdM (by decide) ?_ | show PySem.wpAt _ _ _ _ _ _ _); first | walk1 | (dsimp only; walk1)))
  with_reducible rename Fr _ _ _ _ => F4
  with_reducible rename News _ _ _ _ => N4
  have hl := ‹fa < _ ∧ da < _›
  have hdf : da < fa := Nat.lt_of_le_of_ne (hnew _ (by simp)) hfd
  refine hQ fa da _ a dx _ _ ⟨(N4 _ (.tail _ (.tail _ (.tail _ (.head _))))).1, fmtD_of (N4 _ (.tail _ (.tail _ (.tail _ (.tail _ (.head _)))))).1, ⟨[], 0, rfl, (N4 _ (.tail _ (.tail _ (.head _)))).1⟩, ⟨_, _, _, _, _, ⟨(N4 _ (.head _)).1, (N4 _ (.tail _ (.head _))).1⟩, ⟨rfl, fun _ => 0, fun _ => 0, fun _ => 0, fun j hj => absurd hj (Nat.not_lt_zero _)⟩⟩, ?_, ?_⟩ ?_ ?_
  · exact ⟨Nat.le_trans hs (Nat.le_of_lt hdf), hs, Nat.le_trans hs (Nat.le_of_lt hl.2), Nat.le_trans hs (Nat.le_of_lt g2), Nat.le_trans hs (Nat.le_of_lt g4)⟩
  · simp only [List.nodup_cons, List.mem_cons, List.not_mem_nil, or_false, not_or, List.nodup_nil, and_true, not_false_eq_true]
    exact ⟨⟨g7, Nat.ne_of_lt hl.1, Nat.ne_of_lt g1, Nat.ne_of_lt g3⟩, ⟨Nat.ne_of_lt hl.2, Nat.ne_of_lt g2, Nat.ne_of_lt g4⟩, ⟨Nat.ne_of_lt g5, Nat.ne_of_lt g6⟩, Ne.symm hne⟩
  · intro b hb
    simp only [List.mem_cons, List.not_mem_nil, or_false] at hb
    rcases hb with rfl | rfl | rfl | rfl | rfl
    · exact Nat.le_of_lt hdf
    · exact Nat.le_refl _
    · exact Nat.le_of_lt hl.2
    · exact Nat.le_of_lt g2
    · exact Nat.le_of_lt g4
  · intro b o e
    have hb : b < da := hsd ▸ Heap.lt_size e
    refine F4.keep b o (hg ▸ hideAll_get _ (k b o e) ?_)
    simp only [List.mem_cons, List.not_mem_nil, or_false, not_or]
    exact ⟨Nat.ne_of_lt (Nat.lt_trans hb hdf), Nat.ne_of_lt hb⟩
end


inductive FmtNews (P : Params) (h g : Heap) (L fa da ln a dx : Addr) (mx : Int) (rows : List Str) (parts : List (Str × Str)) : Prop
  | mk (tk : Nat → Tok) (n : Nat) (l : List (Str × Tok)) (n2 : Nat) (vs : Array Value) (n3 : Nat) (tk2 t0 : Tok) (n4 : Nat) (e1 : l.map (·.1) = rows) (e2 : PartsAt h vs parts)
      (e3 : News g L h [(fa, instObj 94 da), (da, dictOf (fmtD P tk mx ln a) n), (ln, { cls := .type "list", data := .seq (strValues l).toArray n2 }), (a, accObj dx vs n3), (dx, dictOf (accD P tk2 (.int 0 t0)) n4)]) : FmtNews P h g L fa da ln a dx mx rows parts
theorem kept_ext {S : List Addr} {s : Shared} {h' : Heap} {tk : Nat} (k : Kept S s.heap h') (hS : ∀ b ∈ S, 240 ≤ b) : Ext S s { s with heap := h', toks := tk } :=
  ⟨fun b o hb _ e => k b o hb e, fun P hP ps e => ⟨#[], by
    have : P ∉ S := fun m => absurd (hS P m) (by simp only [tabs, List.mem_cons, List.not_mem_nil, or_false] at hP; rcases hP with rfl | rfl <;> decide)
    exact ⟨by simpa using k _ _ this e.1, by simpa using e.2⟩⟩, id, rfl⟩
theorem notab {b : Addr} (h : 240 ≤ b) : b ∉ tabs := fun hm => absurd h (by simp only [tabs, List.mem_cons, List.not_mem_nil, or_false] at hm; rcases hm with rfl | rfl <;> decide)
section
variable {P : Params} {s s' : Shared} {fa da ln a dx : Addr} {mx : Int} {rows rows' : List Str} {parts parts' : List (Str × Str)} {S : List Addr}
theorem FmtAt.of_ext (X : FmtAt P s.heap fa da ln a dx mx rows parts) (y : Ext S s s') (hS : ∀ b ∈ S, b ∈ [ln, a, dx]) (hr : RowsAt s'.heap ln rows') (hp : ∃ vs n tk t0 n', AccAt P s'.heap a dx vs n tk (.int 0 t0) n' ∧ PartsAt s'.heap vs parts') :
    FmtAt P s'.heap fa da ln a dx mx rows' parts' := by
  have ap := X.ap
  simp only [List.nodup_cons, List.mem_cons, List.not_mem_nil, or_false, not_or, List.nodup_nil, and_true, not_false_eq_true] at ap
  have hf : fa ∉ S := fun hm => by have := hS _ hm; simp only [List.mem_cons, List.not_mem_nil, or_false] at this; rcases this with e | e | e <;> first | exact ap.1.2.1 e | exact ap.1.2.2.1 e | exact ap.1.2.2.2 e
  have hd : da ∉ S := fun hm => by have := hS _ hm; simp only [List.mem_cons, List.not_mem_nil, or_false] at this; rcases this with e | e | e <;> first | exact ap.2.1.1 e | exact ap.2.1.2.1 e | exact ap.2.1.2.2 e
  obtain ⟨tk, n, e⟩ := X.da_
  exact ⟨y.keep _ _ hf (notab X.lo.1) X.fa_, ⟨tk, n, y.keep _ _ hd (notab X.lo.2.1) e⟩, hr, hp, X.lo, X.ap⟩
theorem FmtAt.rows_ext (X : FmtAt P s.heap fa da ln a dx mx rows parts) (y : Ext S s s') (h : ln ∉ S) : RowsAt s'.heap ln rows :=
  let ⟨l, n, e1, e2⟩ := X.ln_; ⟨l, n, e1, y.keep _ _ h (notab X.lo.2.2.1) e2⟩
theorem FmtAt.acc_ext (X : FmtAt P s.heap fa da ln a dx mx rows parts) (T : Tabs s.heap) (y : Ext S s s') (h : a ∉ S) (h2 : dx ∉ S) (hS : ∀ b ∈ S, ∀ o, s.heap.get? b = some o → o.cls ≠ .type "tuple") : ∃ vs n tk t0 n', AccAt P s'.heap a dx vs n tk (.int 0 t0) n' ∧ PartsAt s'.heap vs parts :=
  let ⟨vs, n, tk, t0, n', e1, e2⟩ := X.acc
  ⟨vs, n, tk, t0, n', ⟨y.keep _ _ h (notab X.lo.2.2.2.1) e1.at_, y.keep _ _ h2 (notab X.lo.2.2.2.2) e1.dx_⟩, e2.ext T y hS⟩
theorem FmtAt.ext0 (X : FmtAt P s.heap fa da ln a dx mx rows parts) (T : Tabs s.heap) (y : Ext [] s s') : FmtAt P s'.heap fa da ln a dx mx rows parts :=
  X.of_ext y (by simp) (X.rows_ext y (by simp)) (X.acc_ext T y (by simp) (by simp) (by simp))
theorem FmtAt.news {g h : Heap} {L : Addr} (X : FmtAt P h fa da ln a dx mx rows parts) (hb : ∀ b ∈ [fa, da, ln, a, dx], g.get? b = none ∧ b ≠ L) : FmtNews P h g L fa da ln a dx mx rows parts := by
  obtain ⟨tk, n, e1⟩ := X.da_
  obtain ⟨l, n2, e2, e3⟩ := X.ln_
  obtain ⟨vs, n3, tk2, t0, n4, e4, e5⟩ := X.acc
  refine ⟨tk, n, l, n2, vs, n3, tk2, t0, n4, e2, e5, ?_⟩
  have q := fun b hm => hb b hm
  exact news_cons (news_cons (news_cons (news_cons (news_cons News.nil e4.dx_ (q _ (by simp)).2 (q _ (by simp)).1) e4.at_ (q _ (by simp)).2 (q _ (by simp)).1) e3 (q _ (by simp)).2 (q _ (by simp)).1) e1 (q _ (by simp)).2 (q _ (by simp)).1) X.fa_ (q _ (by simp)).2 (q _ (by simp)).1
end
theorem f_push {w : World} : findIn (Mine.hd.heap_1 w.params) (.ref 178) "push" = some (some (.ref 122)) := by k_is
theorem t_push {w : World} : typeIn (Mine.hd.heap_1 w.params) (.ref 122) = some (.type "function") := by k_is
theorem push_parts {h' : Heap} {vs : Array Value} {parts : List (Str × Str)} {q : Addr} {f y : Str} {tf ty : Tok} (hp : PartsAt h' vs parts) (hq : h'.get? q = some { cls := .type "tuple", data := .seq #[.str f tf, .str y ty] }) : PartsAt h' (vs.push (.ref q)) (parts ++ [(f, y)]) := by
  obtain ⟨h1, Ts, tfs, txs, h2⟩ := hp
  refine ⟨by simp [h1], fun j => if j = vs.size then q else Ts j, fun j => if j = vs.size then tf else tfs j, fun j => if j = vs.size then ty else txs j, fun j hj => ?_⟩
  rw [Array.size_push] at hj
  by_cases e : j = vs.size
  · subst e
    simp only [if_true]
    refine ⟨by simp, ⟨_, hq, rfl, 0, ?_⟩⟩
    rw [List.getD_eq_getElem?_getD, h1, List.getElem?_concat_length]
    rfl
  · have hj' : j < vs.size := by omega
    simp only [if_neg e]
    obtain ⟨e1, o, e2, e3, n, e4⟩ := h2 j hj'
    refine ⟨by rw [Array.getElem?_push_lt hj', ← e1, Array.getElem?_eq_getElem hj'], o, e2, e3, n, ?_⟩
    rw [e4, List.getD_eq_getElem?_getD, List.getD_eq_getElem?_getD, List.getElem?_append_left (by omega)]


section
variable {w : World} {A : Around} {s : Shared} {mg mb : Str → Option Value} {prog : Program} {Q : Value → Shared → Prop} {E : Value → Shared → Prop}
noncomputable def strcollI (a b : Str) : Int := b2i (decide (b.cps.toList < a.cps.toList)) - b2i (decide (a.cps.toList < b.cps.toList))
noncomputable def substI (a b : Str) : Int := if (a == b) = true then 0 else if (Txt.lower a == Txt.lower b) = true then 1 else 2
set_option maxHeartbeats 4000000 in
theorem strcoll_wp (O : Ok w mg mb s.heap) (hd : A.depth + 1 < recursionLimit) (a b : Str) (ta tb : Tok)
    (hQ : ∀ t h' tk, (∀ b o, s.heap.get? b = some o → h'.get? b = some o) → Q (.int (strcollI a b) t) { s with heap := h', toks := tk }) :
    wpAny (model prog w) A (call (.ref 189) [.str a ta, .str b tb]) Q E s := by
  refine callQ [] [("a", .str a ta), ("b", .str b tb)] O (by k_is) (by k_is) (by omega) (BindsTo.of_eq rfl) (locs rfl) (by simp) (fun g L' h₁ tk hg hL F' X' T' hk => ?_)
  subst hg
  repeat' (first | walk1 | (dsimp only; walk1))
  exact hQ _ _ _ (fr_keeps F')
set_option maxHeartbeats 4000000 in
theorem subst_wp (O : Ok w mg mb s.heap) (hd : A.depth + 1 < recursionLimit) (a b : Str) (ta tb : Tok) (ha : a.length ≤ 1000) (hb : b.length ≤ 1000)
    (hQ : ∀ t h' tk, (∀ b o, s.heap.get? b = some o → h'.get? b = some o) → Q (.int (substI a b) t) { s with heap := h', toks := tk }) :
    wpAny (model prog w) A (call (.ref 203) [.str a ta, .str b tb]) Q E s := by
  refine callQ [] [("ch_a", .str a ta), ("ch_b", .str b tb)] O (by k_is) (by k_is) (by omega) (BindsTo.of_eq rfl) (locs rfl) (by simp) (fun g L' h₁ tk hg hL F' X' T' hk => ?_)
  subst hg
  unfold substI at hQ
  repeat' (first | walk1 | (dsimp only; walk1) | (refine PySem.SCL.lower (by omega) ?_; intro _))
  all_goals (simp only [*, if_true, if_false, Bool.false_eq_true] at hQ; exact hQ _ _ _ (fr_keeps F'))
theorem fmodN (x n : Nat) : Int.fmod (x : Int) (n : Int) = ((x % n : Nat) : Int) := by rw [Int.fmod_eq_emod_of_nonneg _ (by omega), ← Int.natCast_emod]
set_option maxHeartbeats 4000000 in
theorem shared_wp (O : Ok w mg mb s.heap) (hd : A.depth + 1 < recursionLimit) (hh : A.handled = none) (a b : Nat) (ta tb : Tok)
    (hQ : ∀ t h' tk, (∀ b o, s.heap.get? b = some o → h'.get? b = some o) → Q (.int (Nat.gcd a b : Nat) t) { s with heap := h', toks := tk }) :
    wpAny (model prog w) A (call (.ref 234) [.int a ta, .int b tb]) Q E s := by
  refine callQ [] [("one", .int a ta), ("other", .int b tb)] O (by k_is) (by k_is) (by omega) (BindsTo.of_eq rfl) (locs rfl) (by simp) (fun g L' h₁ tk hg hL F' X' T' hk => ?_)
  subst hg
  refine wpAny_execs_cons (while_rule (fun n s' => ∃ (x y : Nat) (h' : Heap) (tk : Nat) (m : Str → Option Value), s' = { s with heap := h', toks := tk } ∧ n = y ∧ Nat.gcd x y = Nat.gcd a b ∧
    Fr (hideAll s.heap []) L' h' m ∧ (∃ t, m "one" = some (.int x t)) ∧ ∃ t, m "other" = some (.int y t)) b ⟨a, b, h₁, tk, _, rfl, rfl, rfl, F', ⟨_, rfl⟩, ⟨_, rfl⟩⟩ ?_)
  rintro n s' ⟨x, y, h', tk', m, rfl, rfl, hg, F, ⟨tx, h1⟩, ⟨ty, h2⟩⟩
  have N : News (hideAll s.heap []) L' h' [] := News.nil
  repeat' (first | walk1 | (dsimp only; walk1))
  · with_reducible rename Fr _ _ _ _ => F2
    refine ⟨x % n, Nat.mod_lt _ (by omega), n, x % n, _, _, _, rfl, rfl, by rw [← hg, Nat.gcd_comm n, ← Nat.gcd_rec, Nat.gcd_comm], F2, ⟨_, rfl⟩, _, congrArg (fun z => some (Value.int z _)) (fmodN x n)⟩
  · have h0 : n = 0 := by omega
    subst h0
    rw [Nat.gcd_zero_right] at hg
    subst hg
    exact hQ _ _ _ (fr_keeps F)
end


inductive StX (s s' : Shared) (L' : Addr) (x : Str) (tx : Tok) (b a2 : Nat) : Prop
  | mk (h' : Heap) (tk : Nat) (m : Str → Option Value) (q0 : s' = { s with heap := h', toks := tk }) (f0 : Fr (hideAll s.heap []) L' h' m) (f1 : m "s" = some (.str x tx)) (f2 : ∃ t, m "lpos" = some (.int (b : Nat) t)) (f3 : ∃ t, m "amount" = some (.int (a2 : Nat) t)) : StX s s' L' x tx b a2
inductive StY (s s' : Shared) (L' : Addr) (x : Str) (tx : Tok) (b a2 n : Nat) : Prop
  | mk (i : Nat) (h' : Heap) (tk : Nat) (m : Str → Option Value) (q0 : s' = { s with heap := h', toks := tk }) (r0 : n = b - i) (r1 : i ≤ b) (f0 : Fr (hideAll s.heap []) L' h' m) (f1 : m "s" = some (.str x tx)) (f2 : ∃ t, m "lpos" = some (.int (i : Nat) t)) (f3 : ∃ t, m "amount" = some (.int ((b + a2 - i : Nat) : Int) t)) : StY s s' L' x tx b a2 n
inductive StZ (s s' : Shared) (L' : Addr) (x : Str) (tx : Tok) (b k : Nat) : Prop
  | mk (h' : Heap) (tk : Nat) (m : Str → Option Value) (q0 : s' = { s with heap := h', toks := tk }) (f0 : Fr (hideAll s.heap []) L' h' m) (f1 : m "s" = some (.str x tx)) (f2 : ∃ t, m "lpos" = some (.int (b : Nat) t)) (f3 : ∃ t, m "rpos" = some (.int ((b + k - 1 : Nat) : Int) t)) : StZ s s' L' x tx b k
inductive StW (s s' : Shared) (L' : Addr) (x : Str) (tx : Tok) (b k t a2 n : Nat) : Prop
  | mk (j : Nat) (h' : Heap) (tk : Nat) (m : Str → Option Value) (q0 : s' = { s with heap := h', toks := tk }) (r0 : n = t - j) (r1 : j ≤ t) (f0 : Fr (hideAll s.heap []) L' h' m) (f1 : m "s" = some (.str x tx)) (f2 : ∃ t, m "lpos" = some (.int (b : Nat) t)) (f3 : ∃ t, m "amount" = some (.int ((a2 - j : Nat) : Int) t)) (f4 : ∃ u, m "rpos" = some (.int ((b + k + t - 1 - j : Nat) : Int) u)) : StW s s' L' x tx b k t a2 n
section
variable {w : World} {A : Around} {s : Shared} {mg mb : Str → Option Value} {prog : Program} {Q : Value → Shared → Prop} {E : Value → Shared → Prop}
theorem item_sp {x : Str} {i : Int} (h0 : 0 ≤ i) (h1 : i < x.length) : (Txt.item x i == Str.ofString " ") = (x.cps.getD i.toNat 0 == 32) := by
  rw [PySem.W.item_meets ⟨h0, h1⟩, show Str.ofString " " = ⟨#[32]⟩ from by decide +kernel]
  show decide ((⟨#[x.cps.getD i.toNat 0]⟩ : Str) = ⟨#[32]⟩) = decide (x.cps.getD i.toNat 0 = 32)
  congr 1
  simp
set_option maxHeartbeats 4000000 in
theorem strip_wp (O : Ok w mg mb s.heap) (hd : A.depth + 1 < recursionLimit) (x : Str) (tx ta : Tok) (b k t a2 : Nat) (hk0 : 0 < k) (hlen : x.length = b + k + t) (hsz : x.length ≤ 10000)
    (h1 : ∀ i, i < b → x.cps.getD i 0 = 32) (h2 : x.cps.getD b 0 ≠ 32) (h3 : x.cps.getD (b + k - 1) 0 ≠ 32) (h4 : ∀ i, b + k ≤ i → i < b + k + t → x.cps.getD i 0 = 32) (ha : t ≤ a2)
    (ha2 : a2 ≤ 10000) (hQ : ∀ t h' tk, (∀ b o, s.heap.get? b = some o → h'.get? b = some o) → Q (.str ⟨((x.cps.toList.drop b).take k).toArray⟩ t) { s with heap := h', toks := tk }) :
    wpAny (model prog w) A (call (.ref 196) [.str x tx, .int ((b + a2 : Nat) : Int) ta]) Q E s := by
  refine callQ [] [("s", .str x tx), ("amount", .int ((b + a2 : Nat) : Int) ta)] O (by k_is) (by k_is) (by omega) (BindsTo.of_eq rfl) (locs rfl) (by simp) (fun g L' h₁ tk hg hL F' X' T' hk => ?_)
  subst hg
  repeat' (((fail_if_success with_reducible first | refine gdW ?_ | refine gdF ?_ | refine gdL ?_ | refine gdT ?_ | refine gdC ?_ | refine gdM (by decide) ?_ | show PySem.wpAt _ _ _ _ _ _ _); first | walk1 | (dsimp only; walk1)))
  with_reducible rename Fr _ _ _ _ => F1
  refine while_exit (fun s' => StX s s' L' x tx b a2)
    (fun n s' => StY s s' L' x tx b a2 n)
    b ⟨0, _, _, _, rfl, rfl, Nat.zero_le _, F1, rfl, ⟨_, rfl⟩, ⟨_, rfl⟩⟩ ?_ ?_
  · rintro n s' ⟨i, h', tk', m, rfl, rfl, hi, F, e1, ⟨t1, e2⟩, ⟨t2, e3⟩⟩
    have hb1 : (Txt.item x ↑i == Str.ofString " ") = (x.cps.getD i 0 == 32) := item_sp (by omega) (by omega)
    repeat' (((fail_if_success with_reducible first | refine gdW ?_ | refine gdF ?_ | refine gdL ?_ | refine gdT ?_ | refine gdC ?_ | refine gdM (by decide) ?_ | show PySem.wpAt _ _ _ _ _ _ _); first | walk1 | (dsimp only; walk1)))
    · have hq : (Txt.item x ↑i == Str.ofString " ") = true := by assumption
      have hlt : i < b := by
        rcases Nat.lt_or_eq_of_le hi with h | h
        · exact h
        · subst h; rw [hb1] at hq; exact absurd (by simpa using hq) h2
      with_reducible rename Fr _ _ _ _ => F2
      exact ⟨b - (i + 1), by omega, i + 1, _, _, _, rfl, rfl, hlt, F2, e1, ⟨_, rfl⟩, _, congrArg (fun z => some (Value.int z _)) (by omega)⟩
    · have hq : (Txt.item x ↑i == Str.ofString " ") = false := by assumption
      have hlt : i = b := by
        rcases Nat.lt_or_eq_of_le hi with h | h
        · rw [hb1, h1 i h] at hq; cases hq
        · exact h
      subst hlt
      exact ⟨_, _, _, rfl, F, e1, ⟨_, e2⟩, _, e3.trans (congrArg (fun z => some (Value.int z _)) (by omega))⟩
    · have hlt : i = b := by omega
      subst hlt
      exact ⟨_, _, _, rfl, F, e1, ⟨_, e2⟩, _, e3.trans (congrArg (fun z => some (Value.int z _)) (by omega))⟩
  · rintro s' ⟨h', tk', m, rfl, F, e1, ⟨t1, e2⟩, ⟨t2, e3⟩⟩
    repeat' (((fail_if_success with_reducible first | refine gdW ?_ | refine gdF ?_ | refine gdL ?_ | refine gdT ?_ | refine gdC ?_ | refine gdM (by decide) ?_ | show PySem.wpAt _ _ _ _ _ _ _); first | walk1 | (dsimp only; walk1)))
    with_reducible rename Fr _ _ _ _ => F2
    refine while_exit (fun s' => StZ s s' L' x tx b k)
      (fun n s' => StW s s' L' x tx b k t a2 n)
      t ⟨0, _, _, _, rfl, rfl, Nat.zero_le _, F2, e1, ⟨_, e2⟩, ⟨_, e3⟩, _, congrArg (fun z => some (Value.int z _)) (by omega)⟩ ?_ ?_
    · rintro n s' ⟨j, h', tk', m, rfl, rfl, hj, F, e1, ⟨t1, e2⟩, ⟨t2, e3⟩, t3, e4⟩
      have hb1 : (Txt.item x ((b + k + t - 1 - j : Nat) : Int) == Str.ofString " ") = (x.cps.getD (b + k + t - 1 - j) 0 == 32) := item_sp (by omega) (by omega)
      repeat' (((fail_if_success with_reducible first | refine gdW ?_ | refine gdF ?_ | refine gdL ?_ | refine gdT ?_ | refine gdC ?_ | refine gdM (by decide) ?_ | show PySem.wpAt _ _ _ _ _ _ _); first | walk1 | (dsimp only; walk1)))
      · have hq : (Txt.item x ((b + k + t - 1 - j : Nat) : Int) == Str.ofString " ") = true := by assumption
        have hlt : j < t := by
          rcases Nat.lt_or_eq_of_le hj with h | h
          · exact h
          · subst h; rw [hb1, show b + k + j - 1 - j = b + k - 1 from by omega] at hq; exact absurd (by simpa using hq) h3
        with_reducible rename Fr _ _ _ _ => F2
        exact ⟨t - (j + 1), by omega, j + 1, _, _, _, rfl, rfl, hlt, F2, e1, ⟨_, e2⟩, ⟨_, congrArg (fun z => some (Value.int z _)) (by omega)⟩, _, congrArg (fun z => some (Value.int z _)) (by omega)⟩
      · have hq : (Txt.item x ((b + k + t - 1 - j : Nat) : Int) == Str.ofString " ") = false := by assumption
        have hlt : j = t := by
          rcases Nat.lt_or_eq_of_le hj with h | h
          · rw [hb1, h4 _ (by omega) (by omega)] at hq; cases hq
          · exact h
        subst hlt
        exact ⟨_, _, _, rfl, F, e1, ⟨_, e2⟩, _, e4.trans (congrArg (fun z => some (Value.int z _)) (by omega))⟩
      · have hlt : j = t := by omega
        subst hlt
        exact ⟨_, _, _, rfl, F, e1, ⟨_, e2⟩, _, e4.trans (congrArg (fun z => some (Value.int z _)) (by omega))⟩
    · rintro s' ⟨h', tk', m, rfl, F, e1, ⟨t1, e2⟩, ⟨t2, e3⟩⟩
      repeat' (((fail_if_success with_reducible first | refine gdW ?_ | refine gdF ?_ | refine gdL ?_ | refine gdT ?_ | refine gdC ?_ | refine gdM (by decide) ?_ | show PySem.wpAt _ _ _ _ _ _ _); first | walk1 | (dsimp only; walk1)))
      with_reducible rename Fr _ _ _ _ => F2
      have he : Txt.slice x (some ((b : Nat) : Int)) (some (((b + k - 1 : Nat) : Int) + 1)) = ⟨((x.cps.toList.drop b).take k).toArray⟩ := by
        have q := eq_of_beq (slice_closesL (x := x) (i := ((b : Nat) : Int)) (j := ((b + k - 1 : Nat) : Int) + 1) (by omega) (by omega) (by omega))
        rw [q, show ((b : Nat) : Int).toNat = b from by omega, show (((b + k - 1 : Nat) : Int) + 1 - ((b : Nat) : Int)).toNat = k from by omega]
      rw [← he] at hQ
      exact hQ _ _ _ (fr_keeps F2)
end


theorem rangeSize_mul {q wd : Nat} (hw : 0 < wd) : Builtin.Range.rangeSize 0 ((q * wd : Nat) : Int) (wd : Int) = (q : Int) := by
  unfold Builtin.Range.rangeSize
  rw [if_pos (by omega)]
  rcases Nat.eq_zero_or_pos q with rfl | hq
  · simp
  · have : 0 < q * wd := Nat.mul_pos hq hw
    rw [if_pos (by omega)]
    obtain ⟨p, rfl⟩ : ∃ p, q = p + 1 := ⟨q - 1, by omega⟩
    rw [show (((p + 1) * wd : Nat) : Int) - 0 - 1 = ((wd : Int) - 1) + (p : Int) * (wd : Int) from by push_cast; rw [Int.add_mul]; omega, Int.add_mul_ediv_right _ _ (by omega), Int.ediv_eq_zero_of_lt (by omega) (by omega)]
    omega
noncomputable def swapIx (wd k : Nat) : Nat := k / wd * wd + (wd - 1 - k % wd)
noncomputable def swapL (wd : Nat) (l : List UInt8) : List UInt8 := (List.range l.length).map fun k => l.getD (swapIx wd k) 0
def SwB (l : List UInt8) (wd i j : Nat) (bs : Array UInt8) : Prop := bs.size = l.length ∧ ∀ k, k < l.length → (k < i ∨ (k < i + wd ∧ i + wd ≤ k + j)) → bs.getD k 0 = l.getD (swapIx wd k) 0
theorem SwB.zero (l : List UInt8) (wd : Nat) : SwB l wd 0 0 (Array.replicate l.length 0) := ⟨by simp, fun k hk h => by omega⟩
theorem SwB.next {l : List UInt8} {wd i : Nat} {bs : Array UInt8} (h : SwB l wd i wd bs) : SwB l wd (i + wd) 0 bs := ⟨h.1, fun k hk h' => h.2 k hk (by omega)⟩
theorem SwB.set {l : List UInt8} {wd q j : Nat} {bs : Array UInt8} (hj : j < wd) (hl : q * wd + wd ≤ l.length) (h : SwB l wd (q * wd) j bs) : SwB l wd (q * wd) (j + 1) (bs.setIfInBounds (q * wd + wd - 1 - j) (l.getD (q * wd + j) 0)) := by
  refine ⟨by simpa using h.1, fun k hk h' => ?_⟩
  by_cases e : k = q * wd + wd - 1 - j
  · subst e
    have h1 : (q * wd + wd - 1 - j) / wd = q := by
      rw [Nat.div_eq_iff (by omega)]
      omega
    have h2 : (q * wd + wd - 1 - j) % wd = wd - 1 - j := by
      have : q * wd + wd - 1 - j = (wd - 1 - j) + q * wd := by omega
      rw [this, Nat.add_mul_mod_self_right, Nat.mod_eq_of_lt (by omega)]
    unfold swapIx
    rw [h1, h2, show wd - 1 - (wd - 1 - j) = j from by omega]
    simp only [Array.getD_eq_getD_getElem?, Array.getElem?_setIfInBounds_self]
    rw [if_pos (by rw [h.1]; omega)]
    rfl
  · have := h.2 k hk (by omega)
    simp only [Array.getD_eq_getD_getElem?] at this ⊢
    rw [Array.getElem?_setIfInBounds_ne (by omega)]
    exact this
theorem SwB.fin {l : List UInt8} {wd i : Nat} {bs : Array UInt8} (hi : i = l.length) (h : SwB l wd i 0 bs) : bs = (swapL wd l).toArray := by
  apply Array.ext
  · simp [swapL, h.1]
  · intro k h1 h2
    have := h.2 k (by rw [← h.1]; exact h1) (.inl (by rw [hi, ← h.1]; exact h1))
    simp only [swapL, List.getElem_toArray, List.getElem_map, List.getElem_range]
    rw [← this]
    simp [Array.getD, h1]
inductive SwInv (s s' : Shared) (L' ba : Addr) (l : List UInt8) (t t2 : Tok) (wd i : Nat) : Prop
  | mk (h : Heap) (tk : Nat) (m : Str → Option Value) (bs : Array UInt8) (q0 : s' = { s with heap := h, toks := tk }) (q1 : Fr (hideAll s.heap []) L' h m) (q2 : m "data" = some (.bytes l.toArray t)) (q3 : m "width" = some (.int wd t2)) (q4 : m "swapped_data" = some (.ref ba))
      (q5 : h.get? ba = some { cls := .type "bytearray", data := .bytearray bs }) (q6 : SwB l wd (i * wd) 0 bs) : SwInv s s' L' ba l t t2 wd i
inductive SwInv2 (s s' : Shared) (h6 : Heap) (L' ba I : Addr) (l : List UInt8) (t t2 : Tok) (wd i j : Nat) : Prop
  | mk (h : Heap) (tk : Nat) (m : Str → Option Value) (bs : Array UInt8) (q0 : s' = { s with heap := h, toks := tk }) (q1 : Fr (hideAll s.heap []) L' h m) (q2 : m "data" = some (.bytes l.toArray t)) (q3 : m "width" = some (.int wd t2)) (q4 : m "swapped_data" = some (.ref ba))
      (q7 : ∃ u, m "i" = some (.int ((i * wd : Nat) : Int) u)) (q5 : h.get? ba = some { cls := .type "bytearray", data := .bytearray bs }) (q8 : h.get? I = h6.get? I) (q6 : SwB l wd (i * wd) j bs) : SwInv2 s s' h6 L' ba I l t t2 wd i j
section
variable {w : World} {A : Around} {s : Shared} {mg mb : Str → Option Value} {prog : Program} {Q : Value → Shared → Prop} {E : Value → Shared → Prop}
set_option maxHeartbeats 4000000 in
theorem byteswap_wp (O : Ok w mg mb s.heap) (hd : A.depth + 1 < recursionLimit) (hh : A.handled = none) (l : List UInt8) (wd q : Nat) (t t2 : Tok) (hw : 0 < wd) (hwz : wd ≤ 1000) (hl : l.length = q * wd) (hz : l.length ≤ 1000)
    (hQ : ∀ t h' tk, (∀ b o, s.heap.get? b = some o → h'.get? b = some o) → Q (.bytes (swapL wd l).toArray t) { s with heap := h', toks := tk }) :
    wpN true (model prog w) A (call (.ref 210) [.bytes l.toArray t, .int wd t2]) Q E s := by
  refine callQN [] [("data", .bytes l.toArray t), ("width", .int wd t2)] O (by k_is) (by k_is) (by omega) (BindsTo.of_eq rfl) (locs rfl) (by simp) (fun g L' h₁ tk hg hL F' X' T' hk => ?_)
  subst hg
  refine wpN_execs_cons (wpN_Assign (wpN_CallName (trees := [(false, eval (.Call (.Name "len" _) [.Name "data" _] [] _) _)]) rfl ?_))
  have N : News (hideAll s.heap []) L' h₁ [] := News.nil
  ((fail_if_success with_reducible first | refine gdW ?_ | refine gdF ?_ | refine gdL ?_ | refine gdT ?_ | refine gdC ?_ | refine gdM (by decide) ?_ | show PySem.wpAt _ _ _ _ _ _ _); first | walk1 | (dsimp only; walk1))
  refine callWithN_type rfl (Calls.evalArgs_plain (Calls.spliced_cons ?_))
  repeat' (((fail_if_success with_reducible first | refine gdW ?_ | refine gdF ?_ | refine gdL ?_ | refine gdT ?_ | refine gdC ?_ | refine gdM (by decide) ?_ | show PySem.wpAt _ _ _ _ _ _ _); first | walk1 | (dsimp only; walk1)))
  refine Calls.spliced_nil (bytearrayN (by omega) (by simp only [List.size_toArray]; omega) (fun h2 tk2 hb hk2 => ?_))
  with_reducible rename Fr _ _ _ _ => F0
  dsimp only at hb hk2
  have F2 := fr_kept F0 hk2
  have N2 : News (hideAll s.heap []) L' h2 [(_, _)] := news_cons News.nil hb (base_ne F0 (Nat.le_refl _)) (base_none F0 (Nat.le_refl _))
  clear N hb hk2 F0
  generalize h₁.objs.size = ba at *
  rw [show ((l.toArray.size : Int)).toNat = l.length from by simp] at N2
  ((fail_if_success with_reducible first | refine gdW ?_ | refine gdF ?_ | refine gdL ?_ | refine gdT ?_ | refine gdC ?_ | refine gdM (by decide) ?_ | show PySem.wpAt _ _ _ _ _ _ _); first | walk1 | (dsimp only; walk1))
  refine wpN_any ?_
  refine wpAny_execs_cons (forA ?_)
  repeat' (((fail_if_success with_reducible first | refine gdW ?_ | refine gdF ?_ | refine gdL ?_ | refine gdT ?_ | refine gdC ?_ | refine gdM (by decide) ?_ | show PySem.wpAt _ _ _ _ _ _ _); first | walk1 | (dsimp only; walk1)))
  with_reducible rename Fr _ _ _ _ => F3
  with_reducible rename News _ _ _ _ => N3
  have hsz : ((l.toArray.size : Nat) : Int) = ((q * wd : Nat) : Int) := by simp [hl]
  have hba : ba ≠ L' ∧ (hideAll s.heap []).get? ba = none := ⟨(N3 _ (.head _)).2.1, (N3 _ (.head _)).2.2⟩
  have hb3 := (N3 _ (.head _)).1
  clear N3
  with_reducible rename IsRange _ _ _ _ _ _ _ _ => R3
  have hrs : Builtin.Range.rangeSize 0 (l.toArray.size : Nat) wd = (q : Int) := hsz ▸ rangeSize_mul hw
  refine range_it R3 hrs (small_of (by omega) (by omega) (by omega) (by simp only [List.size_toArray]; omega) (by omega) (by omega) hrs (by have := Nat.le_mul_of_pos_right q hw; omega)) (fun h5 I hi5 hk5 hI5 => ?_)
  have F5 := fr_kept F3 hk5
  have hI := And.intro (base_ne F3 hI5) (base_none F3 hI5)
  have hIb : ba ≠ I := fun e => absurd (Heap.lt_size hb3) (Nat.not_lt.mpr (e ▸ hI5))
  refine ⟨I, _, _, q, _, fun i h => IsRangeIter h I (0 + (i : Nat) * (wd : Int)) ((q : Int) - (i : Nat)) wd, fun i s' => SwInv s s' L' ba l t t2 wd i, rfl, Walks.range (A := A.deeper _) hh I 0 wd q, ⟨_, _, _, _, rfl, F5, rfl, rfl, rfl, hk5 _ _ hb3, by rw [Nat.zero_mul]; exact SwB.zero l wd⟩, hi5, ?_, ?_⟩
  · rintro i v s' h6 tk6 hi ⟨t6, rfl⟩ ⟨h7, tk7, m, bs, rfl, F7, e1, e2, e3, e4, e5⟩ hk6 st6
    refine hideTA fun R hR => ?_
    have F8 := fr_wr F7 hk6 (by simpa using hI.1.symm) (by simpa using hI.2)
    have N8 := news_cons (news_cons News.nil st6 hI.1 hI.2) (hk6 _ _ (by simpa using hIb) e4) hba.1 hba.2
    clear F7
    rw [show (0 : Int) + (i : Int) * (wd : Int) = ((i * wd : Nat) : Int) from by push_cast; omega]
    have hiq : i * wd + wd ≤ l.length := by
      rw [hl, ← Nat.succ_mul]
      exact Nat.mul_le_mul_right _ hi
    clear hk hk6 hb3 hk5 hi5 F5
    repeat' (((fail_if_success with_reducible first | refine gdW ?_ | refine gdF ?_ | refine gdL ?_ | refine gdT ?_ | refine gdC ?_ | refine gdM (by decide) ?_ | show PySem.wpAt _ _ _ _ _ _ _); first | walk1 | (dsimp only; walk1)))
    refine forA ?_
    repeat' (((fail_if_success with_reducible first | refine gdW ?_ | refine gdF ?_ | refine gdL ?_ | refine gdT ?_ | refine gdC ?_ | refine gdM (by decide) ?_ | show PySem.wpAt _ _ _ _ _ _ _); first | walk1 | (dsimp only; walk1)))
    with_reducible rename IsRange _ _ _ _ _ _ _ _ => R4
    with_reducible rename Fr _ _ _ _ => G3
    with_reducible rename News _ _ _ _ => M3
    have hrs4 : Builtin.Range.rangeSize 0 (wd : Nat) 1 = (wd : Int) := by rw [rangeSize_one]; split <;> omega
    refine range_it R4 hrs4 (small_of (by omega) (by omega) (by omega) (by omega) (by omega) (by omega) hrs4 (by omega)) (fun h9 I2 hi9 hk9 hI9 => ?_)
    have G5 := fr_kept G3 hk9
    have hJ1 := base_ne G3 hI9
    have hJ0 := base_none G3 hI9
    have hb9 := (M3 _ (.head _)).1
    have hI9' := (M3 _ (.tail _ (.head _))).1
    have hJb : ba ≠ I2 := fun e => absurd (Heap.lt_size hb9) (Nat.not_lt.mpr (e ▸ hI9))
    have hJI : I ≠ I2 := fun e => absurd (Heap.lt_size hI9') (Nat.not_lt.mpr (e ▸ hI9))
    refine ⟨I2, _, _, wd, _, fun j h => IsRangeIter h I2 (0 + (j : Nat) * 1) ((wd : Int) - (j : Nat)) 1, fun j s' => SwInv2 s s' h6 L' ba I l t t2 wd i j, rfl, Walks.range (A := A.deeper _) hh I2 0 1 wd,
      ⟨_, _, _, _, rfl, G5, e1, e2, e3, ⟨_, rfl⟩, hk9 _ _ hb9, (hk9 _ _ hI9').trans st6.symm, e5⟩, hi9, ?_, ?_⟩
    · clear hb9 hI9' G5 hi9 hk9 G3 M3 R4 e4 e1 e2 e3 e5
      rintro j v s' h10 tk10 hj ⟨t10, rfl⟩ ⟨h11, tk11, m, bs, rfl, F11, e1, e2, e3, ⟨ti, e0⟩, e4, e6, e5⟩ hk10 st10
      refine hideTA fun R2 hR2 => ?_
      rw [show (0 : Int) + (j : Int) * 1 = (j : Int) from by omega]
      have F12 := fr_wr F11 hk10 (by simpa using hJ1.symm) (by simpa using hJ0)
      have N12 := news_cons (news_cons (news_cons News.nil st10 hJ1 hJ0) (hk10 _ _ (by simpa using hJI) (e6.trans st6)) hI.1 hI.2) (hk10 _ _ (by simpa using hJb) e4) hba.1 hba.2
      clear F11 hk10
      repeat' (((fail_if_success with_reducible first | refine gdW ?_ | refine gdF ?_ | refine gdL ?_ | refine gdT ?_ | refine gdC ?_ | refine gdM (by decide) ?_ | show PySem.wpAt _ _ _ _ _ _ _); first | walk1 | (dsimp only; walk1)))
      with_reducible rename Fr _ _ _ _ => G12
      with_reducible rename News _ _ _ _ => M12
      have hgd : ((i * wd : Nat) : Int) + (j : Int) = ((i * wd + j : Nat) : Int) := by omega
      have hlt : (l.getD (((i * wd : Nat) : Int) + (j : Int)).toNat 0).toNat < 256 := UInt8.toNat_lt _
      refine ba_setitem (M12 _ (.head _)).1 (by omega) (by rw [e5.1]; omega) (by omega) (by omega) (by rw [e5.1]; omega) (fun h13 hb13 hs13 => ?_)
      dsimp only
      refine wpAny_execs_nil (hR2 _ ⟨⟨h13, _, _, _, rfl, fr_wr (wr := [ba]) G12 (fun b o hb e => (hs13.2 b (by simpa using hb)).trans e) (by simpa using hba.1.symm) (by simpa using hba.2), e1, e2, e3, ⟨_, e0⟩, hb13, ?_, ?_⟩, ?_⟩)
      · exact (hs13.2 _ hIb.symm).trans (((M12 _ (.tail _ (.head _))).1).trans st6.symm)
      · have := SwB.set hj hiq e5
        rw [hgd, show ((((i * wd : Nat) : Int) + (wd : Int) - 1 - (j : Int))).toNat = i * wd + wd - 1 - j from by omega, Int.toNat_natCast, Int.toNat_natCast]
        simpa using this
      · exact (hs13.2 _ hJb.symm).trans (M12 _ (.tail _ (.tail _ (.head _)))).1
    · rintro s' h10 tk10 ⟨h11, tk11, m, bs, rfl, F11, e1, e2, e3, ⟨ti, e0⟩, e4, e6, e5⟩ hk10
      have F12 := fr_wr F11 hk10 (by simpa using hJ1.symm) (by simpa using hJ0)
      dsimp only
      refine wpAny_execs_nil (hR _ ⟨⟨h10, _, _, _, rfl, F12, e1, e2, e3, hk10 _ _ (by simpa using hJb) e4, by rw [Nat.succ_mul]; exact SwB.next e5⟩, ?_⟩)
      exact hk10 _ _ (by simpa using hJI) (e6.trans st6)
  · rintro s' h6 tk6 ⟨h7, tk7, m, bs, rfl, F7, e1, e2, e3, e4, e5⟩ hk6
    have F8 := fr_wr F7 hk6 (by simpa using hI.1.symm) (by simpa using hI.2)
    have N8 := news_cons News.nil (hk6 _ _ (by simpa using hIb) e4) hba.1 hba.2
    clear F7
    dsimp only
    repeat' (((fail_if_success with_reducible first | refine gdW ?_ | refine gdF ?_ | refine gdL ?_ | refine gdT ?_ | refine gdC ?_ | refine gdM (by decide) ?_ | show PySem.wpAt _ _ _ _ _ _ _); first | walk1 | (dsimp only; walk1)))
    with_reducible rename Fr _ _ _ _ => G9
    obtain rfl := SwB.fin hl.symm e5
    exact bytes_of_ba (N8 _ (.head _)).1 (by rw [e5.1]; exact hz) fun t k => hQ _ _ _ (fr_keeps G9)
end


theorem hide7 {fa da ln a dx : Addr} (h : 240 ≤ fa ∧ 240 ≤ da ∧ 240 ≤ ln ∧ 240 ≤ a ∧ 240 ≤ dx) : ∀ c ∈ [fa, da, ln, a, dx, 140, 147], c ∈ tabs ∨ 240 ≤ c := by
  intro c hc
  simp only [List.mem_cons, List.not_mem_nil, or_false] at hc
  rcases hc with rfl | rfl | rfl | rfl | rfl | rfl | rfl
  · exact .inr h.1
  · exact .inr h.2.1
  · exact .inr h.2.2.1
  · exact .inr h.2.2.2.1
  · exact .inr h.2.2.2.2
  · exact .inl (by simp [tabs])
  · exact .inl (by simp [tabs])
section
variable {prog : Program} {w : World} {A : Around} {s : Shared}
theorem range_down {r : Addr} {a : Int} {n : Nat} {t u v : Tok} {K : Option Value → Shared → Prop} (hr : IsRange s.heap r a 0 (-1) t u v) (ha : a = (n : Int)) (h0 : 0 < n) (hn : n ≤ 1000)
    (h : ∀ h' tk t', (∀ b o, s.heap.get? b = some o → h'.get? b = some o) → K (some (.int (n : Nat) t')) { s with heap := h', toks := tk }) :
    wpAny (model prog w) A (pyIter (.ref r)) (fun it s₂ => wpAny (model prog w) A (pyNext it) K NoE s₂) NoE s := by
  subst ha
  have e : Builtin.Range.rangeSize (n : Int) 0 (-1) = n := by unfold Builtin.Range.rangeSize; simp; omega
  have hsm : Builtin.Range.small (n : Int) 0 (-1) = true := by
    unfold Builtin.Range.small
    rw [e]
    simp only [Builtin.Range.rangeFitsLong, Bool.and_eq_true, Bool.or_eq_true, decide_eq_true_eq, beq_iff_eq, show ¬ ((-1 : Int) > 0) by decide, if_false]
    omega
  refine wpAny_pyIter_range hr hsm ?_
  rw [e]
  refine wpAny_pyNext_range_item (Heap.get?_push_size _ rfl) (by omega) (fun h' hi k => h _ _ _ fun b o eb => ?_)
  rw [k.2 b (fun hb => absurd (Heap.lt_size eb) (hb ▸ Nat.lt_irrefl _))]
  exact Heap.get?_push_of_some _ eb
end
theorem PartsAt.hide {h : Heap} {H : List Addr} {vs : Array Value} {parts : List (Str × Str)} (hp : PartsAt h vs parts) (hH : ∀ b ∈ H, ∀ o, h.get? b = some o → o.cls ≠ .type "tuple") : PartsAt (hideAll h H) vs parts := by
  obtain ⟨h1, Ts, tf, tx, h2⟩ := hp
  refine ⟨h1, Ts, tf, tx, fun j hj => ⟨(h2 j hj).1, ?_⟩⟩
  obtain ⟨o, e1, e2, e3⟩ := (h2 j hj).2
  exact ⟨o, hideAll_get _ e1 (fun hm => hH _ hm _ e1 e2), e2, e3⟩
theorem ext_end {S H : List Addr} {s s' : Shared} {L : Addr} {m : Str → Option Value} (F : Fr (hideAll s.heap H) L s'.heap m) (hH : ∀ b ∈ H, b ∈ S ∨ b ∈ tabs ∨ ∀ o, s.heap.get? b = some o → s'.heap.get? b = some o)
    (ht : ∀ P ∈ tabs, ∀ ps, TabAt s.heap P ps → ∃ more, TabAt s'.heap P (ps ++ more)) (hgens : AllBare s.gens → AllBare s'.gens) (hos : s'.os = s.os) : Ext S s s' :=
  ⟨fun b o h1 h2 e => if hb : b ∈ H then ((hH b hb).elim (fun q => absurd q h1) fun q => q.elim (fun q => absurd q h2) fun q => q o e) else F.keep b o (hideAll_get _ e hb), ht, hgens, hos⟩
theorem rows_push {h : Heap} {ln : Addr} {l : List (Str × Tok)} {rows : List Str} {x : Str} {t : Tok} {n : Nat} (hl : l.map (·.1) = rows) (e : h.get? ln = some { cls := .type "list", data := .seq ((strValues l).toArray.push (.str x t)) n }) : RowsAt h ln (rows ++ [x]) :=
  ⟨l ++ [(x, t)], n, by simp [hl], by rw [e]; simp [strValues]⟩
theorem rows_push2 {h : Heap} {ln : Addr} {l : List (Str × Tok)} {rows : List Str} {x : Str} {t : Tok} {n : Nat} {A : Array Value} (hl : l.map (·.1) = rows) (e : h.get? ln = some { cls := .type "list", data := .seq A n }) (hA : A = (strValues l).toArray.push (.str x t)) : RowsAt h ln (rows ++ [x]) :=
  rows_push hl (hA ▸ e)
theorem f_pf {w : World} : findIn (Mine.hd.heap_1 w.params) (.ref 178) "pop_from" = some (some (.ref 130)) := by k_is
theorem t_pf {w : World} : typeIn (Mine.hd.heap_1 w.params) (.ref 130) = some (.type "function") := by k_is
theorem f_rs {w : World} : findIn (Mine.hd.heap_1 w.params) (.ref 178) "reset" = some (some (.ref 160)) := by k_is
theorem t_rs {w : World} : typeIn (Mine.hd.heap_1 w.params) (.ref 160) = some (.type "function") := by k_is
theorem ok_news {w : World} {mg mb : Str → Option Value} {g h : Heap} {L : Addr} {m : Str → Option Value} {news : List (Addr × Obj)} {pa pb : Array Value} (X' : (Mine.hd.heap_1 w.params).In g) (T' : Top0 mg mb g) (M : g.get? 4 = some { cls := .type "module", dict := some builtinsNs }) (F : Fr g L h m)
    (N : News g L h ((140, { cls := .none, data := .fields pa }) :: (147, { cls := .none, data := .fields pb }) :: news)) (ta : TriplesOk pa.toList) (tb : TriplesOk pb.toList) : Ok w mg mb h :=
  ⟨X'.keeps F.keep, T'.keeps F.keep, ⟨⟨pa, (N _ (.head _)).1, ta⟩, pb, (N _ (.tail _ (.head _))).1, tb⟩, F.keep _ _ M⟩
theorem fmt_base {P : Params} {h g : Heap} {L fa da ln a dx : Addr} {mx : Int} {rows : List Str} {parts : List (Str × Str)} (X : FmtAt P h fa da ln a dx mx rows parts) (hg : g = hideAll h [fa, da, ln, a, dx, 140, 147]) (hL : L = h.objs.size) : ∀ b ∈ [fa, da, ln, a, dx], g.get? b = none ∧ b ≠ L := by
  intro b hb
  refine ⟨by rw [hg]; exact hideAll_none _ (List.mem_append_left [140, 147] hb), fun e => ?_⟩
  have hlt : b < h.objs.size := by
    obtain ⟨tk, n, e1⟩ := X.da_
    obtain ⟨l, n2, e2, e3⟩ := X.ln_
    obtain ⟨vs, n3, tk2, t0, n4, e4, e5⟩ := X.acc
    have z : ∀ b ∈ [fa, da, ln, a, dx], b < h.objs.size := al1 (Heap.lt_size X.fa_) (al1 (Heap.lt_size e1) (al1 (Heap.lt_size e3) (al1 (Heap.lt_size e4.at_) (al1 (Heap.lt_size e4.dx_) al0))))
    exact z b hb
  exact absurd hlt (by rw [e, hL]; exact Nat.lt_irrefl _)
theorem tab_hide {g h : Heap} {l r : List Addr} (hg : g = hideAll h (l ++ r)) (hr : ∀ b ∈ tabs, b ∈ r) : ∀ b ∈ tabs, g.get? b = none := fun b hb => by
  rw [hg]
  exact hideAll_none _ (List.mem_append_right l (hr b hb))
theorem fmt_hide {P : Params} {h g : Heap} {fa da ln a dx : Addr} {mx : Int} {rows : List Str} {parts : List (Str × Str)} (X : FmtAt P h fa da ln a dx mx rows parts) (T : Tabs h) (hg : g = hideAll h [fa, da, ln, a, dx, 140, 147]) : ∀ vs, (∃ n, h.get? a = some (accObj dx vs n)) → PartsAt g vs parts := by
  rintro vs ⟨n, en⟩
  obtain ⟨vs0, n3, tk2, t0, n4, e4, e5⟩ := X.acc
  have e := e4.at_.symm.trans en
  simp only [accObj, Option.some.injEq, Obj.mk.injEq, Data.seq.injEq, true_and, and_true] at e
  rw [← e.1, hg]
  obtain ⟨tk, n, e1⟩ := X.da_
  obtain ⟨l, n2, e2, e3⟩ := X.ln_
  obtain ⟨pa, ea1, ea2, pb, eb1, eb2⟩ := Tabs.e T
  exact e5.hide (al1 (at_only X.fa_ (by simp)) (al1 (at_only e1 (by simp)) (al1 (at_only e3 (by simp)) (al1 (at_only e4.at_ (by simp)) (al1 (at_only e4.dx_ (by simp)) (al1 (at_only ea1 (by simp)) (al1 (at_only eb1 (by simp)) al0)))))))


section
variable {w : World} {A : Around} {s : Shared} {mg mb : Str → Option Value} {Q : Value → Shared → Prop} {E : Value → Shared → Prop}
  {fa da ln a dx : Addr} {mx : Int} {rows : List Str} {parts : List (Str × Str)}
set_option maxHeartbeats 4000000 in
theorem chunk_wp (O : Ok w mg mb s.heap) (hd : A.depth + 6 < recursionLimit) (hh : A.handled = none) (hu : A.units < 7000) (X : FmtAt w.params s.heap fa da ln a dx mx rows parts) (f y : Str) (tf ty : Tok) (hz : parts.length ≤ 900) (hr : rows.length ≤ 1000) (hlen : ∀ p ∈ parts ++ [(f, y)], p.1.length ≤ 1000 ∧ p.2.length ≤ 1000)
    (hov : mx < (lenOf (parts ++ [(f, y)]) : Int) → parts ≠ [] ∧ f.cps[0]? = some 32)
    (hQ1 : (lenOf (parts ++ [(f, y)]) : Int) ≤ mx → ∀ s', Ext [a] s s' → FmtAt w.params s'.heap fa da ln a dx mx rows (parts ++ [(f, y)]) → Q .none s')
    (hQ2 : mx < (lenOf (parts ++ [(f, y)]) : Int) → ∀ s', Ext [ln, a, dx] s s' → FmtAt w.params s'.heap fa da ln a dx mx (rows ++ [textOf parts]) [(f, y)] → Q .none s') :
    wpAny (model PySem.Challenge.pw_xo0030_01 w) A (call (.ref 91) [.ref fa, .str f tf, .str y ty]) Q E s := by
  refine callQ [fa, da, ln, a, dx, 140, 147] [("self", .ref fa), ("fws", .str f tf), ("string", .str y ty)] O (by k_is) (by k_is) (by omega) (BindsTo.of_eq rfl) (locs rfl) (hide7 X.lo) (fun g L' h₁ tk' hg hL F' X' T' hk => ?_)
  have hL2 : 240 ≤ L' := hL ▸ size240 O
  have ht : ∀ b ∈ tabs, g.get? b = none := tab_hide (l := [fa, da, ln, a, dx]) hg fun _ h => h
  have hpg := fmt_hide X O.P hg
  have y1 : Ext [] s { s with heap := h₁, toks := tk' } := kept_ext (fun b o _ e => hk b o e) (by simp)
  have X1 : FmtAt w.params h₁ fa da ln a dx mx rows parts := X.ext0 (s' := { s with heap := h₁, toks := tk' }) O.P y1
  have hbase := fmt_base X hg hL
  obtain ⟨tk1, n1, l1, n2, vs1, n3, tk2, t0, n4, e1, hp1, N1⟩ := X1.news hbase
  repeat' (((fail_if_success with_reducible first | refine gdW ?_ | refine gdF ?_ | refine gdL ?_ | refine gdT ?_ | refine gdC ?_ | refine gdM (by decide) ?_ | show PySem.wpAt _ _ _ _ _ _ _); first | walk1 | (dsimp only; walk1)))
  have hpg1 : PartsAt g vs1 parts := hpg _ (by
    obtain ⟨vs0, m3, tk2, t0, n4, e4, e5⟩ := X.acc
    have e := (hk _ _ e4.at_).symm.trans (N1 _ (.tail _ (.tail _ (.tail _ (.head _))))).1
    exact ⟨_, e4.at_.trans e⟩)
  have x1 : AccP w.params h₁ a dx vs1 n3 (accD w.params tk2 (.int 0 t0)) n4 := ⟨(N1 _ (.tail _ (.tail _ (.tail _ (.head _))))).1, (N1 _ (.tail _ (.tail _ (.tail _ (.tail _ (.head _)))))).1⟩
  refine acc_method (X'.keeps F'.keep) x1 f_push t_push rfl rfl ?_
  repeat' (((fail_if_success with_reducible first | refine gdW ?_ | refine gdF ?_ | refine gdL ?_ | refine gdT ?_ | refine gdC ?_ | refine gdM (by decide) ?_ | show PySem.wpAt _ _ _ _ _ _ _); first | walk1 | (dsimp only; walk1)))
  have hz1 : vs1.size ≤ 900 := by rw [hp1.1]; exact hz
  have O1 := O.keeps hk
  refine push_wp O1 (by show A.depth + 1 + 1 < _; omega) x1 (.inr ⟨_, _, rfl⟩) X.lo.2.2.2.1 X.lo.2.2.2.2 (fun e => by have := X.ap; simp [e] at this) (by omega) f y tf ty (fun h2 tk2' n5 q x2 hq hqn k2 => ?_)
  have y2 : Ext [a] { s with heap := h₁, toks := tk' } { s with heap := h2, toks := tk2' } := ⟨(kept_ext (s := { s with heap := h₁, toks := tk' }) (tk := tk2') k2 (by simpa using X.lo.2.2.2.1)).keep, (kept_ext (s := { s with heap := h₁, toks := tk' }) (tk := tk2') k2 (by simpa using X.lo.2.2.2.1)).tab, id, rfl⟩
  have ap := X.ap
  simp only [List.nodup_cons, List.mem_cons, List.not_mem_nil, or_false, not_or, List.nodup_nil, and_true, not_false_eq_true] at ap
  have hp2 : PartsAt h2 vs1 parts := hp1.ext O1.P y2 (fun b hb o e => by
    have := List.mem_singleton.mp hb
    subst this
    have := x1.at_.symm.trans e
    cases this
    simp)
  have X2 : FmtAt w.params h2 fa da ln a dx mx rows (parts ++ [(f, y)]) := X1.of_ext (s := { s with heap := h₁, toks := tk' }) y2 (by simp) (X1.rows_ext (s := { s with heap := h₁, toks := tk' }) y2 (by simpa using ap.2.2.1.1)) ⟨_, _, _, _, _, ⟨x2.at_, x2.dx_⟩, push_parts hp2 hq⟩
  have O2 : Ok w mg mb h2 := O1.ext (s := { s with heap := h₁, toks := tk' }) y2 (by simpa using X.lo.2.2.2.1)
  have F2 : Fr g L' h2 _ := fr_ext (s := { s with heap := h₁, toks := tk' }) F' y2 (by simpa using (hbase a (by simp)).1) ht (by simpa using (hbase a (by simp)).2.symm) hL2
  obtain ⟨tk3, n6, l2, n7, vs2, n8, tk4, t4, n9, e2, hp3, N2⟩ := X2.news hbase
  have y12 : Ext [a] s { s with heap := h2, toks := tk2' } := (y1.mono (by simp)).trans y2
  have hqg : g.get? q = none := by
    cases e : g.get? q with
    | none => rfl
    | some o => exact absurd ((F'.keep q o e).symm.trans hqn) (by simp)
  have hqL : q ≠ L' := fun e => by
    obtain ⟨o, es, ep, x, r⟩ := F'.ns
    rw [← e, hqn] at x
    cases x
  have hqt : q ∉ tabs := fun hm => by
    obtain ⟨pa, ea1, ea2, pb, eb1, eb2⟩ := Tabs.e O1.P
    simp only [tabs, List.mem_cons, List.not_mem_nil, or_false] at hm
    rcases hm with rfl | rfl
    · rw [hqn] at ea1; cases ea1
    · rw [hqn] at eb1; cases eb1
  clear F' N1
  repeat' (((fail_if_success with_reducible first | refine gdW ?_ | refine gdF ?_ | refine gdL ?_ | refine gdT ?_ | refine gdC ?_ | refine gdM (by decide) ?_ | show PySem.wpAt _ _ _ _ _ _ _); first | walk1 | (dsimp only; walk1)))
  have a2 : AccAt w.params h2 a dx vs2 n8 tk4 (.int 0 t4) n9 := ⟨(N2 _ (.tail _ (.tail _ (.tail _ (.head _))))).1, (N2 _ (.tail _ (.tail _ (.tail _ (.tail _ (.head _)))))).1⟩
  have hz3 : vs2.size ≤ 1000 := by rw [hp3.1]; simp; omega
  refine acc_len O2 (by show A.depth + 1 + 2 < _; omega) hh a2 hp3 hz3 hlen (fun t5 s3 y3 => ?_)
  have X3 := X2.ext0 (s := { s with heap := h2, toks := tk2' + 1 }) O2.P y3
  have F3 := fr_ext (s := { s with heap := h2, toks := tk2' + 1 }) F2 y3 (by simp) ht (by simp) hL2
  obtain ⟨tk5, n10, l3, n11, vs3, n12, tk6, t6, n13, e3, hp4, N3⟩ := X3.news hbase
  have hda3 := (N3 _ (.tail _ (.head _))).1
  have y13 : Ext [a] s s3 := ⟨fun b o h1 h2 e => y3.keep b o (by simp) h2 (y12.keep b o h1 h2 e), fun P hP ps e => by
    obtain ⟨m1, q1⟩ := y12.tab P hP ps e
    obtain ⟨m2, q2⟩ := y3.tab P hP _ q1
    exact ⟨m1 ++ m2, by rw [← Array.append_assoc]; exact q2⟩, fun g => y3.gens (y12.gens g), y3.os⟩
  clear F2 N2
  repeat' (((fail_if_success with_reducible first | refine gdW ?_ | refine gdF ?_ | refine gdL ?_ | refine gdT ?_ | refine gdC ?_ | refine gdM (by decide) ?_ | show PySem.wpAt _ _ _ _ _ _ _); first | walk1 | (dsimp only; walk1)))
  · have hgt : mx < (lenOf (parts ++ [(f, y)]) : Int) := by assumption
    obtain ⟨hne, hf0⟩ := hov hgt
    have hq3 : s3.heap.get? q = some { cls := .type "tuple", data := .seq #[.str f tf, .str y ty] } := y3.keep _ _ (by simp) hqt hq
    have hat : a ∉ tabs := fun hm => absurd X.lo.2.2.2.1 (by
      simp only [tabs, List.mem_cons, List.not_mem_nil, or_false] at hm
      rcases hm with rfl | rfl <;> decide)
    have hv3 : vs3 = vs1.push (.ref q) := by
      have e := (N3 _ (.tail _ (.tail _ (.tail _ (.head _))))).1.symm.trans (y3.keep _ _ (by simp) hat x2.at_)
      simp only [accObj, Option.some.injEq, Obj.mk.injEq, Data.seq.injEq] at e
      exact e.2.2.1.1
    refine for_brk1 ?_
    repeat' (((fail_if_success with_reducible first | refine gdW ?_ | refine gdF ?_ | refine gdL ?_ | refine gdT ?_ | refine gdC ?_ | refine gdM (by decide) ?_ | show PySem.wpAt _ _ _ _ _ _ _); first | walk1 | (dsimp only; walk1)))
    refine space_first hh (fun h4 tk4 t4' k4 => ⟨_, rfl, ?_⟩)
    with_reducible rename Fr _ _ _ _ => F3'
    have O3 : Ok w mg mb s3.heap := O2.ext (s := { s with heap := h2, toks := tk2' + 1 }) y3 (by simp)
    have M4 : g.get? 4 = some { cls := .type "module", dict := some builtinsNs } := hg ▸ hideAll_get _ O.M4 (fun m => by
      rcases hide7 X.lo 4 m with h | h
      · simp [tabs] at h
      · exact absurd h (by decide))
    obtain ⟨pa, ea1, ea2, pb, eb1, eb2⟩ := Tabs.e O3.P
    have N3 := news_cons N3 hq3 hqL hqg
    have N3 := news_cons (news_cons N3 eb1 (Nat.ne_of_lt (Nat.lt_of_lt_of_le (by decide : 147 < 240) hL2)) (ht 147 (by simp [tabs]))) ea1 (Nat.ne_of_lt (Nat.lt_of_lt_of_le (by decide : 140 < 240) hL2)) (ht 140 (by simp [tabs]))
    have F4 := fr_kept F3' k4
    have N4 := news_kept N3 k4
    clear F3' N3
    repeat' (((fail_if_success with_reducible first | refine gdW ?_ | refine gdF ?_ | refine gdL ?_ | refine gdT ?_ | refine gdC ?_ | refine gdM (by decide) ?_ | show PySem.wpAt _ _ _ _ _ _ _); first | walk1 | (dsimp only; walk1)))
    refine for_brk1 ?_
    repeat' (((fail_if_success with_reducible first | refine gdW ?_ | refine gdF ?_ | refine gdL ?_ | refine gdT ?_ | refine gdC ?_ | refine gdM (by decide) ?_ | show PySem.wpAt _ _ _ _ _ _ _); first | walk1 | (dsimp only; walk1)))
    with_reducible rename Fr _ _ _ _ => F5
    with_reducible rename News _ _ _ _ => N5
    have x5 : AccP w.params _ a dx vs3 n12 (accD w.params tk6 (.int 0 t6)) n13 := ⟨(N5 _ (.tail _ (.tail _ (.tail _ (.tail _ (.tail _ (.tail _ (.head _)))))))).1, (N5 _ (.tail _ (.tail _ (.tail _ (.tail _ (.tail _ (.tail _ (.tail _ (.head _))))))))).1⟩
    have O5 : Ok w mg mb _ := ok_news X' T' M4 F5 N5 ea2 eb2
    refine acc_method (X'.keeps F5.keep) x5 f_pc t_pc rfl rfl ?_
    repeat' (((fail_if_success with_reducible first | refine gdW ?_ | refine gdF ?_ | refine gdL ?_ | refine gdT ?_ | refine gdC ?_ | refine gdM (by decide) ?_ | show PySem.wpAt _ _ _ _ _ _ _); first | walk1 | (dsimp only; walk1)))
    refine part_count_wp O5 (by show A.depth + 1 + 1 < _; omega) x5 (fun t7 h6 tk7 k6 => ?_)
    have F6 := fr_kept F5 k6
    have N6 := news_kept N5 k6
    clear F5 N5
    repeat' (((fail_if_success with_reducible first | refine gdW ?_ | refine gdF ?_ | refine gdL ?_ | refine gdT ?_ | refine gdC ?_ | refine gdM (by decide) ?_ | show PySem.wpAt _ _ _ _ _ _ _); first | walk1 | (dsimp only; walk1)))
    with_reducible rename IsRange _ _ _ _ _ _ _ _ => R7
    with_reducible rename Fr _ _ _ _ => F7
    with_reducible rename News _ _ _ _ => N7
    refine range_down (n := parts.length) R7 (by rw [hp4.1]; simp) (List.length_pos_iff.mpr hne) (by omega) (fun h8 tk8 t8 k8 => ⟨_, rfl, ?_⟩)
    have F8 := fr_kept F7 k8
    have N8 := news_kept N7 k8
    clear F7 N7
    repeat' (((fail_if_success with_reducible first | refine gdW ?_ | refine gdF ?_ | refine gdL ?_ | refine gdT ?_ | refine gdC ?_ | refine gdM (by decide) ?_ | show PySem.wpAt _ _ _ _ _ _ _); first | walk1 | (dsimp only; walk1)))
    with_reducible rename Fr _ _ _ _ => F9
    with_reducible rename News _ _ _ _ => N9
    have x9 : AccP w.params _ a dx vs3 n12 (accD w.params tk6 (.int 0 t6)) n13 := ⟨(N9 _ (.tail _ (.tail _ (.tail _ (.tail _ (.tail _ (.tail _ (.head _)))))))).1, (N9 _ (.tail _ (.tail _ (.tail _ (.tail _ (.tail _ (.tail _ (.tail _ (.head _))))))))).1⟩
    have hz9 : vs3.size ≤ 1000 := by rw [hp4.1]; simp; omega
    have hT1 : vs3[parts.length]? = some (.ref q) := by rw [hv3, ← hp1.1]; simp
    refine acc_subtail (X'.keeps F9.keep) x9 (acc_getint (X'.keeps F9.keep) x9 hz9 (by omega) (by simpa using hT1) ?_) ⟨_, rfl⟩
    repeat' (((fail_if_success with_reducible first | refine gdW ?_ | refine gdF ?_ | refine gdL ?_ | refine gdT ?_ | refine gdC ?_ | refine gdM (by decide) ?_ | show PySem.wpAt _ _ _ _ _ _ _); first | walk1 | (dsimp only; walk1)))
    obtain ⟨⟨cs⟩, hcs⟩ : ∃ x, f = x := ⟨f, rfl⟩
    have hfz := (hlen _ (List.mem_append_right _ (List.mem_singleton_self _))).1
    have hf1 : 1 ≤ f.length := by
      rw [hcs] at hf0 ⊢
      exact (Array.getElem?_eq_some_iff.mp hf0).1
    refine KXt.truthy_pos hf1 hfz (by decide) (fun k9 => ?_)
    repeat' (((fail_if_success with_reducible first | refine gdW ?_ | refine gdF ?_ | refine gdL ?_ | refine gdT ?_ | refine gdC ?_ | refine gdM (by decide) ?_ | show PySem.wpAt _ _ _ _ _ _ _); first | walk1 | (dsimp only; walk1)))
    rotate_left
    · exfalso
      have hsp := item_sp (x := f) (i := 0) (by omega) (by omega)
      have hbad := ‹(Txt.item f 0 == Str.ofString " ") = false›
      rw [hbad] at hsp
      have h32 : f.cps.getD (0 : Int).toNat 0 = 32 := by
        simp [Array.getD_eq_getD_getElem?, hf0]
      rw [h32] at hsp
      cases hsp
    with_reducible rename Fr _ _ _ _ => FA
    with_reducible rename News _ _ _ _ => NA
    have M140 := NA _ (.head _)
    have M147 := NA _ (.tail _ (.head _))
    have Mq := NA _ (.tail _ (.tail _ (.head _)))
    have Mfa := NA _ (.tail _ (.tail _ (.tail _ (.head _))))
    have Mda := NA _ (.tail _ (.tail _ (.tail _ (.tail _ (.head _)))))
    have Mln := NA _ (.tail _ (.tail _ (.tail _ (.tail _ (.tail _ (.head _))))))
    have Ma := NA _ (.tail _ (.tail _ (.tail _ (.tail _ (.tail _ (.tail _ (.head _)))))))
    have Mdx := NA _ (.tail _ (.tail _ (.tail _ (.tail _ (.tail _ (.tail _ (.tail _ (.head _))))))))
    dsimp only at M140 M147 Mq Mfa Mda Mln Ma Mdx
    have xA : AccP w.params _ a dx vs3 n12 (accD w.params tk6 (.int 0 t6)) n13 := ⟨Ma.1, Mdx.1⟩
    have OA : Ok w mg mb _ := ok_news X' T' M4 FA NA ea2 eb2
    refine acc_method (X'.keeps FA.keep) xA f_pf t_pf rfl rfl ?_
    repeat' (((fail_if_success with_reducible first | refine gdW ?_ | refine gdF ?_ | refine gdL ?_ | refine gdT ?_ | refine gdC ?_ | refine gdM (by decide) ?_ | show PySem.wpAt _ _ _ _ _ _ _); first | walk1 | (dsimp only; walk1)))
    have hva : 240 ≤ a := X.lo.2.2.2.1
    have hvx : 240 ≤ dx := X.lo.2.2.2.2
    have hne2 : dx ≠ a := fun e => ap.2.2.2 e.symm
    have hnl : parts.length ≤ vs3.size := by rw [hv3, ← hp1.1]; simp
    refine pop_from_wp OA (by show A.depth + 1 + 1 < _; omega) xA hva hvx hne2 hz9 parts.length hnl _ (fun hB tkB nB l xB lB lnew kB => ?_)
    have hvv : vs3.extract 0 parts.length = vs1 := by rw [hv3, ← hp1.1]; simp
    have hdr : (vs3.toList.drop parts.length).toArray = #[.ref q] := by rw [hv3, ← hp1.1]; simp
    rw [hvv] at xB
    rw [hdr] at lB
    have hlL : l ≠ L' := fun e => by
      obtain ⟨o, es, ep, z, r⟩ := FA.ns
      rw [← e, lnew] at z
      cases z
    have hlg : g.get? l = none := by
      cases e : g.get? l with
      | none => rfl
      | some o => exact absurd ((FA.keep l o e).symm.trans lnew) (by simp)
    have FB := fr_wr FA kB (by simpa using Ma.2.1.symm) (by simpa using Ma.2.2)
    have b1 : @Ne Nat ln fa := fun e => ap.1.2.1 e.symm
    have b2 : @Ne Nat ln da := fun e => ap.2.1.1 e.symm
    have b3 : @Ne Nat ln a := ap.2.2.1.1
    have b4 : @Ne Nat ln dx := ap.2.2.1.2
    have b5 : @Ne Nat ln q := fun e => by have := Mln.1.symm.trans (e ▸ Mq.1); simp at this
    have b6 : @Ne Nat ln l := fun e => by have := Mln.1.symm.trans (e ▸ lnew); simp at this
    have b7 : @Ne Nat ln 140 := fun e => absurd X.lo.2.2.1 (by rw [e]; decide)
    have b8 : @Ne Nat ln 147 := fun e => absurd X.lo.2.2.1 (by rw [e]; decide)
    have aq : q ≠ a := fun e => by have := Ma.1.symm.trans (e ▸ Mq.1); simp at this
    have a140 : 140 ∉ [a] := fun hm => absurd hva (by rw [← List.mem_singleton.mp hm]; decide)
    have a147 : 147 ∉ [a] := fun hm => absurd hva (by rw [← List.mem_singleton.mp hm]; decide)
    have NB := news_cons (news_cons (news_cons (news_cons (news_cons (news_cons (news_cons (news_cons (news_cons (News.nil (h₀ := g) (L := L') (h := hB)) xB.dx_ Mdx.2.1 Mdx.2.2) xB.at_ Ma.2.1 Ma.2.2) (kB _ _ (by simpa using b3) Mln.1) Mln.2.1 Mln.2.2) (kB _ _ (by simpa using ap.2.1.2.1) Mda.1) Mda.2.1 Mda.2.2) (kB _ _ (by simpa using ap.1.2.2.1) Mfa.1) Mfa.2.1 Mfa.2.2) lB hlL hlg) (kB _ _ (by simpa using aq) Mq.1) Mq.2.1 Mq.2.2)
      (kB _ _ a147 M147.1) M147.2.1 M147.2.2) (kB _ _ a140 M140.1) M140.2.1 M140.2.2
    have hpB : PartsAt hB vs1 parts := hpg1.keeps FB.keep
    have OB : Ok w mg mb hB := ok_news X' T' M4 FB NB ea2 eb2
    clear FA NA
    repeat' (((fail_if_success with_reducible first | refine gdW ?_ | refine gdF ?_ | refine gdL ?_ | refine gdT ?_ | refine gdC ?_ | refine gdM (by decide) ?_ | show PySem.wpAt _ _ _ _ _ _ _); first | walk1 | (dsimp only; walk1)))
    with_reducible rename Fr _ _ _ _ => FB2
    with_reducible rename News _ _ _ _ => NB2
    have R140 := NB2 _ (.head _)
    have R147 := NB2 _ (.tail _ (.head _))
    have Rq := NB2 _ (.tail _ (.tail _ (.head _)))
    have Rl := NB2 _ (.tail _ (.tail _ (.tail _ (.head _))))
    have Rfa := NB2 _ (.tail _ (.tail _ (.tail _ (.tail _ (.head _)))))
    have Rda := NB2 _ (.tail _ (.tail _ (.tail _ (.tail _ (.tail _ (.head _))))))
    have Rln := NB2 _ (.tail _ (.tail _ (.tail _ (.tail _ (.tail _ (.tail _ (.head _)))))))
    have Ra := NB2 _ (.tail _ (.tail _ (.tail _ (.tail _ (.tail _ (.tail _ (.tail _ (.head _))))))))
    have Rdx := NB2 _ (.tail _ (.tail _ (.tail _ (.tail _ (.tail _ (.tail _ (.tail _ (.tail _ (.head _)))))))))
    dsimp only at R140 R147 Rq Rl Rfa Rda Rln Ra Rdx
    have OB2 : Ok w mg mb _ := ok_news X' T' M4 FB2 NB2 ea2 eb2
    refine acc_str OB2 (by show A.depth + 1 + 2 < _; omega) hh (by show A.units + 3 < 9000; omega) (⟨Ra.1, Rdx.1⟩ : AccP w.params _ a dx vs1 _ _ _) (hpg1.keeps FB2.keep) (by omega) (fun p hp => hlen p (List.mem_append_left _ hp)) (fun tC sC yC => ?_)
    have FC := fr_ext FB2 yC (by simp) ht (by simp) hL2
    obtain ⟨mA, cA⟩ := yC.tab 140 (by simp [tabs]) pa ⟨R140.1, ea2⟩
    obtain ⟨mB, cB⟩ := yC.tab 147 (by simp [tabs]) pb ⟨R147.1, eb2⟩
    have hlt : l ∉ tabs := fun hm => by
      simp only [tabs, List.mem_cons, List.not_mem_nil, or_false] at hm
      rcases hm with rfl | rfl
      · rw [M140.1] at lnew; cases lnew
      · rw [M147.1] at lnew; cases lnew
    have NC := news_cons (news_cons (news_cons (news_cons (news_cons (news_cons (news_cons (news_cons (news_cons (News.nil (h₀ := g) (L := L') (h := sC.heap)) (yC.keep _ _ (by simp) (notab hvx) Rdx.1) Rdx.2.1 Rdx.2.2) (yC.keep _ _ (by simp) hat Ra.1) Ra.2.1 Ra.2.2) (yC.keep _ _ (by simp) (notab X.lo.2.2.1) Rln.1) Rln.2.1 Rln.2.2) (yC.keep _ _ (by simp) (notab X.lo.2.1) Rda.1) Rda.2.1 Rda.2.2)
      (yC.keep _ _ (by simp) (notab X.lo.1) Rfa.1) Rfa.2.1 Rfa.2.2) (yC.keep _ _ (by simp) hlt Rl.1) Rl.2.1 Rl.2.2) (yC.keep _ _ (by simp) hqt Rq.1) Rq.2.1 Rq.2.2) cB.1 R147.2.1 R147.2.2) cA.1 R140.2.1 R140.2.2
    clear FB2 NB2
    repeat' (((fail_if_success with_reducible first | refine gdW ?_ | refine gdF ?_ | refine gdL ?_ | refine gdT ?_ | refine gdC ?_ | refine gdM (by decide) ?_ | show PySem.wpAt _ _ _ _ _ _ _); first | walk1 | (dsimp only; walk1)))
    with_reducible rename Fr _ _ _ _ => FC2
    with_reducible rename News _ _ _ _ => NC2
    have T140 := NC2 _ (.head _)
    have T147 := NC2 _ (.tail _ (.head _))
    have Tq := NC2 _ (.tail _ (.tail _ (.head _)))
    have Tl := NC2 _ (.tail _ (.tail _ (.tail _ (.head _))))
    have Tfa := NC2 _ (.tail _ (.tail _ (.tail _ (.tail _ (.head _)))))
    have Tda := NC2 _ (.tail _ (.tail _ (.tail _ (.tail _ (.tail _ (.head _))))))
    have Tln := NC2 _ (.tail _ (.tail _ (.tail _ (.tail _ (.tail _ (.tail _ (.head _)))))))
    have Ta := NC2 _ (.tail _ (.tail _ (.tail _ (.tail _ (.tail _ (.tail _ (.tail _ (.head _))))))))
    have Tdx := NC2 _ (.tail _ (.tail _ (.tail _ (.tail _ (.tail _ (.tail _ (.tail _ (.tail _ (.head _)))))))))
    dsimp only at T140 T147 Tq Tl Tfa Tda Tln Ta Tdx
    have hsl : (strValues l3).toArray.size ≤ sizeLine := by
      have hlr : l3.length ≤ 1000 := by
        have := congrArg List.length e3
        rw [List.length_map] at this
        omega
      rw [PySem.sizeLine_eq, List.size_toArray, strValues, List.length_map]
      omega
    refine append_at Tln.1 (fun hF sF eF => ?_) hsl
    have FF1 := fr_same FC2 sF Tln.2.1 Tln.2.2
    have NF1 := news_cons (news_cons (news_cons (news_cons (news_cons (news_cons (news_cons (news_cons (news_cons (News.nil (h₀ := g) (L := L') (h := hF)) ((sF.2 _ (Ne.symm b4)).trans Tdx.1) Tdx.2.1 Tdx.2.2) ((sF.2 _ (Ne.symm b3)).trans Ta.1) Ta.2.1 Ta.2.2) eF Tln.2.1 Tln.2.2) ((sF.2 _ (Ne.symm b2)).trans Tda.1) Tda.2.1 Tda.2.2)
      ((sF.2 _ (Ne.symm b1)).trans Tfa.1) Tfa.2.1 Tfa.2.2) ((sF.2 _ (Ne.symm b6)).trans Tl.1) Tl.2.1 Tl.2.2) ((sF.2 _ (Ne.symm b5)).trans Tq.1) Tq.2.1 Tq.2.2) ((sF.2 _ (Ne.symm b8)).trans T147.1) T147.2.1 T147.2.2) ((sF.2 _ (Ne.symm b7)).trans T140.1) T140.2.1 T140.2.2
    clear FC2 NC2
    repeat' (((fail_if_success with_reducible first | refine gdW ?_ | refine gdF ?_ | refine gdL ?_ | refine gdT ?_ | refine gdC ?_ | refine gdM (by decide) ?_ | show PySem.wpAt _ _ _ _ _ _ _); first | walk1 | (dsimp only; walk1)))
    with_reducible rename Fr _ _ _ _ => FD
    with_reducible rename News _ _ _ _ => ND
    have S140 := ND _ (.head _)
    have S147 := ND _ (.tail _ (.head _))
    have Sq := ND _ (.tail _ (.tail _ (.head _)))
    have Sl := ND _ (.tail _ (.tail _ (.tail _ (.head _))))
    have Sfa := ND _ (.tail _ (.tail _ (.tail _ (.tail _ (.head _)))))
    have Sda := ND _ (.tail _ (.tail _ (.tail _ (.tail _ (.tail _ (.head _))))))
    have Sln := ND _ (.tail _ (.tail _ (.tail _ (.tail _ (.tail _ (.tail _ (.head _)))))))
    have Sa := ND _ (.tail _ (.tail _ (.tail _ (.tail _ (.tail _ (.tail _ (.tail _ (.head _))))))))
    have Sdx := ND _ (.tail _ (.tail _ (.tail _ (.tail _ (.tail _ (.tail _ (.tail _ (.tail _ (.head _)))))))))
    dsimp only at S140 S147 Sq Sl Sfa Sda Sln Sa Sdx
    have xD : AccP w.params _ a dx vs1 _ _ _ := ⟨Sa.1, Sdx.1⟩
    have OD : Ok w mg mb _ := ok_news X' T' M4 FD ND cA.2 cB.2
    refine acc_method (X'.keeps FD.keep) xD f_rs t_rs rfl rfl ?_
    repeat' (((fail_if_success with_reducible first | refine gdW ?_ | refine gdF ?_ | refine gdL ?_ | refine gdT ?_ | refine gdC ?_ | refine gdM (by decide) ?_ | show PySem.wpAt _ _ _ _ _ _ _); first | walk1 | (dsimp only; walk1)))
    refine reset1_wp OD (by show A.depth + 1 + 1 < _; omega) xD (.inr ⟨_, _, rfl⟩) hva hvx hne2 (by omega) Sl.1 (by simp) (fun hE tkE nE tkE' tE nE2 xE kE => ?_)
    have FE := fr_wr FD kE (by simp only [List.mem_cons, List.not_mem_nil, or_false, not_or]; exact ⟨Ma.2.1.symm, Mdx.2.1.symm⟩) (by simp only [List.mem_cons, List.not_mem_nil, or_false]; rintro b (rfl | rfl); exact Ma.2.2; exact Mdx.2.2)
    have mE : ∀ b : Addr, b ≠ a → b ≠ dx → b ∉ [a, dx] := fun b h1 h2 => by simp only [List.mem_cons, List.not_mem_nil, or_false, not_or]; exact ⟨h1, h2⟩
    have qx : q ≠ dx := fun e => by have := Mdx.1.symm.trans (e ▸ Mq.1); simp at this
    have U140 := kE _ _ (mE 140 (fun e => absurd hva (by rw [← e]; decide)) (fun e => absurd hvx (by rw [← e]; decide))) S140.1
    have U147 := kE _ _ (mE 147 (fun e => absurd hva (by rw [← e]; decide)) (fun e => absurd hvx (by rw [← e]; decide))) S147.1
    have Uq := kE _ _ (mE q aq qx) Sq.1
    have Ufa := kE _ _ (mE fa ap.1.2.2.1 ap.1.2.2.2) Sfa.1
    have Uda := kE _ _ (mE da ap.2.1.2.1 ap.2.1.2.2) Sda.1
    have Uln := kE _ _ (mE ln b3 b4) Sln.1
    have hda0 : s.heap.get? da = some (dictOf (fmtD w.params tk5 mx ln a) n10) := by
      obtain ⟨tk, n, e1⟩ := X.da_
      rw [e1]
      exact (y13.keep _ _ (by simpa using ap.2.1.2.1) (notab X.lo.2.1) e1).symm.trans hda3
    have hfin : Ext [ln, a, dx] s { sC with heap := hE, toks := tkE } := by
      refine ext_end (H := [fa, da, ln, a, dx, 140, 147]) (s' := { sC with heap := hE, toks := tkE }) (hg ▸ FE) ?_ ?_ (fun g0 => yC.gens (y13.gens g0)) (yC.os.trans y13.os)
      · exact al1 (.inr (.inr fun o e => by rw [← e, X.fa_]; exact Ufa)) (al1 (.inr (.inr fun o e => by rw [← e, hda0]; exact Uda)) (al1 (.inl (.head _)) (al1 (.inl (.tail _ (.head _))) (al1 (.inl (.tail _ (.tail _ (.head _)))) (al1 (.inr (.inl (.head _))) (al1 (.inr (.inl (.tail _ (.head _)))) al0))))))
      · refine al1 (fun ps e => ?_) (al1 (fun ps e => ?_) al0)
        · obtain ⟨m1, q1⟩ := y13.tab 140 (.head _) ps e
          have hpa : pa = ps ++ m1 := by
            have := ea1.symm.trans q1.1
            simp only [Option.some.injEq, Obj.mk.injEq, Data.fields.injEq, true_and, and_true] at this
            exact this
          exact ⟨m1 ++ mA, by rw [← Array.append_assoc, ← hpa]; exact ⟨U140, cA.2⟩⟩
        · obtain ⟨m1, q1⟩ := y13.tab 147 (.tail _ (.head _)) ps e
          have hpb : pb = ps ++ m1 := by
            have := eb1.symm.trans q1.1
            simp only [Option.some.injEq, Obj.mk.injEq, Data.fields.injEq, true_and, and_true] at this
            exact this
          exact ⟨m1 ++ mB, by rw [← Array.append_assoc, ← hpb]; exact ⟨U147, cB.2⟩⟩
    have hfmt : FmtAt w.params hE fa da ln a dx mx (rows ++ [textOf parts]) [(f, y)] := ⟨Ufa, ⟨tk5, n10, Uda⟩, rows_push e3 Uln, ⟨_, _, _, _, _, ⟨xE.at_, xE.dx_⟩, push_parts (vs := #[]) (parts := []) ⟨rfl, fun _ => 0, fun _ => 0, fun _ => 0, fun j hj => absurd hj (Nat.not_lt_zero _)⟩ Uq⟩, X.lo, X.ap⟩
    have hend := hQ2 hgt { sC with heap := hE, toks := tkE } hfin hfmt
    refine wpAny_execs_nil ?_
    dsimp only
    first | exact hend | (refine wpAny_execs_nil ?_; exact hend)
  · exact hQ1 (by omega) _ ⟨y13.keep, y13.tab, y13.gens, y13.os⟩ X3
end


section
variable {prog : Program} {w : World} {A : Around} {E : Value → Shared → Prop} {s : Shared} {a dx : Addr} {vs : Array Value} {n n' : Nat} {es : List DictEntry}
theorem push_hd {w : World} : hasDictIn (Mine.hd.heap_1 w.params) 178 = true := by k_is
theorem push_get {w : World} : specialIn (Mine.hd.heap_1 w.params) (.ref 122) "__get__" = some (some (.builtin "function.__get__")) := by k_is
theorem push_takes {w : World} : takesIn (Mine.hd.heap_1 w.params) (.ref 122) = some false := by k_is
theorem acc_bound {e : Bool} {Q : Value → Shared → Prop} (X : (Mine.hd.heap_1 w.params).In s.heap) (x : AccP w.params s.heap a dx vs n es n') (hl : getL "push" es = some none)
    (h : Q (.ref s.heap.objs.size) { s with heap := s.heap.push (methodObj (.ref 122) (.ref a)), toks := s.toks + 1 }) : wpAny (model prog w) A (getAttr (.ref a) "push" e) Q E s := by
  have hf : findObj (Mine.hd.heap_1 w.params) 178 (some (dictOf es n')) "push" = some (.bind (.builtin "function.__get__") (.ref 122)) :=
    findObj_fn push_hd f_push push_get push_takes (by decide +kernel) (by show lookIn "push" (dictOf es n') = _; rw [lookIn_dict, hl])
  have L1 := looks_findIn (M := model prog w) X (f_ga (w := w))
  have L2 := looks_findIn (M := model prog w) X (f_gat (w := w))
  have L3 := looks_find (M := model prog w) X x.inst hf
  have Li := acc_listP (M := model prog w) X x
  obtain ⟨hh, g, d, t, os⟩ := s
  have L0 := x.inst.type (M := model prog w)
  unfold getAttr getAttrBy
  refine wpAny_bind (wpAny_mkText (wpAny_holding (wpAny_bind (L0.at (wpAny_bind (L1.at ?_))))))
  show wpAny _ _ (getAttrByItsOwn _ _ _ _ _ _) _ _ _
  unfold getAttrByItsOwn
  refine wpAny_bind (m := hookBefore (.ref 178)) (L2.at ?_)
  refine wpAny_bind (wpAny_attempt (wpAny_holding ?_))
  unfold callGetattribute
  rw [show (e && onTheHeap (.builtin "list.__getattribute__")) = false from by cases e <;> rfl, if_neg (by decide)]
  unfold boundAndCalled
  refine wpAny_bind (wpAny_of_eq (slot_list_ga.bind _) ?_)
  refine wpAny_call (codeAny_call_builtin slot_list_ga.plain entry_list_ga (@check_slot (model prog w) _ _ _ "list.__getattribute__" "list" "__getattribute__" (.ref a) [.str "push" t] [] _ kind_list_ga split_list_ga Li (args_list_ga _ _) ?_))
  unfold Builtin.«object.__getattribute__»
  refine wpAny_bind (wpAny_of_eq (a := (.ref a, [.str "push" t])) rfl ?_)
  refine wpAny_bind (wpAny_pure ?_)
  refine wpAny_bind (L0.at (wpAny_bind (L3.at ?_)))
  show wpAny _ _ (Builtin.ObjectAttr.bindTo _ _ _ _) _ _ _
  unfold Builtin.ObjectAttr.bindTo
  show wpAny _ _ (holding [.ref 122] (call (.builtin "function.__get__") [.ref 122, .ref a, .ref 178]) >>= ret) _ _ _
  refine wpAny_bind (wpAny_holding (wpAny_call (fn_get (s := ⟨hh, g, d, t + 1, os⟩) X t_push ?_)))
  refine wpAny_pure ?_
  exact handed_on rfl h
end
section
variable {prog : Program} {w : World} {A : Around} {E : Value → Shared → Prop} {s : Shared} {a dx : Addr} {vs : Array Value} {n n' : Nat} {es : List DictEntry}
theorem acc_bound2 {e : Bool} {Q : Value → Shared → Prop} (X : (Mine.hd.heap_1 w.params).In s.heap) (x : AccP w.params s.heap a dx vs n es n') (hl : getL "push" es = some none)
    (h : ∀ q h' tk, h'.get? q = some (methodObj (.ref 122) (.ref a)) → s.heap.objs.size ≤ q → (∀ b o, s.heap.get? b = some o → h'.get? b = some o) → Q (.ref q) { s with heap := h', toks := tk }) : wpAny (model prog w) A (getAttr (.ref a) "push" e) Q E s :=
  acc_bound X x hl (h _ _ _ (Heap.get?_push_size _ rfl) (Nat.le_refl _) fun _ _ e => Heap.get?_push_of_some _ e)
end
section
variable {M : Model} {A : Around} {E : Value → Shared → Prop} {s : Shared} {env : Env} {pos apos p : Pos} {Q : Value → Shared → Prop}
theorem star_call {o e : Expr} {name : Str} (h : wpAny M A (eval o env) (fun ov s₁ => wpAny M A (getAttr ov name true) (fun f s₂ => wpAny M A (callWith pos f [] (backTo pos (starEach [.Starred e p] env)) []) Q E s₂) E s₁) E s)
    (hb : attributeBase o name env (eval o env) = eval o env := by rfl) : wpAny M A (eval (.Call (.Attribute o name apos) [.Starred e p] [] pos) env) Q E s := by
  rw [arm_eval_Call, hb]
  refine wpAny_bind (wpAny_mono h (fun ov s₁ h₁ => wpAny_bind (wpAny_standAt ?_)) fun _ _ x => x)
  show wpAny M A (holding [ov] (getAttr ov name true >>= fun v => pure (v, [])) >>= fun fx => callWith pos fx.1 fx.2 (backTo pos (starEach [.Starred e p] env)) []) Q E s₁
  exact wpAny_bind (wpAny_holding (wpAny_bind (wpAny_mono h₁ (fun v s₂ h₂ => wpAny_pure h₂) fun _ _ x => x)))
theorem callWith_SM {K : Frag} {q g : Addr} {self : Value} {first : List Value} {e : Expr} (hf : fnIn K g = true) (h : wpAny M A (eval e env) (fun v s₁ => StarOf M A E v (fun vs s₂ => MethP K q g self s₂.heap ∧ wpAny M A (call (.ref q) (first ++ vs)) Q E s₂) s₁) E s)
    (he : starEach [.Starred e p] env = [(true, eval e env)] := by rfl) :
    wpAny M A (callWith pos (.ref q) first (backTo pos (starEach [.Starred e p] env)) []) Q E s := by
  rw [he]
  exact ks_call rfl (keeps_M hf) (ks_lone h)
end
section
variable {w : World} {A : Around} {s : Shared} {mg mb : Str → Option Value} {prog : Program} {Q : Value → Shared → Prop} {E : Value → Shared → Prop}
  {a dx : Addr} {vs : Array Value} {n n' : Nat} {es : List DictEntry}
set_option maxHeartbeats 4000000 in
theorem push_raw (O : Ok w mg mb s.heap) (hd : A.depth + 1 < recursionLimit) (x : AccP w.params s.heap a dx vs n es n') (he : accE w.params es) (h1 : 240 ≤ a) (h2 : 240 ≤ dx) (hne : dx ≠ a) (hz : vs.size ≤ 1000) (f y : Str) (tf ty : Tok)
    (hQ : ∀ h' tk n1 q, AccP w.params h' a dx (vs.push (.ref q)) n1 es n' → h'.get? q = some { cls := .type "tuple", data := .seq #[.str f tf, .str y ty] } → s.heap.get? q = none → Kept [a] s.heap h' → Q .none { s with heap := h', toks := tk }) :
    codeAny (model prog w) A (.call (.ref 122) ⟨[.ref a, .str f tf, .str y ty], []⟩) (fun r s' => ∃ v, r = .ok (.ret v) ∧ Q v s') s := by
  refine rawCall [a, dx] (binds := [("self", .ref a), ("fws", .str f tf), ("string", .str y ty)]) O (by k_is) (by k_is) (by omega) (BindsTo.of_eq rfl) (locs rfl) (hide2 h1 h2) (fun g L' h₁ hg hL F' X' T' hk => ?_)
  have N : News g L' h₁ [(a, accObj dx vs n), (dx, dictOf es n')] := hg ▸ news2 hk x.at_ x.dx_ (by simp) (by simp) hL
  repeat' (((fail_if_success with_reducible refine gdG ?_); ((fail_if_success with_reducible first | refine gdW ?_ | refine gdF ?_ | refine gdL ?_ | refine gdT ?_ | refine gdC ?_ | refine gdM (by decide) ?_ | show PySem.wpAt _ _ _ _ _ _ _); first | walk1 | (dsimp only; walk1))))
  refine acc_method (X'.keeps F'.keep) ⟨(N _ (.head _)).1, (N _ (.tail _ (.head _))).1⟩ f_append t_append rfl (by rcases he with rfl | ⟨_, _, rfl⟩ <;> rfl) ?_
  repeat' (((fail_if_success with_reducible first | refine gdW ?_ | refine gdF ?_ | refine gdL ?_ | refine gdT ?_ | refine gdC ?_ | refine gdM (by decide) ?_ | show PySem.wpAt _ _ _ _ _ _ _); first | walk1 | (dsimp only; walk1)))
  with_reducible rename Fr _ _ _ _ => F2
  with_reducible rename News _ _ _ _ => N2
  refine acc_append (X'.keeps F2.keep) ⟨(N2 _ (.tail _ (.head _))).1, (N2 _ (.tail _ (.tail _ (.head _)))).1⟩ hz (fun h' n1 e1 e2 => ?_)
  have ha := (N2 _ (.tail _ (.head _))).2
  have hD := N2 _ (.head _)
  have hd2 := (N2 _ (.tail _ (.tail _ (.head _)))).1
  dsimp only at ha hD hd2
  have hl := ‹a < _ ∧ dx < _›
  have F3 := fr_same F2 e2 ha.1 ha.2
  refine wpAny_execs_nil (hQ _ _ _ _ ⟨e1, (e2.2 _ hne).trans hd2⟩ ((e2.2 _ (Nat.ne_of_gt hl.1)).trans hD.1) (hide_none (hg ▸ hD.2.2) (by simp only [List.mem_cons, List.not_mem_nil, or_false, not_or]; exact ⟨Nat.ne_of_gt hl.1, Nat.ne_of_gt hl.2⟩)) ?_)
  exact kept_of (hg ▸ F3.keep) x.dx_ ((e2.2 _ hne).trans hd2)
end
theorem fn_push {w : World} : fnIn (Mine.hd.heap_1 w.params) 122 = true := by k_is


section
open Builtin
variable {prog : Program} {w : World} {A : Around} {E : Value → Shared → Prop} {s : Shared}
theorem set_last {l : Addr} {its : Array Value} {n : Nat} {t : Tok} {v : Value} {Q : Unit → Shared → Prop} (ho : s.heap.get? l = some { cls := .type "list", data := .seq its n }) (hn : 0 < its.size)
    (hQ : ∀ h', (∃ n', h'.get? l = some { cls := .type "list", data := .seq (its.setIfInBounds (its.size - 1) v) n' }) → Heap.SameBut l s.heap h' → Q () { s with heap := h' }) :
    wpAny (model prog w) A (setItem (.ref l) (.int (-1) t) v) Q E s := by
  have hl : s.heap.IsList l its := ⟨_, ho, rfl, n, rfl⟩
  have hd : ({ cls := .type "list", data := .seq its n } : Obj).data = .seq its n := rfl
  unfold setItem
  try with_reducible refine wpAny_holding ?_
  first | refine wpAny_bind (wpAny_pure ?_) | skip
  refine wpAny_bind (wpAny_sequenceKey hl.typeIs (by decide) ?_)
  refine wpAny_bind (wpAny_callSpecial?_slot (name := Str.ofString "__setitem__") hl.typeIs slot_list_setitem
    (wpAny_call_entry slot_list_setitem hl.typeIs entry_list_setitem ?_ (args_list_setitem _ _ _)))
  show wpAny _ _ (Builtin.List.listSubscript? (.int (-1) t) >>= _) _ _ s
  refine wpAny_bind (wpAny_listSubscript_int (fitsIndex_neg (by decide) (by decide)) ?_)
  have hidx : seqIndex? (-1) its.size = some (its.size - 1) := by rw [seqIndex_neg (by decide) (by omega)]; congr 1; omega
  have hx' : its[its.size - 1]? = some its[its.size - 1] := Array.getElem?_eq_getElem (by omega)
  show wpAny _ _ ((Builtin.List.listItems (.ref l) >>= fun xs => pure ((seqIndex? (Int.negSucc 0) xs.size).bind fun i => xs[i]?.map (i, ·))) >>= _) _ _ s
  refine wpAny_bind (wpAny_bind ?_)
  show wpAny _ _ (seqItems? (.ref l) >>= _) _ _ s
  refine wpAny_bind (wpAny_seqItems ho hd (wpAny_pure (wpAny_pure ?_)))
  rw [show (Int.negSucc 0) = -1 from rfl, hidx]
  simp only [Option.bind_some, hx', Option.map_some]
  show wpAny _ _ (setSeqItemAt l (its.size - 1) v >>= _) _ _ s
  obtain ⟨n', hd'⟩ := Obj.data_mapSeq hd (·.setIfInBounds (its.size - 1) v)
  have hfin : (s.heap.update l (Obj.mapSeq (·.setIfInBounds (its.size - 1) v))).get? l = some (Obj.mapSeq (·.setIfInBounds (its.size - 1) v) { cls := .type "list", data := .seq its n }) := Heap.get?_update_self _ ho (Obj.isFreed_of_seq hd')
  refine wpAny_bind (wpAny_setSeqItemAt ho hd ?_)
  first
    | exact wpAny_bind (wpAny_pure (wpAny_pure ⟨.none, rfl, wpAny_pure (hQ _ ⟨_, hfin⟩ (Heap.SameBut.update ..))⟩))
    | exact wpAny_pure ⟨.none, rfl, wpAny_pure (hQ _ ⟨_, hfin⟩ (Heap.SameBut.update ..))⟩
end
theorem set_last_obj (l : List (Str × Tok)) (p : Str × Tok) (x : Str) (t : Tok) : (strValues (l ++ [p])).toArray.setIfInBounds ((strValues (l ++ [p])).toArray.size - 1) (.str x t) = (strValues (l ++ [(x, t)])).toArray := by
  apply Array.ext'
  simp [strValues]


inductive CellInv (s s' : Shared) (L' cl : Addr) (i : Nat) : Prop
  | mk (h : Heap) (tk : Nat) (m : Str → Option Value) (c : Nat → Int) (t : Nat → Tok) (n : Nat) (q0 : s' = { s with heap := h, toks := tk }) (q1 : Fr s.heap L' h m) (q2 : m "cells" = some (.ref cl)) (q3 : h.get? cl = some { cls := .type "list", data := .seq #[.int (c 0) (t 0), .int (c 1) (t 1), .int (c 2) (t 2), .int (c 3) (t 3), .int (c 4) (t 4)] n })
      (q4 : ∀ j, j < 5 → 0 ≤ c j ∧ c j ≤ 108 + (i : Nat) * 1000000) : CellInv s s' L' cl i
section
variable {b : Bool} {prog : Program} {w : World} {A : Around} {s : Shared} {env : Env}
theorem loopT {I : Addr} {fp wr : List Addr} {n : Nat} {P Md : Nat → Value → Heap → Prop} {St : Nat → Heap → Prop} {target : Expr} {body : List Stmt} {Q : Flow → Shared → Prop}
    (W : KTurns prog w A target I fp wr n P Md St) (Inv : Nat → Shared → Prop) (hI : Inv 0 s) (hst : St 0 s.heap)
    (step : ∀ i v s h' tk, i < n → P i v h' → Inv i s → Kept wr s.heap h' → St (i + 1) h' →
      wpAny (model prog w) A (assign target env v) (fun _ s₂ => wpN b (model prog w) A (execs body env) (Turn (fun s₃ => Inv (i + 1) s₃ ∧ St (i + 1) s₃.heap) Q) NoE s₂) NoE { s with heap := h', toks := tk })
    (done : ∀ s h' tk, Inv n s → Kept wr s.heap h' → Q .next { s with heap := h', toks := tk }) :
    codeN b (model prog w) A (.forLoop target (.ref I) body [] env) (fun r s' => match r with | .ok f => Q f s' | .error e => cameBackBy (model prog w) A env NoE e s') s := by
  refine codeN_loop rfl rfl (fun k s => ∃ i, i ≤ n ∧ k = n - i ∧ Inv i s ∧ St i s.heap) (fun k s hI => ?_) n ⟨0, Nat.zero_le _, rfl, hI, hst⟩
  refine hideG (fun Gz hGz => ?_)
  obtain ⟨i, hi, rfl, hI, hst⟩ := hI
  refine hGz ?_
  clear hGz Gz
  show wpN b _ _ ((forTurn target (.ref I) body [] env).onRaise (fun x => do noteFrame x env; theTreesLotGoes x)) _ _ s
  refine wpN_onRaise (wpN_mono (E := NoE) ?_ (fun _ _ q => q) fun _ _ e => e.elim)
  simp only [forTurn]
  refine wpN_bindA (wpAny_standAt (wpN_bindA (wpAny_onRaise ?_)))
  rcases Nat.lt_or_eq_of_le hi with hlt | rfl
  · refine W.item i s _ _ hlt hst fun v h' tk hM hk => ?_
    refine wpN_bindA (W.go i v _ _ _ hM fun h2 hP st' hk2 => ?_)
    refine wpN_bindA (wpAny_mono (step i v s h2 tk hlt hP hI (fun b o hb e => hk2 b o hb (hk b o hb e)) st') (fun _ s₂ h₂ => wpN_bind (wpN_mono h₂ (fun f s₃ h₃ => ?_) fun _ _ h' => h')) fun _ _ h' => h')
    cases f with
    | next => exact wpN_any (wpAny_pure (.inl ⟨rfl, n - (i + 1), by omega, i + 1, hlt, rfl, h₃⟩))
    | cont => exact wpN_any (wpAny_pure (.inl ⟨rfl, n - (i + 1), by omega, i + 1, hlt, rfl, h₃⟩))
    | brk => exact wpN_any (wpAny_pure h₃)
    | ret v => exact wpN_any (wpAny_pure h₃)
  · refine W.done s _ _ hst fun h' tk hk => ?_
    exact wpN_any (wpAny_pure (.inr ⟨rfl, codeN_any (codeAny_block (wpAny_execs_nil (done s h' tk hI hk)))⟩))
theorem forT {target iter : Expr} {body : List Stmt} {pos : Pos} {Q : Flow → Shared → Prop}
    (h : wpN b (model prog w) A (eval iter env) (fun x s₁ => wpAny (model prog w) A (pyIter x) (fun it s₂ => ∃ (I : Addr) (fp wr : List Addr) (n : Nat) (P Md : Nat → Value → Heap → Prop) (St : Nat → Heap → Prop) (Inv : Nat → Shared → Prop),
      it = .ref I ∧ KTurns prog w A target I fp wr n P Md St ∧ Inv 0 s₂ ∧ St 0 s₂.heap ∧
      (∀ i v s h' tk, i < n → P i v h' → Inv i s → Kept wr s.heap h' → St (i + 1) h' →
        wpAny (model prog w) A (assign target env v) (fun _ s₂ => wpN b (model prog w) A (execs body env) (Turn (fun s₃ => Inv (i + 1) s₃ ∧ St (i + 1) s₃.heap) Q) NoE s₂) NoE { s with heap := h', toks := tk }) ∧
      (∀ s h' tk, Inv n s → Kept wr s.heap h' → Q .next { s with heap := h', toks := tk })) NoE s₁) NoE s)
    (hs : ∀ x, foldedSetIterable iter env x = pure x := by intro _; rfl) :
    wpN b (model prog w) A (exec (.For target iter body [] pos) env) Q NoE s := by
  refine wpN_For (wpN_mono h (fun x s₁ h₁ => wpAny_mono h₁ (fun it s₂ h₂ => ?_) fun _ _ e => e) fun _ _ e => e) hs
  refine hideG (fun Gz hGz => ?_)
  obtain ⟨I, fp, wr, n, P, Md, St, Inv, rfl, W, hI, hst, step, done⟩ := h₂
  refine hGz ?_
  clear hGz Gz
  exact loopT W Inv hI hst step done
theorem forTA {target iter : Expr} {body : List Stmt} {pos : Pos} {Q : Flow → Shared → Prop}
    (h : wpAny (model prog w) A (eval iter env) (fun x s₁ => wpAny (model prog w) A (pyIter x) (fun it s₂ => ∃ (I : Addr) (fp wr : List Addr) (n : Nat) (P Md : Nat → Value → Heap → Prop) (St : Nat → Heap → Prop) (Inv : Nat → Shared → Prop),
      it = .ref I ∧ KTurns prog w A target I fp wr n P Md St ∧ Inv 0 s₂ ∧ St 0 s₂.heap ∧
      (∀ i v s h' tk, i < n → P i v h' → Inv i s → Kept wr s.heap h' → St (i + 1) h' →
        wpAny (model prog w) A (assign target env v) (fun _ s₂ => wpAny (model prog w) A (execs body env) (Turn (fun s₃ => Inv (i + 1) s₃ ∧ St (i + 1) s₃.heap) Q) NoE s₂) NoE { s with heap := h', toks := tk }) ∧
      (∀ s h' tk, Inv n s → Kept wr s.heap h' → Q .next { s with heap := h', toks := tk })) NoE s₁) NoE s)
    (hs : ∀ x, foldedSetIterable iter env x = pure x := by intro _; rfl) :
    wpAny (model prog w) A (exec (.For target iter body [] pos) env) Q NoE s := by
  refine wpN_false (forT (wpN_any (wpAny_mono h (fun x s₁ h₁ => wpAny_mono h₁ (fun it s₂ h₂ => ?_) fun _ _ e => e) fun _ _ e => e)) hs)
  refine hideG (fun Gz hGz => ?_)
  obtain ⟨I, fp, wr, n, P, Md, St, Inv, rfl, W, hI, hst, step, done⟩ := h₂
  refine hGz ?_
  clear hGz Gz
  exact ⟨I, fp, wr, n, P, Md, St, Inv, rfl, W, hI, hst, fun i v s h' tk h1 h2 h3 h4 h5 => wpAny_mono (step i v s h' tk h1 h2 h3 h4 h5) (fun _ _ q => wpN_any q) fun _ _ e => e, done⟩
end
section
variable {prog : Program} {w : World} {A : Around} {s : Shared} {mg mb : Str → Option Value} {Q : Value → Shared → Prop} {E : Value → Shared → Prop}
theorem cells_of {h : Heap} {D : Addr} {c0 c1 c2 c3 c4 : Int} {t0 t1 t2 t3 t4 : Tok} {n : Nat} (e : h.get? D = some { cls := .type "list", data := .seq #[.int c0 t0, .int c1 t1, .int c2 t2, .int c3 t3, .int c4 t4] n }) :
    ∃ (t : Nat → Tok) (n : Nat), h.get? D = some { cls := .type "list", data := .seq #[.int (([c0, c1, c2, c3, c4] : List Int).getD 0 0) (t 0), .int (([c0, c1, c2, c3, c4] : List Int).getD 1 0) (t 1), .int (([c0, c1, c2, c3, c4] : List Int).getD 2 0) (t 2), .int (([c0, c1, c2, c3, c4] : List Int).getD 3 0) (t 3), .int (([c0, c1, c2, c3, c4] : List Int).getD 4 0) (t 4)] n } :=
  ⟨fun i => ([t0, t1, t2, t3, t4] : List Nat).getD i 0, n, e⟩
theorem enum_it {l : Addr} {items : Array Value} {K : Value → Shared → Prop} (hl : s.heap.IsList l items)
    (h : ∀ (e it : Addr) h', IsEnum h' e it 0 .none → h'.IsListIter it l 0 → s.heap.objs.size ≤ it → s.heap.objs.size ≤ e → e ≠ it → (∀ b o, s.heap.get? b = some o → h'.get? b = some o) → K (.ref e) { s with heap := h' }) :
    wpAny (model prog w) A (call (.type "enumerate") [.ref l]) (fun x s₁ => wpAny (model prog w) A (pyIter x) K E s₁) E s :=
  call_enumerate_list hl (fun h3 e3 i3 z3 k3 => wpAny_pyIter_enum e3 (h _ _ h3 e3 i3 (Nat.le_refl _) (Nat.le_succ _) (Nat.succ_ne_self _) k3))
def CellsAt (h : Heap) (D : Addr) (c : Nat → Int) (B : Int) : Prop := (∃ (t : Nat → Tok) (n : Nat), h.get? D = some { cls := .type "list", data := .seq #[.int (c 0) (t 0), .int (c 1) (t 1), .int (c 2) (t 2), .int (c 3) (t 3), .int (c 4) (t 4)] n }) ∧ ∀ i, i < 5 → 0 ≤ c i ∧ c i ≤ B
set_option maxHeartbeats 4000000 in
theorem cells_wp (O : Ok w mg mb s.heap) (hd : A.depth + 1 < recursionLimit) (hh : A.handled = none) {sc : Addr} {its : Array Value} {xs : List Int} (hl : s.heap.IsList sc its) (hi : IntsAre its.toList xs) (hz : xs.length ≤ 63)
    (hQ : ∀ D c h' tk, CellsAt h' D c 100000000 → s.heap.get? D = none → (∀ b o, s.heap.get? b = some o → h'.get? b = some o) → Q (.ref D) { s with heap := h', toks := tk }) :
    wpAny (model prog w) A (call (.ref 217) [.ref sc]) Q E s := by
  refine callQ [] [("script", .ref sc)] O (by k_is) (by k_is) (by omega) (BindsTo.of_eq rfl) (locs rfl) (by simp) (fun g L' h₁ tk hg hL F' X' T' hk => ?_)
  have hg' : g = s.heap := hg
  subst hg'
  have N : News s.heap L' h₁ [] := News.nil
  repeat' (((fail_if_success with_reducible first | refine gdW ?_ | refine gdF ?_ | refine gdL ?_ | refine gdT ?_ | refine gdC ?_ | refine gdM (by decide) ?_ | show PySem.wpAt _ _ _ _ _ _ _); first | walk1 | (dsimp only; walk1)))
  refine forTA ?_
  repeat' (((fail_if_success with_reducible first | refine gdW ?_ | refine gdF ?_ | refine gdL ?_ | refine gdT ?_ | refine gdC ?_ | refine gdM (by decide) ?_ | show PySem.wpAt _ _ _ _ _ _ _); first | walk1 | (dsimp only; walk1)))
  with_reducible rename Fr _ _ _ _ => F2
  with_reducible rename News _ _ _ _ => N2
  with_reducible rename IntsAre _ (List.take 60 xs) => I2
  rename_i cl h0 l10 h01 D ws h02 hC hLx l1
  have ND := N2 _ (.head _)
  have NC := N2 _ (.tail _ (.head _))
  clear hi hl
  refine enum_it ⟨_, ND.1, rfl, _, rfl⟩ (fun e it h3 e3 i3 z1 z2 z3 k3 => ?_)
  have F3 := fr_kept F2 k3
  have hI1 := base_ne F2 z1
  have hI0 := base_none F2 z1
  have hE1 := base_ne F2 z2
  have hE0 := base_none F2 z2
  have hlD := Heap.lt_size ND.1
  have hlC := Heap.lt_size NC.1
  have hDk := k3 _ _ ND.1
  have hCk := k3 _ _ NC.1
  dsimp only at hlD hlC hDk hCk
  obtain ⟨tc, nc, hCk⟩ := cells_of hCk
  refine ⟨_, _, _, _, _, _, _, fun i s' => CellInv s s' L' cl i, rfl,
    KTurns.ofWalksU (WalksT.enumerate (A := A.deeper _) hh e it _ z3 (Nat.ne_of_lt (Nat.lt_of_lt_of_le hlD z2)) (Nat.ne_of_lt (Nat.lt_of_lt_of_le hlD z1)) _).toU, ⟨h3, _, _, fun j => [108, 1, 5, 2, 3].getD j 0, tc, nc, rfl, F3, rfl, hCk, ?_⟩, ⟨⟨_, e3⟩, i3, ⟨_, hDk, rfl, _, rfl⟩⟩, ?_, ?_⟩
  · intro j hj
    rcases j with _ | _ | _ | _ | _ | j
    all_goals first | (simp; done) | omega
  · rintro i v s' h4 tk4 hlt ⟨T, vals, rfl, ⟨t4, x, ex, rfl⟩, hT⟩ ⟨h5, tk5, m, c, t, n, rfl, F5, e1, e2, e6⟩ k5 st5
    refine hideTA fun R hR => ?_
    refine hideG (fun Gz hGz => ?_)
    obtain ⟨⟨old, g1⟩, g2, g3⟩ := st5
    obtain ⟨oi, g21, g22⟩ := g2
    obtain ⟨oD, g31, g32⟩ := g3
    have hDe : @Ne Nat D e := Nat.ne_of_lt (Nat.lt_of_lt_of_le hlD z2)
    have hDi : @Ne Nat D it := Nat.ne_of_lt (Nat.lt_of_lt_of_le hlD z1)
    have hce : @Ne Nat cl e := Nat.ne_of_lt (Nat.lt_of_lt_of_le hlC z2)
    have hci : @Ne Nat cl it := Nat.ne_of_lt (Nat.lt_of_lt_of_le hlC z1)
    have F6 : Fr s.heap L' h4 m := fr_wr F5 k5 (by simp only [List.mem_cons, List.not_mem_nil, or_false, not_or]; exact ⟨hE1.symm, hI1.symm⟩) (by simp only [List.mem_cons, List.not_mem_nil, or_false]; rintro b (rfl | rfl); exact hE0; exact hI0)
    have N6 : News s.heap L' h4 [(cl, _), (D, _), (e, _), (it, _)] := news_cons (news_cons (news_cons (news_cons News.nil g21 hI1 hI0) g1 hE1 hE0) g31 ND.2.1 ND.2.2) (k5 _ _ (by simp only [List.mem_cons, List.not_mem_nil, or_false, not_or]; exact ⟨hce, hci⟩) e2) NC.2.1 NC.2.2
    clear F5 F3 k3 hDk hCk N2 F2 k5 g1 g21 g31
    obtain ⟨kx, tx, rfl, -⟩ := I2.at i x (by simpa using ex)
    refine hGz ?_
    clear hGz Gz
    refine wpAny_assign_Tuple hh hT rfl rfl (fun h7 x7 => ?_)
    have k7 : ∀ b o, h4.get? b = some o → h7.get? b = some o := fun b o eb => x7 b o (Nat.ne_of_lt (Heap.lt_size eb)) eb
    have F7 := fr_kept F6 k7
    have N7 := news_kept N6 k7
    clear F6 N6 hT
    repeat' (((fail_if_success with_reducible first | refine gdW ?_ | refine gdF ?_ | refine gdL ?_ | refine gdT ?_ | refine gdC ?_ | refine gdM (by decide) ?_ | show PySem.wpAt _ _ _ _ _ _ _); first | walk1 | (dsimp only; walk1)))
    with_reducible rename News _ _ _ _ => N8
    with_reducible rename Fr _ _ _ _ => F8
    have M8 := (N8 _ (.head _)).1
    have M9 := (N8 _ (.tail _ (.head _))).1
    have M10 := (N8 _ (.tail _ (.tail _ (.head _)))).1
    have M11 := (N8 _ (.tail _ (.tail _ (.tail _ (.head _))))).1
    dsimp only at M8 M9 M10 M11
    obtain ⟨t8, n8, M8⟩ := cells_of M8
    refine hR _ ⟨⟨_, _, _, fun j => List.getD [_, _, _, _, _] j 0, t8, n8, rfl, F8, (if_neg (by decide)).trans ((if_neg (by decide)).trans e1), M8, ?_⟩, ⟨⟨_, by simpa using M10⟩, ⟨_, M11, g22⟩, ⟨_, M9, g32⟩⟩⟩
    have r0 : 0 ≤ Int.fmod (i : Int) 5 := Int.fmod_nonneg_of_pos _ (by omega)
    have r1 : Int.fmod (i : Int) 5 < 5 := Int.fmod_lt_of_pos _ (by omega)
    have q0 : 0 ≤ Int.fmod kx 1000000 := Int.fmod_nonneg_of_pos _ (by omega)
    have q1 : Int.fmod kx 1000000 < 1000000 := Int.fmod_lt_of_pos _ (by omega)
    generalize Int.fmod (i : Int) 5 = r at *
    generalize Int.fmod kx 1000000 = q at *
    have hr : ∃ k : Nat, r = k ∧ k < 5 := ⟨r.toNat, by omega, by omega⟩
    refine hideG (fun Gz hGz => ?_)
    obtain ⟨k, rfl, hk5⟩ := hr
    refine hGz ?_
    clear hGz Gz
    have hget : [c 0, c 1, c 2, c 3, c 4].getD ((k : Int)).toNat 0 = c k := by
      rcases k with _ | _ | _ | _ | _ | k
      all_goals first | rfl | omega
    rw [hget]
    have hck := e6 k hk5
    clear M8 M9 M10 M11
    intro j hj
    have h0 := e6 j hj
    rcases j with _ | _ | _ | _ | _ | j
    all_goals first | omega | (simp only [List.getD_cons_zero, List.getD_cons_succ, Nat.zero_add, Nat.reduceAdd] at h0 ⊢; split <;> omega)
  · rintro s' h4 tk4 ⟨h5, tk5, m, c, t, n, rfl, F5, e1, e2, e6⟩ k5
    have hce : @Ne Nat cl e := Nat.ne_of_lt (Nat.lt_of_lt_of_le hlC z2)
    have hci : @Ne Nat cl it := Nat.ne_of_lt (Nat.lt_of_lt_of_le hlC z1)
    have F6 : Fr s.heap L' h4 m := fr_wr F5 k5 (by simp only [List.mem_cons, List.not_mem_nil, or_false, not_or]; exact ⟨hE1.symm, hI1.symm⟩) (by simp only [List.mem_cons, List.not_mem_nil, or_false]; rintro b (rfl | rfl); exact hE0; exact hI0)
    have N6 : News s.heap L' h4 [(cl, _)] := news_cons News.nil (k5 _ _ (by simp only [List.mem_cons, List.not_mem_nil, or_false, not_or]; exact ⟨hce, hci⟩) e2) NC.2.1 NC.2.2
    clear F5 F3 k3 hDk hCk N2 F2
    dsimp only
    repeat' (((fail_if_success with_reducible first | refine gdW ?_ | refine gdF ?_ | refine gdL ?_ | refine gdT ?_ | refine gdC ?_ | refine gdM (by decide) ?_ | show PySem.wpAt _ _ _ _ _ _ _); first | walk1 | (dsimp only; walk1)))
    with_reducible rename News _ _ _ _ => N8
    with_reducible rename Fr _ _ _ _ => F8
    have hw : (ws.toArray.size : Int) ≤ 60 := by
      have := I2.length
      simp only [List.size_toArray]
      omega
    refine hQ cl c _ _ ⟨⟨t, n, (N8 _ (.head _)).1⟩, fun j hj => ?_⟩ NC.2.2 F8.keep
    have := e6 j hj
    omega
end


section
variable {prog : Program} {w : World} {A : Around} {h₀ : Heap} {L : Addr} {m : Str → Option Value} {env : Env} {elt : Expr} {x : Str} {scope : Scope} {cl : List (Str × Addr)} {s : Shared} {S : List (Addr × Obj) → Prop} {P : Nat → Value → Prop} {Fin : List Value → List (Addr × Obj) → Prop} {news : List (Addr × Obj)}
/-- a comprehension's turns by an invariant on the items made and the ledger -/
theorem kcg {n : Nat} (J : Nat → List Value → List (Addr × Obj) → Prop) (h0 : J 0 [] news)
    (turn : ∀ i ys nw v I oI C oC D m₂ h tk (E' : Value → Shared → Prop), i < n → P i v → J i ys nw → LCg.NsObj oC m₂ → m₂ x = some v → Fr h₀ L h m → News h₀ L h ((I, oI) :: (C, oC) :: (D, LCg.lst ys) :: nw) → LCg.Off3 I C D nw → ((@Ne Nat I C) ∧ (@Ne Nat I D) ∧ (@Ne Nat C D)) →
      wpAny (model prog w) A (eval elt (compEnvC scope cl C env)) (LCg.CompEnd h₀ L m { s with heap := h, toks := tk } I oI C oC D (LCg.lst ys) S (fun y nw' => J (i + 1) (ys ++ [y]) nw')) E' { s with heap := h, toks := tk })
    (fin : ∀ ys nw, J n ys nw → Fin ys nw) : LCg.CompRest prog w A h₀ L m env elt x scope cl s S P Fin n 0 [] news := by
  have key : ∀ (j i : Nat) (ys : List Value) (nw : List (Addr × Obj)), i + j = n → J i ys nw → LCg.CompRest prog w A h₀ L m env elt x scope cl s S P Fin j i ys nw := by
    intro j
    induction j with
    | zero =>
      intro i ys nw hi hy
      obtain rfl : i = n := by omega
      exact LCg.CompRest.zero (fin ys nw hy)
    | succ j ih =>
      intro i ys nw hi hy
      refine LCg.CompRest.succ ?_
      intro v I oI C oC D m₂ h tk E' hv hC hx F N off ne
      refine wpAny_mono (turn i ys nw v I oI C oC D m₂ h tk E' (by omega) hv hy hC hx F N off ne) (fun y s₂ hq => ?_) fun _ _ e => e
      obtain ⟨h', tk', nw', e, F', N', off', hS, hJ⟩ := hq
      exact ⟨h', tk', nw', e, F', N', off', hS, ih (i + 1) _ _ (by omega) hJ⟩
  exact key n 0 [] news (by omega) h0
theorem cend {rest : Value → List (Addr × Obj) → Prop} {I C D : Addr} {oI oC : Obj} {ys : List Value} {y : Value} {h h' : Heap} {tk tk' : Nat} {nw : List (Addr × Obj)} (F : Fr h₀ L h m) (N : News h₀ L h ((I, oI) :: (C, oC) :: (D, LCg.lst ys) :: nw)) (off : LCg.Off3 I C D nw) (hS : S nw)
    (k : ∀ b o, h.get? b = some o → h'.get? b = some o) (r : rest y nw) : LCg.CompEnd h₀ L m { s with heap := h, toks := tk } I oI C oC D (LCg.lst ys) S rest y { s with heap := h', toks := tk' } :=
  ⟨h', tk', nw, rfl, fr_kept F k, news_kept N k, off, hS, r⟩
end
section
variable {prog : Program} {w : World} {A : Around} {E : Value → Shared → Prop} {R : Result → Shared → Prop} {s : Shared}
noncomputable abbrev LC2 (elt t1 it1 t2 it2 : Expr) (scope : Scope) (pos : Pos) : Expr := .ListComp elt [⟨t1, it1, [], 0⟩, ⟨t2, it2, [], 0⟩] scope pos
theorem compTurn_two0 (elt t1 it1 t2 it2 : Expr) (scope : Scope) (pos : Pos) (it acc : Value) (env : Env) :
    compTurn (LC2 elt t1 it1 t2 it2 scope pos) 0 it acc env = (standAt it1.pos >>= fun _ => pyNext it >>= fun r => match r with
      | none => pure (.done .next)
      | some v => letOwnedTupleGo t1 it v >>= fun _ => assign t1 env v >>= fun _ =>
        (eval it2 env >>= fun x => standAt it2.pos >>= fun _ => foldedSetIterable it2 env x >>= fun x => holding [x] (pyIter x) >>= fun i2 => runOwn (.compStart (LC2 elt t1 it1 t2 it2 scope pos) 1 i2 acc env) env >>= fun _ =>
          again (.compLoop (LC2 elt t1 it1 t2 it2 scope pos) 0 it acc env))) := by rfl
theorem compTurn_two1 (elt t1 it1 t2 it2 : Expr) (scope : Scope) (pos : Pos) (it acc : Value) (env : Env) :
    compTurn (LC2 elt t1 it1 t2 it2 scope pos) 1 it acc env = (standAt it2.pos >>= fun _ => pyNext it >>= fun r => match r with
      | none => pure (.done .next)
      | some v => letOwnedTupleGo t2 it v >>= fun _ => assign t2 env v >>= fun _ =>
        (eval elt env >>= fun x => call (.builtin "list.append") [acc, x] >>= fun _ => pure ()) >>= fun _ =>
          again (.compLoop (LC2 elt t1 it1 t2 it2 scope pos) 1 it acc env)) := by rfl
theorem start_two1 {elt t1 it1 t2 it2 scope pos it acc env}
    (h0 : codeAny (model prog w) A (.compLoop (LC2 elt t1 it1 t2 it2 scope pos) 1 it acc env) R s)
    (h : wpAny (model prog w) A (pyIter it) (fun it' s' => codeAny (model prog w) A (.compLoop (LC2 elt t1 it1 t2 it2 scope pos) 1 it' acc env) R s')
      (notedBy (model prog w) A env fun x s' => R (.error x) s') s) :
    codeAny (model prog w) A (.compStart (LC2 elt t1 it1 t2 it2 scope pos) 1 it acc env) R s := by
  refine codeAny_of_tree ?_
  show wpAny _ _ ((compStart (LC2 elt t1 it1 t2 it2 scope pos) 1 it acc env).onRaise (fun x => do noteFrame x env; standAt theWindowsPlace)) _ _ s
  refine wpAny_notedAt ?_
  unfold compStart
  show wpAny _ _ (ask >>= _) _ _ s
  refine wpAny_bind (wpAny_askSetting (wpAny_ite ?_))
  split
  · first
      | exact wpAny_bind (wpAny_pure (wpAny_pure (And.intro rfl h0)))
      | exact wpAny_pure (And.intro rfl h0)
  · first
      | exact wpAny_bind (wpAny_rule (wpAny_bind (wpAny_standAt (wpAny_bind (wpAny_mono h (fun it' s' h' => wpAny_pure (And.intro rfl h')) fun _ _ x => x)))))
      | (refine wpAny_bind (wpAny_rule ?_); show wpAny _ _ (standAt it2.pos >>= _) _ _ s; exact wpAny_bind (wpAny_standAt (wpAny_bind (wpAny_mono h (fun it' s' h' => wpAny_pure (And.intro rfl h')) fun _ _ x => x))))
theorem loop_two1 {elt t1 it1 t2 it2 : Expr} {scope : Scope} {pos : Pos} {it acc : Value} {env : Env} (I : Nat → Shared → Prop)
    (turn : ∀ n s, I n s → wpAny (model prog w) A (pyNext it) (fun r s₁ => match r with
      | none => R (.ok .next) s₁
      | some v => wpAny (model prog w) A (assign t2 env v) (fun _ s₂ => wpAny (model prog w) A (eval elt env) (fun x s₃ =>
          wpAny (model prog w) A (call (.builtin "list.append") [acc, x]) (fun _ s₄ => ∃ m, m < n ∧ I m s₄) NoE s₃) NoE s₂) NoE s₁) NoE s)
    (n : Nat) (h : I n s) (ht : ∀ v, letOwnedTupleGo t2 it v = pure () := by intro _; rfl) :
    codeAny (model prog w) A (.compLoop (LC2 elt t1 it1 t2 it2 scope pos) 1 it acc env) R s := by
  refine codeAny_loop rfl I (fun n s hI => ?_) n h
  show wpAny _ _ ((compTurn (LC2 elt t1 it1 t2 it2 scope pos) 1 it acc env).onRaise (fun x => do noteFrame x env; theTreesLotGoes x)) _ _ s
  refine wpAny_noted ?_
  rw [compTurn_two1]
  refine wpAny_bind (wpAny_standAt (wpAny_bind (wpAny_mono (turn n s hI) (fun r s₁ h₁ => ?_) fun _ _ h' => h'.elim)))
  cases r with
  | none => exact wpAny_pure h₁
  | some v =>
    refine wpAny_bind (wpAny_of_eq (ht v) ?_)
    exact wpAny_bind (wpAny_mono h₁ (fun _ s₂ h₂ => wpAny_bind (wpAny_bind (wpAny_mono h₂ (fun x s₃ h₃ => wpAny_bind (wpAny_mono h₃
      (fun _ s₄ h₄ => wpAny_pure (wpAny_pure ⟨rfl, h₄⟩)) fun _ _ h' => h'.elim)) fun _ _ h' => h'.elim))) fun _ _ h' => h'.elim)
theorem loop_two0 {elt t1 it1 t2 it2 : Expr} {scope : Scope} {pos : Pos} {it acc : Value} {env : Env} (I : Nat → Shared → Prop)
    (turn : ∀ n s, I n s → wpAny (model prog w) A (pyNext it) (fun r s₁ => match r with
      | none => R (.ok .next) s₁
      | some v => wpAny (model prog w) A (assign t1 env v) (fun _ s₂ => wpAny (model prog w) A (eval it2 env) (fun x s₃ => wpAny (model prog w) A (pyIter x) (fun i2 s₄ =>
          ∃ (I2 : Nat → Shared → Prop) (k : Nat), I2 k s₄ ∧ wpAny (model prog w) A (pyIter i2) (fun it' s' => it' = i2 ∧ I2 k s') NoE s₄ ∧ (∀ v, letOwnedTupleGo t2 i2 v = pure ()) ∧
          ∀ k s, I2 k s → wpAny (model prog w) A (pyNext i2) (fun r s₅ => match r with
            | none => ∃ m, m < n ∧ I m s₅
            | some u => wpAny (model prog w) A (assign t2 env u) (fun _ s₆ => wpAny (model prog w) A (eval elt env) (fun y s₇ =>
              wpAny (model prog w) A (call (.builtin "list.append") [acc, y]) (fun _ s₈ => ∃ m, m < k ∧ I2 m s₈) NoE s₇) NoE s₆) NoE s₅) NoE s) NoE s₃) NoE s₂) NoE s₁) NoE s)
    (n : Nat) (h : I n s) (ht : ∀ v, letOwnedTupleGo t1 it v = pure () := by intro _; rfl) (hs : ∀ x, foldedSetIterable it2 env x = pure x := by intro _; rfl) :
    codeAny (model prog w) A (.compLoop (LC2 elt t1 it1 t2 it2 scope pos) 0 it acc env) R s := by
  refine codeAny_loop rfl I (fun n s hI => ?_) n h
  show wpAny _ A ((compTurn (LC2 elt t1 it1 t2 it2 scope pos) 0 it acc env).onRaise (fun x => do noteFrame x env; theTreesLotGoes x)) _ _ s
  refine wpAny_noted ?_
  rw [compTurn_two0]
  refine wpAny_bind (wpAny_standAt (wpAny_bind (wpAny_mono (turn n s hI) (fun r s₁ h₁ => ?_) fun _ _ h' => h'.elim)))
  cases r with
  | none => exact wpAny_pure h₁
  | some v =>
    refine wpAny_bind (wpAny_of_eq (ht v) ?_)
    refine wpAny_bind (wpAny_mono h₁ (fun _ s₂ h₂ => wpAny_bind (wpAny_mono h₂ (fun x s₃ h₃ => ?_) fun _ _ h' => h'.elim)) fun _ _ h' => h'.elim)
    refine wpAny_bind (wpAny_standAt (wpAny_bind (wpAny_of_eq (hs x) (wpAny_bind (wpAny_holding (wpAny_mono h₃ (fun i2 s₄ h₄ => ?_) fun _ _ h' => h'.elim))))))
    obtain ⟨I2, k, hI2, self, ht2, turn2⟩ := h₄
    have loop : ∀ s, I2 k s → codeAny (model prog w) A (.compLoop (LC2 elt t1 it1 t2 it2 scope pos) 1 i2 acc env) (fun r s' => match r with
        | .ok _ => ∃ m, m < n ∧ I m s'
        | .error e => cameBackBy (model prog w) A env NoE e s') s := fun s hs => loop_two1 I2 turn2 k hs ht2
    refine wpAny_bind (wpAny_mono (Q := fun (_ : Flow) s' => ∃ m, m < n ∧ I m s') (E := NoE) (wpAny_runOwn (h := none) (start_two1 (loop _ hI2) (wpAny_mono self (fun it' s' q => ?_) fun _ _ q => q.elim))) (fun _ s' q => wpAny_pure ⟨rfl, q⟩) fun _ _ q => q.elim)
    obtain ⟨rfl, q⟩ := q
    exact loop _ q
end


section
variable {prog : Program} {w : World} {A : Around} {h₀ : Heap} {L : Addr} {m : Str → Option Value} {env : Env} {ct elt : Expr} {x : Str} {scope : Scope} {cl : List (Str × Addr)} {s : Shared} {S : List (Addr × Obj) → Prop} {P : Nat → Value → Prop} {Fin : List Value → List (Addr × Obj) → Prop} {news : List (Addr × Obj)}
theorem kcgT {n : Nat} (J : Nat → List Value → List (Addr × Obj) → Prop) (h0 : J 0 [] news)
    (turn : ∀ i ys nw v I oI C oC D m₂ h tk (E' : Value → Shared → Prop), i < n → P i v → J i ys nw → LCg.NsObj oC m₂ → m₂ x = some v → Fr h₀ L h m → News h₀ L h ((I, oI) :: (C, oC) :: (D, LCg.lst ys) :: nw) → LCg.Off3 I C D nw → ((@Ne Nat I C) ∧ (@Ne Nat I D) ∧ (@Ne Nat C D)) →
      wpAny (model prog w) A (isTrue ct (compEnvC scope cl C env) (eval ct (compEnvC scope cl C env))) (fun ok s' => if ok = true then
        wpAny (model prog w) A (eval elt (compEnvC scope cl C env)) (LCg.CompEnd h₀ L m { s with heap := h, toks := tk } I oI C oC D (LCg.lst ys) S (fun y nw' => J (i + 1) (ys ++ [y]) nw')) E' s'
        else LCg.CompEnd h₀ L m { s with heap := h, toks := tk } I oI C oC D (LCg.lst ys) S (fun _ nw' => J (i + 1) ys nw') Value.none s') E' { s with heap := h, toks := tk })
    (fin : ∀ ys nw, J n ys nw → Fin ys nw) : LCt.CompRestT prog w A h₀ L m env ct elt x scope cl s S P Fin n 0 [] news := by
  have key : ∀ (j i : Nat) (ys : List Value) (nw : List (Addr × Obj)), i + j = n → J i ys nw → LCt.CompRestT prog w A h₀ L m env ct elt x scope cl s S P Fin j i ys nw := by
    intro j
    induction j with
    | zero =>
      intro i ys nw hi hy
      obtain rfl : i = n := by omega
      exact LCt.CompRestT.zero (fin ys nw hy)
    | succ j ih =>
      intro i ys nw hi hy
      refine LCt.CompRestT.succ ?_
      intro v I oI C oC D m₂ h tk E' hv hC hx F N off ne
      refine wpAny_mono (turn i ys nw v I oI C oC D m₂ h tk E' (by omega) hv hy hC hx F N off ne) (fun ok s₂ hq => ?_) fun _ _ e => e
      cases ok with
      | true =>
        simp only [if_true] at hq ⊢
        refine wpAny_mono hq (fun y s₃ hq => ?_) fun _ _ e => e
        obtain ⟨h', tk', nw', e, F', N', off', hS, hJ⟩ := hq
        exact ⟨h', tk', nw', e, F', N', off', hS, ih (i + 1) _ _ (by omega) hJ⟩
      | false =>
        simp only [Bool.false_eq_true, if_false] at hq ⊢
        obtain ⟨h', tk', nw', e, F', N', off', hS, hJ⟩ := hq
        exact ⟨h', tk', nw', e, F', N', off', hS, ih (i + 1) _ _ (by omega) hJ⟩
  exact key n 0 [] news (by omega) h0
end


section
open Builtin Builtin.Str StrLaws
theorem sjoin_toList : ∀ (l : List Str), (Str.join (Str.ofString "") l).cps.toList = l.flatMap (·.cps.toList)
  | [] => by decide +kernel
  | [x] => by show x.cps.toList = _; simp
  | x :: y :: r => by
    show (x ++ Str.ofString "" ++ Str.join (Str.ofString "") (y :: r)).cps.toList = _
    have h0 : (Str.ofString "").cps = #[] := by decide +kernel
    rw [Str.cps_append, Str.cps_append, h0, Array.append_empty, Array.toList_append, sjoin_toList (y :: r)]
    rfl
theorem tjoin_toList (l : List Str) : (Txt.join (Str.ofString "") l).cps.toList = l.flatMap (·.cps.toList) := by
  unfold Txt.join
  rw [glued_eq_join]
  exact sjoin_toList l
theorem textOf_toList (ps : List (Str × Str)) : (textOf ps).cps.toList = ps.flatMap fun p => p.1.cps.toList ++ p.2.cps.toList := by
  unfold textOf
  rw [tjoin_toList, List.flatMap_map]
  congr 1
  funext p
  unfold pairOf
  rw [tjoin_toList]
  simp
theorem textOf_notspace {ps : List (Str × Str)} {p : Str × Str} {ch : Nat} (hp : p ∈ ps) (hc : ch ∈ p.2.cps.toList) (hs : Unicode.isSpace ch = false) : Txt.isspace (textOf ps) = false := by
  unfold Txt.isspace
  rw [Bool.and_eq_false_iff]
  right
  rw [Array.all_eq_false']
  refine ⟨ch, ?_, by rw [hs]; simp⟩
  rw [← Array.mem_toList_iff, textOf_toList]
  exact List.mem_flatMap.mpr ⟨p, hp, List.mem_append_right _ hc⟩
noncomputable def coreL (b : Nat) : List (List Nat) → List Nat
  | [] => []
  | [n] => n
  | n :: m :: r => n ++ (List.replicate b 32 ++ coreL b (m :: r))
theorem core_flat (b : Nat) : ∀ (n : List Nat) (r : List (List Nat)), (n :: r).flatMap (fun n => List.replicate b 32 ++ n) = List.replicate b 32 ++ coreL b (n :: r)
  | n, [] => by simp [coreL]
  | n, m :: r => by
    rw [List.flatMap_cons, core_flat b m r, coreL, List.append_assoc]
theorem core_len (b : Nat) : ∀ (n : List Nat) (r : List (List Nat)), (∀ x ∈ n :: r, x.length = 6) → (coreL b (n :: r)).length = (r.length + 1) * 6 + r.length * b
  | n, [], h => by simp [coreL, h n (by simp)]
  | n, m :: r, h => by
    have ih := core_len b m r (fun x hx => h x (List.mem_cons_of_mem _ hx))
    rw [coreL, List.length_append, List.length_append, ih, h n (by simp), List.length_replicate, List.length_cons, Nat.succ_mul (r.length + 1), Nat.succ_mul r.length b]
    omega
theorem core_head (b : Nat) (n : List Nat) (r : List (List Nat)) (h : n ≠ []) : (coreL b (n :: r)).head? = n.head? := by
  cases r with
  | nil => rfl
  | cons m r => rw [coreL]; cases n with
    | nil => exact absurd rfl h
    | cons a n => rfl
theorem core_last (b : Nat) : ∀ (n : List Nat) (r : List (List Nat)), (∀ x ∈ n :: r, x ≠ []) → ∃ x ∈ n :: r, (coreL b (n :: r)).getLast? = x.getLast?
  | n, [], _ => ⟨n, by simp, rfl⟩
  | n, m :: r, h => by
    obtain ⟨x, hx, e⟩ := core_last b m r (fun x hx => h x (List.mem_cons_of_mem _ hx))
    refine ⟨x, List.mem_cons_of_mem _ hx, ?_⟩
    rw [coreL, ← e]
    have hne : coreL b (m :: r) ≠ [] := by
      intro q
      rw [q] at e
      cases hxl : x.getLast? with
      | none => exact h x (List.mem_cons_of_mem _ hx) (List.getLast?_eq_none_iff.mp hxl)
      | some v => rw [hxl] at e; cases e
    rw [← List.append_assoc, List.getLast?_append]
    cases q : (coreL b (m :: r)).getLast? with
    | none => exact absurd (List.getLast?_eq_none_iff.mp q) hne
    | some v => rfl
theorem at_char {x y : Str} {hi k : Nat} (hy : y.cps.toList = List.replicate y.length 32) (h1 : 1 ≤ y.length) (h : At x y hi k) : (x.cps.toList.drop k).head? = some 32 := by
  obtain ⟨_, h⟩ := h
  rw [subAt_eq, hy] at h
  have h := beq_iff_eq.mp h
  have h2 := congrArg List.head? h
  obtain ⟨m, hm⟩ : ∃ m, y.length = m + 1 := ⟨y.length - 1, by omega⟩
  rw [hm, List.replicate_succ] at h2
  cases hd : x.cps.toList.drop k with
  | nil => rw [hd] at h2; simp at h2
  | cons a r => rw [hd] at h2; simpa using h2
theorem split_chain {x y : Str} (hy : y.cps.toList = List.replicate y.length 32) (hb : 1 ≤ y.length) : ∀ (cuts : List Nat) (a f : Nat) (n : List Nat) (r : List (List Nat)), (∀ z ∈ n :: r, 32 ∉ z) → x.cps.toList.drop a = coreL y.length (n :: r) → a ≤ x.length →
    ChainG x y x.length a cuts f → (∀ k, f ≤ k → ¬ At x y x.length k) → partsFrom x y.length a cuts = (n :: r).map (fun z => (⟨z.toArray⟩ : Str)) := by
  intro cuts a f n r
  induction r generalizing cuts a f n with
  | nil =>
    intro hz hd ha hc hf
    have no : ∀ k, a ≤ k → ¬ At x y x.length k := by
      intro k hk hAt
      have h1 := at_char hy hb hAt
      obtain ⟨d, rfl⟩ : ∃ d, k = a + d := ⟨k - a, by omega⟩
      rw [← List.drop_drop, hd] at h1
      have h2 : 32 ∈ n.drop d := List.mem_of_mem_head? h1
      exact hz n (by simp) (List.mem_of_mem_drop h2)
    cases cuts with
    | nil =>
      show [strSub x a x.length] = [(⟨n.toArray⟩ : Str)]
      congr 1
      apply Str.ext'
      apply Array.toList_inj.mp
      rw [strSub_toList, hd]
      have hl := congrArg List.length hd
      rw [List.length_drop] at hl
      have hxl : x.cps.toList.length = x.length := rfl
      show n.take (x.length - a) = n
      rw [List.take_of_length_le]
      have : (coreL y.length [n]).length = n.length := rfl
      omega
    | cons c rest => exact absurd hc.2.1 (no c hc.1)
  | cons m r ih =>
    intro hz hd ha hc hf
    have hdl : x.cps.toList.drop a = n ++ (List.replicate y.length 32 ++ coreL y.length (m :: r)) := hd
    have hl := congrArg List.length hdl
    rw [List.length_drop, List.length_append, List.length_append, List.length_replicate] at hl
    have hxl : x.cps.toList.length = x.length := rfl
    have no : ∀ k, a ≤ k → k < a + n.length → ¬ At x y x.length k := by
      intro k hk hk2 hAt
      have h1 := at_char hy hb hAt
      obtain ⟨d, rfl⟩ : ∃ d, k = a + d := ⟨k - a, by omega⟩
      rw [← List.drop_drop, hdl, List.drop_append_of_le_length (by omega)] at h1
      have hdn : n.drop d ≠ [] := by
        intro e
        have := congrArg List.length e
        rw [List.length_drop] at this
        simp at this
        omega
      cases q : n.drop d with
      | nil => exact hdn q
      | cons v z =>
        rw [q] at h1
        have h2 : v = 32 := by simpa using h1
        exact hz n (by simp) (List.mem_of_mem_drop (i := d) (by rw [q, h2]; simp))
    have yes : At x y x.length (a + n.length) := by
      refine ⟨by omega, ?_⟩
      rw [subAt_eq, ← List.drop_drop, hdl, List.drop_left, hy]
      rw [List.take_left' (by simp)]
      simp
    cases cuts with
    | nil =>
      have hfa : f = a := hc
      exact absurd yes (hf _ (by omega))
    | cons c rest =>
      obtain ⟨h1, h2, h3, h4⟩ := hc
      have hca : c = a + n.length := by
        rcases Nat.lt_trichotomy c (a + n.length) with h | h | h
        · exact absurd h2 (no c h1 h)
        · exact h
        · exact absurd yes (h3 _ (by omega) h)
      subst hca
      show strSub x a (a + n.length) :: partsFrom x y.length (a + n.length + y.length) rest = (⟨n.toArray⟩ : Str) :: _
      congr 1
      · apply Str.ext'
        apply Array.toList_inj.mp
        rw [strSub_toList, hdl]
        show _ = n
        rw [Nat.add_sub_cancel_left, List.take_left' rfl]
      · refine ih rest _ f m (fun z hz' => hz z (List.mem_cons_of_mem _ hz')) ?_ (by omega) h4 hf
        rw [← List.drop_drop, ← List.drop_drop, hdl, List.drop_left, List.drop_left' (by simp)]
theorem split_core {x y : Str} {n : List Nat} {r : List (List Nat)} (hy : y.cps.toList = List.replicate y.length 32) (hb : 1 ≤ y.length) (hz : ∀ z ∈ n :: r, 32 ∉ z) (hx : x.cps.toList = coreL y.length (n :: r)) (hl : y.length ≤ x.length) (hk : PySem.Builtin.Str.strKind y = 1) :
    Txt.split x y = (n :: r).map (fun z => (⟨z.toArray⟩ : Str)) := by
  obtain ⟨f, hc, hf⟩ := occ_tight x y hb
  have h := split_chain hy hb _ 0 f n r hz (by simpa using hx) (Nat.zero_le _) hc hf
  unfold Txt.split
  rw [if_neg (by
    rw [Bool.or_eq_true, decide_eq_true_eq, decide_eq_true_eq, hk]
    have : 1 ≤ PySem.Builtin.Str.strKind x := by unfold PySem.Builtin.Str.strKind; split; omega; split <;> omega
    omega)]
  split
  · rename_i he
    have he := List.isEmpty_iff.mp he
    rw [he] at h
    rw [← h]
    show [x] = [strSub x 0 x.length]
    rw [sub_whole]
  · rw [partsBetween_eq]
    exact h
end


theorem f_pop {w : World} : findIn (Mine.hd.heap_1 w.params) (.ref 178) "pop" = some (some (.ref 138)) := by k_is
theorem t_pop {w : World} : typeIn (Mine.hd.heap_1 w.params) (.ref 138) = some (.type "function") := by k_is
theorem f_ow {w : World} : findIn (Mine.hd.heap_1 w.params) (.ref 178) "is_onlyws" = some (some (.ref 167)) := by k_is
theorem t_ow {w : World} : typeIn (Mine.hd.heap_1 w.params) (.ref 167) = some (.type "function") := by k_is
section
variable {w : World} {A : Around} {s : Shared} {mg mb : Str → Option Value} {Q : Value → Shared → Prop} {E : Value → Shared → Prop}
  {fa da ln a dx : Addr} {mx : Int} {rows : List Str} {parts : List (Str × Str)}
theorem parts_pop {h : Heap} {vs : Array Value} {parts : List (Str × Str)} {f y : Str} (hp : PartsAt h vs (parts ++ [(f, y)])) : ∃ vs0 q tf ty, vs = vs0.push (.ref q) ∧ PartsAt h vs0 parts ∧ ∃ o n, h.get? q = some o ∧ o.cls = .type "tuple" ∧ o.data = .seq #[.str f tf, .str y ty] n := by
  obtain ⟨h1, Ts, tf, tx, h2⟩ := hp
  have hs : vs.size = parts.length + 1 := by rw [h1]; simp
  obtain ⟨e1, o, e2, e3, n, e4⟩ := h2 parts.length (by omega)
  refine ⟨vs.pop, Ts parts.length, tf parts.length, tx parts.length, ?_, ⟨by simp [hs], Ts, tf, tx, fun j hj => ?_⟩, o, n, e2, e3, ?_⟩
  · have hlt : parts.length < vs.size := by omega
    rw [Array.getElem?_eq_getElem hlt] at e1
    apply Array.ext
    · simp [hs]
    · intro k hk1 hk2
      simp only [Array.size_push, Array.size_pop, hs] at hk2
      by_cases hk : k = parts.length
      · subst hk
        rw [Array.getElem_push]
        simp only [Array.size_pop, hs]
        simpa using e1
      · rw [Array.getElem_push]
        simp only [Array.size_pop, hs]
        rw [dif_pos (by omega)]
        simp
  · simp only [Array.size_pop, hs] at hj
    obtain ⟨g1, o2, g2, g3, n2, g4⟩ := h2 j (by omega)
    refine ⟨?_, o2, g2, g3, n2, ?_⟩
    · rw [Array.getElem?_pop]
      rw [if_pos (by omega)]
      exact g1
    · rw [g4, List.getD_eq_getElem?_getD, List.getD_eq_getElem?_getD, List.getElem?_append_left (by omega)]
  · rw [e4, List.getD_eq_getElem?_getD, List.getElem?_concat_length]
    rfl
theorem push_obj (l : List (Str × Tok)) (x : Str) (t : Tok) (n : Nat) : ({ cls := .type "list", data := .seq ((strValues l).toArray.push (.str x t)) n } : Obj) = { cls := .type "list", data := .seq (strValues (l ++ [(x, t)])).toArray n } := by simp [strValues]
theorem pair_shaped {f y : Str} (h1 : PyData.strOk f = true) (h2 : PyData.strOk y = true) : SeqAt.shaped (.tuple [.str f, .str y]) = true := by simp [SeqAt.shaped, PyData.canLay0, PyData.canLayAll0, PyData.depth, PyData.depthAll, h1, h2]
theorem star_at {prog : Program} {w : World} {A : Around} {E : Value → Shared → Prop} {s : Shared} {a : Addr} {o : Obj} {its : Array Value} {n : Nat} {Q : List Value → Shared → Prop} (D : s.heap.get? a = some o) (hc : o.cls = .type "tuple") (hd : o.data = .seq its n) (hz : its.size ≤ sizeLine)
    (h : ∀ h', (∀ b o, s.heap.get? b = some o → h'.get? b = some o) → Q its.toList { s with heap := h' }) : StarOf (model prog w) A E (.ref a) Q s := by
  have hT' : s.TypeIs (.ref a) "tuple" := ⟨o, D, hc⟩
  have z : wpAny (model prog w) A (collect (.ref a)) Q E s := wpAny_collect_seq a (.inr rfl) D hc hd (fun h' hk => h h' hk) hz
  unfold StarOf notIterableAtAll
  exact wpAny_bind (wpAny_specialOf hT' PySem.F.slot_tuple_iter.lookup (wpAny_pure ⟨rfl, z⟩))
def StopN (P : Shared → Prop) (fl : Flow) (s : Shared) : Prop := fl = .next ∧ P s
theorem pair_eqv (f y f' y' : Str) : PyData.eqv (.tuple [.str f, .str y]) (.tuple [.str f', .str y']) = decide ((f, y) = (f', y')) := by
  simp only [PyData.eqv, PyData.eqvAll, Bool.and_true, Prod.mk.injEq, Bool.decide_and]
  by_cases h1 : f = f' <;> by_cases h2 : y = y' <;> simp [h1, h2]
theorem hp8len (ps : List (Str × Str)) : (textOf ps).length = lenOf ps := by
  show (textOf ps).cps.toList.length = _
  rw [textOf_toList, List.length_flatMap]
  unfold lenOf
  congr 1
  apply List.map_congr_left
  intro p _
  rw [List.length_append]
  rfl
noncomputable def nlParts (parts : List (Str × Str)) (f y : Str) : List (Str × Str) := if (f, y) = (Str.ofString " ", Str.ofString "") then parts else parts ++ [(f, y)]
noncomputable def nlRows (rows : List Str) (ps : List (Str × Str)) : List Str := if lenOf ps = 0 then rows else if Txt.isspace (textOf ps) = true ∧ rows ≠ [] then rows.dropLast ++ [rows.getLastD (Str.ofString "") ++ textOf ps] else rows ++ [textOf ps]
inductive NlP1 (w : World) (g : Heap) (L' : Addr) (s s' : Shared) (fa da ln a dx : Addr) (mx : Int) (rows : List Str) (parts : List (Str × Str)) (f y : Str) (pa pb : Array Value) (tk1 : Nat → Tok) (n1 : Nat) (l1 : List (Str × Tok)) (n2 : Nat) (tk2 t0 : Tok) (n4 : Nat) : Prop
  | mk (h : Heap) (tk : Nat) (m : Str → Option Value) (vs : Array Value) (n : Nat) (q0 : s' = { s with heap := h, toks := tk }) (q1 : Fr g L' h m) (q2 : m "self" = some (.ref fa)) (q3 : News g L' h [(140, { cls := .none, data := .fields pa }), (147, { cls := .none, data := .fields pb }), (fa, instObj 94 da), (da, dictOf (fmtD w.params tk1 mx ln a) n1), (ln, { cls := .type "list", data := .seq (strValues l1).toArray n2 }), (a, accObj dx vs n), (dx, dictOf (accD w.params tk2 (.int 0 t0)) n4)]) (q4 : PartsAt h vs (nlParts parts f y)) : NlP1 w g L' s s' fa da ln a dx mx rows parts f y pa pb tk1 n1 l1 n2 tk2 t0 n4
inductive NlP2 (w : World) (g : Heap) (L' : Addr) (s s' : Shared) (fa da ln a dx : Addr) (mx : Int) (rows : List Str) (parts : List (Str × Str)) (f y : Str) (pa pb : Array Value) (tk1 : Nat → Tok) (n1 : Nat) (l1 : List (Str × Tok)) (n2 : Nat) (tk2 t0 : Tok) (n4 : Nat) : Prop
  | mk (m : Str → Option Value) (vs : Array Value) (n : Nat) (l2 : List (Str × Tok)) (nl : Nat) (pa2 pb2 : Array Value) (q0 : Fr g L' s'.heap m) (q1 : m "self" = some (.ref fa)) (q2 : News g L' s'.heap [(140, { cls := .none, data := .fields pa2 }), (147, { cls := .none, data := .fields pb2 }), (fa, instObj 94 da), (da, dictOf (fmtD w.params tk1 mx ln a) n1), (ln, { cls := .type "list", data := .seq (strValues l2).toArray nl }), (a, accObj dx vs n), (dx, dictOf (accD w.params tk2 (.int 0 t0)) n4)]) (q3 : TriplesOk pa2.toList) (q4 : TriplesOk pb2.toList) (q5 : l2.map (·.1) = nlRows rows (nlParts parts f y)) (q6 : vs.size ≤ 1000) (q7 : (∃ more, pa2 = pa ++ more)) (q8 : (∃ more, pb2 = pb ++ more)) (q9 : (AllBare s.gens → AllBare s'.gens)) (q10 : s'.os = s.os) : NlP2 w g L' s s' fa da ln a dx mx rows parts f y pa pb tk1 n1 l1 n2 tk2 t0 n4
set_option maxHeartbeats 4000000 in
theorem newline_wp (O : Ok w mg mb s.heap) (hd : A.depth + 6 < recursionLimit) (hh : A.handled = none) (hu : A.units < 7000) (f y : Str) (X : FmtAt w.params s.heap fa da ln a dx mx rows (parts ++ [(f, y)])) (hz : parts.length ≤ 900) (hr : rows.length ≤ 1000) (hlen : ∀ p ∈ parts ++ [(f, y)], p.1.length ≤ 1000 ∧ p.2.length ≤ 1000)
    (hsk : PyData.strOk f = true ∧ PyData.strOk y = true) (hN : (f, y) = (Str.ofString " ", Str.ofString "") → parts = []) (hrl : ∀ x ∈ rows, x.length ≤ 100000) (hrw : lenOf (nlParts parts f y) ≠ 0 → Txt.isspace (textOf (nlParts parts f y)) = true → rows ≠ []) (hQ : ∀ s', Ext [ln, a, dx] s s' → FmtAt w.params s'.heap fa da ln a dx mx (nlRows rows (nlParts parts f y)) [] → Q .none s') :
    wpAny (model PySem.Challenge.pw_xo0030_01 w) A (call (.ref 56) [.ref fa]) Q E s := by
  refine callQ [fa, da, ln, a, dx, 140, 147] [("self", .ref fa)] O (by k_is) (by k_is) (by omega) (BindsTo.of_eq rfl) (locs rfl) (hide7 X.lo) (fun g L' h₁ tk' hg hL F' X' T' hk => ?_)
  have hL2 : 240 ≤ L' := hL ▸ size240 O
  have ht : ∀ b ∈ tabs, g.get? b = none := tab_hide (l := [fa, da, ln, a, dx]) hg fun _ h => h
  have y1 : Ext [] s { s with heap := h₁, toks := tk' } := kept_ext (fun b o _ e => hk b o e) (by simp)
  have X1 : FmtAt w.params h₁ fa da ln a dx mx rows (parts ++ [(f, y)]) := X.ext0 (s' := { s with heap := h₁, toks := tk' }) O.P y1
  have hbase := fmt_base X hg hL
  have hpg := fmt_hide X O.P hg
  obtain ⟨tk1, n1, l1, n2, vs1, n3, tk2, t0, n4, e1, hp1, N1⟩ := X1.news hbase
  have hpg1 : PartsAt g vs1 (parts ++ [(f, y)]) := hpg _ (by
    obtain ⟨vs0, m3, tk2, t0, n4, e4, e5⟩ := X.acc
    have e := (hk _ _ e4.at_).symm.trans (N1 _ (.tail _ (.tail _ (.tail _ (.head _))))).1
    exact ⟨_, e4.at_.trans e⟩)
  obtain ⟨vs0, q, tf, ty, rfl, hp0, oq, nq, hq, hqc, hqd⟩ := parts_pop hpg1
  repeat' (((fail_if_success with_reducible first | refine gdW ?_ | refine gdF ?_ | refine gdL ?_ | refine gdT ?_ | refine gdC ?_ | refine gdM (by decide) ?_ | show PySem.wpAt _ _ _ _ _ _ _); first | walk1 | (dsimp only; walk1)))
  have Mfa := N1 _ (.head _)
  have Mda := N1 _ (.tail _ (.head _))
  have Mln := N1 _ (.tail _ (.tail _ (.head _)))
  have Ma := N1 _ (.tail _ (.tail _ (.tail _ (.head _))))
  have Mdx := N1 _ (.tail _ (.tail _ (.tail _ (.tail _ (.head _)))))
  dsimp only at Mfa Mda Mln Ma Mdx
  have x1 : AccP w.params h₁ a dx (vs0.push (.ref q)) n3 (accD w.params tk2 (.int 0 t0)) n4 := ⟨Ma.1, Mdx.1⟩
  refine acc_method (X'.keeps F'.keep) x1 f_pop t_pop rfl rfl ?_
  repeat' (((fail_if_success with_reducible first | refine gdW ?_ | refine gdF ?_ | refine gdL ?_ | refine gdT ?_ | refine gdC ?_ | refine gdM (by decide) ?_ | show PySem.wpAt _ _ _ _ _ _ _); first | walk1 | (dsimp only; walk1)))
  have O1 := O.keeps hk
  have hz0 : vs0.size ≤ 900 := by have := hp0.1; omega
  have ap := X.ap
  simp only [List.nodup_cons, List.mem_cons, List.not_mem_nil, or_false, not_or, List.nodup_nil, and_true, not_false_eq_true] at ap
  have hva : 240 ≤ a := X.lo.2.2.2.1
  have hvx : 240 ≤ dx := X.lo.2.2.2.2
  have hne2 : dx ≠ a := fun e => ap.2.2.2 e.symm
  have b1 : @Ne Nat ln fa := fun e => ap.1.2.1 e.symm
  have b2 : @Ne Nat ln da := fun e => ap.2.1.1 e.symm
  have b3 : @Ne Nat ln a := ap.2.2.1.1
  have b4 : @Ne Nat ln dx := ap.2.2.1.2
  have a1 : @Ne Nat fa a := ap.1.2.2.1
  have a2 : @Ne Nat da a := ap.2.1.2.1
  obtain ⟨pa, ea1, ea2, pb, eb1, eb2⟩ := Tabs.e O1.P
  have M4 : g.get? 4 = some { cls := .type "module", dict := some builtinsNs } := hg ▸ hideAll_get _ O.M4 (fun m => by
    rcases hide7 X.lo 4 m with h | h
    · simp [tabs] at h
    · exact absurd h (by decide))
  have l140 : 140 ≠ L' := Nat.ne_of_lt (Nat.lt_of_lt_of_le (by decide : 140 < 240) hL2)
  have l147 : 147 ≠ L' := Nat.ne_of_lt (Nat.lt_of_lt_of_le (by decide : 147 < 240) hL2)
  have g140 := ht 140 (by simp [tabs])
  have g147 := ht 147 (by simp [tabs])
  have a140 : 140 ∉ [a] := fun hm => absurd hva (by rw [← List.mem_singleton.mp hm]; decide)
  have a147 : 147 ∉ [a] := fun hm => absurd hva (by rw [← List.mem_singleton.mp hm]; decide)
  refine pop_wp O1 (by show A.depth + 1 + 2 < _; omega) x1 (.inr ⟨_, _, rfl⟩) hva hvx hne2 (by omega) (fun h2 tk2' n5 x2 k2 => ?_)
  have F2 := fr_wr F' k2 (by simpa using (hbase a (by simp)).2.symm) (by simpa using (hbase a (by simp)).1)
  have N2 := news_cons (news_cons (news_cons (news_cons (news_cons (news_cons (news_cons (News.nil (h₀ := g) (L := L') (h := h2)) x2.dx_ Mdx.2.1 Mdx.2.2) x2.at_ Ma.2.1 Ma.2.2) (k2 _ _ (by simpa using b3) Mln.1) Mln.2.1 Mln.2.2) (k2 _ _ (by simpa using a2) Mda.1) Mda.2.1 Mda.2.2) (k2 _ _ (by simpa using a1) Mfa.1) Mfa.2.1 Mfa.2.2) (k2 _ _ a147 eb1) l147 g147) (k2 _ _ a140 ea1) l140 g140
  clear F' N1
  have hnlp : nlParts parts f y = [] ∨ nlParts parts f y = parts ++ [(f, y)] := by
    unfold nlParts
    split
    · exact .inl (hN (by assumption))
    · exact .inr rfl
  repeat' ((fail_if_success (with_reducible show wpAny _ _ (exec (PySem.Stmt.If _ _ _ _) _) _ _ _)); ((fail_if_success with_reducible first | refine gdW ?_ | refine gdF ?_ | refine gdL ?_ | refine gdT ?_ | refine gdC ?_ | refine gdM (by decide) ?_ | show PySem.wpAt _ _ _ _ _ _ _); first | walk1 | (dsimp only; walk1)))
  refine wpAny_mono (Q := StopN fun s' => NlP1 w g L' s s' fa da ln a dx mx rows parts f y pa pb tk1 n1 l1 n2 tk2 t0 n4) ?_ ?_ (fun _ _ e => e)
  · repeat' (((fail_if_success with_reducible first | refine gdW ?_ | refine gdF ?_ | refine gdL ?_ | refine gdT ?_ | refine gdC ?_ | refine gdM (by decide) ?_ | show PySem.wpAt _ _ _ _ _ _ _); first | walk1 | (dsimp only; walk1)))
    with_reducible rename Fr _ _ _ _ => F3
    with_reducible rename News _ _ _ _ => N3
    refine ne_dataH (reads_tuple_at (F3.keep _ _ hq) hqc hqd (.cons (.str _ _) (.cons (.str _ _) .nil))) (reads_tuple_at (N3 _ (.head _)).1 rfl rfl (.cons (.str _ _) (.cons (.str _ _) .nil))) (pair_shaped hsk.1 hsk.2) (pair_shaped (by decide +kernel) (by decide +kernel)) (by show A.units + 3 + 64 < _; unfold cLine; omega) ?_
    rw [pair_eqv]
    by_cases hk0 : (f, y) = (Str.ofString " ", Str.ofString "")
    · rw [decide_eq_true hk0]
      repeat' (((fail_if_success with_reducible first | refine gdW ?_ | refine gdF ?_ | refine gdL ?_ | refine gdT ?_ | refine gdC ?_ | refine gdM (by decide) ?_ | show PySem.wpAt _ _ _ _ _ _ _); first | walk1 | (dsimp only; walk1)))
      with_reducible rename Fr _ _ _ _ => F4
      with_reducible rename News _ _ _ _ => N4
      refine ⟨rfl, _, _, _, vs0, n5, rfl, F4, rfl, fun p hp => N4 p (.tail _ hp), ?_⟩
      rw [nlParts, if_pos hk0]
      exact hp0.keeps F4.keep
    · rw [decide_eq_false hk0]
      repeat' (((fail_if_success with_reducible first | refine gdW ?_ | refine gdF ?_ | refine gdL ?_ | refine gdT ?_ | refine gdC ?_ | refine gdM (by decide) ?_ | show PySem.wpAt _ _ _ _ _ _ _); first | walk1 | (dsimp only; walk1)))
      refine star_call ?_
      repeat' (((fail_if_success with_reducible first | refine gdW ?_ | refine gdF ?_ | refine gdL ?_ | refine gdT ?_ | refine gdC ?_ | refine gdM (by decide) ?_ | show PySem.wpAt _ _ _ _ _ _ _); first | walk1 | (dsimp only; walk1)))
      with_reducible rename Fr _ _ _ _ => F4
      with_reducible rename News _ _ _ _ => N4
      have Y140 := N4 _ (.tail _ (.head _))
      have Y147 := N4 _ (.tail _ (.tail _ (.head _)))
      have Yfa := N4 _ (.tail _ (.tail _ (.tail _ (.head _))))
      have Yda := N4 _ (.tail _ (.tail _ (.tail _ (.tail _ (.head _)))))
      have Yln := N4 _ (.tail _ (.tail _ (.tail _ (.tail _ (.tail _ (.head _))))))
      have Ya := N4 _ (.tail _ (.tail _ (.tail _ (.tail _ (.tail _ (.tail _ (.head _)))))))
      have Ydx := N4 _ (.tail _ (.tail _ (.tail _ (.tail _ (.tail _ (.tail _ (.tail _ (.head _))))))))
      dsimp only at Y140 Y147 Yfa Yda Yln Ya Ydx
      have x4 : AccP w.params _ a dx vs0 n5 (accD w.params tk2 (.int 0 t0)) n4 := ⟨Ya.1, Ydx.1⟩
      refine acc_bound2 (X'.keeps F4.keep) x4 rfl (fun bm h5 tk5 hbm hbs k5 => ?_)
      refine callWith_SM (K := Mine.hd.heap_1 w.params) (g := 122) (self := .ref a) (fn_push (w := w)) ?_
      have F5 := fr_kept F4 k5
      have N5 := news_kept N4 k5
      clear F4 N4
      repeat' (((fail_if_success with_reducible first | refine gdW ?_ | refine gdF ?_ | refine gdL ?_ | refine gdT ?_ | refine gdC ?_ | refine gdM (by decide) ?_ | show PySem.wpAt _ _ _ _ _ _ _); first | walk1 | (dsimp only; walk1)))
      refine star_at (F5.keep _ _ hq) hqc hqd (by exact Nat.le_of_ble_eq_true rfl) (fun h6 k6 => ⟨⟨k6 _ _ hbm, (X'.keeps F5.keep).keeps k6⟩, ?_⟩)
      have F6 := fr_kept F5 k6
      have O6 : Ok w mg mb h6 := ok_news X' T' M4 F6 (news_cons (news_cons News.nil (k6 _ _ (k5 _ _ Y147.1)) l147 g147) (k6 _ _ (k5 _ _ Y140.1)) l140 g140) ea2 eb2
      have x6 : AccP w.params h6 a dx vs0 n5 (accD w.params tk2 (.int 0 t0)) n4 := ⟨k6 _ _ (k5 _ _ Ya.1), k6 _ _ (k5 _ _ Ydx.1)⟩
      refine wpCall (method_call (k6 _ _ hbm) (push_raw O6 (by show A.depth + 1 + 1 < _; omega) x6 (.inr ⟨_, _, rfl⟩) hva hvx hne2 (by omega) f y tf ty (fun h7 tk7 n7 q7 x7 hq7 hqn7 k7 => ?_))) (fun _ _ z => z)
      have F7 := fr_wr F6 k7 (by simpa using Ya.2.1.symm) (by simpa using Ya.2.2)
      have N7 := news_cons (news_cons (news_cons (news_cons (news_cons (news_cons (news_cons (News.nil (h₀ := g) (L := L') (h := h7)) x7.dx_ Mdx.2.1 Mdx.2.2) x7.at_ Ma.2.1 Ma.2.2) (k7 _ _ (by simpa using b3) (k6 _ _ (k5 _ _ Yln.1))) Mln.2.1 Mln.2.2) (k7 _ _ (by simpa using a2) (k6 _ _ (k5 _ _ Yda.1))) Mda.2.1 Mda.2.2) (k7 _ _ (by simpa using a1) (k6 _ _ (k5 _ _ Yfa.1))) Mfa.2.1 Mfa.2.2) (k7 _ _ a147 (k6 _ _ (k5 _ _ Y147.1))) l147 g147) (k7 _ _ a140 (k6 _ _ (k5 _ _ Y140.1))) l140 g140
      clear F5 N5 F6
      repeat' (((fail_if_success with_reducible first | refine gdW ?_ | refine gdF ?_ | refine gdL ?_ | refine gdT ?_ | refine gdC ?_ | refine gdM (by decide) ?_ | show PySem.wpAt _ _ _ _ _ _ _); first | walk1 | (dsimp only; walk1)))
      refine ⟨rfl, h7, _, _, _, _, rfl, F7, rfl, N7, ?_⟩
      rw [nlParts, if_neg hk0]
      exact push_parts (hp0.keeps F7.keep) hq7
  · rintro fl s' ⟨rfl, h3, tk3, m3, vs3, n3', rfl, F3, em, N3, hp3⟩
    dsimp only
    repeat' ((fail_if_success (with_reducible show wpAny _ _ (exec (PySem.Stmt.If _ _ _ _) _) _ _ _)); ((fail_if_success with_reducible first | refine gdW ?_ | refine gdF ?_ | refine gdL ?_ | refine gdT ?_ | refine gdC ?_ | refine gdM (by decide) ?_ | show PySem.wpAt _ _ _ _ _ _ _); first | walk1 | (dsimp only; walk1)))
    refine wpAny_mono (Q := StopN fun s' => NlP2 w g L' s s' fa da ln a dx mx rows parts f y pa pb tk1 n1 l1 n2 tk2 t0 n4) ?_ ?_ (fun _ _ e => e)
    · repeat' (((fail_if_success with_reducible first | refine gdW ?_ | refine gdF ?_ | refine gdL ?_ | refine gdT ?_ | refine gdC ?_ | refine gdM (by decide) ?_ | show PySem.wpAt _ _ _ _ _ _ _); first | walk1 | (dsimp only; walk1)))
      with_reducible rename Fr _ _ _ _ => F4
      with_reducible rename News _ _ _ _ => N4
      have Z140 := N4 _ (.head _)
      have Z147 := N4 _ (.tail _ (.head _))
      have Zfa := N4 _ (.tail _ (.tail _ (.head _)))
      have Zda := N4 _ (.tail _ (.tail _ (.tail _ (.head _))))
      have Zln := N4 _ (.tail _ (.tail _ (.tail _ (.tail _ (.head _)))))
      have Za := N4 _ (.tail _ (.tail _ (.tail _ (.tail _ (.tail _ (.head _))))))
      have Zdx := N4 _ (.tail _ (.tail _ (.tail _ (.tail _ (.tail _ (.tail _ (.head _)))))))
      dsimp only at Z140 Z147 Zfa Zda Zln Za Zdx
      have hlen3 : ∀ p ∈ nlParts parts f y, p.1.length ≤ 1000 ∧ p.2.length ≤ 1000 := by
        rcases hnlp with e | e
        · rw [e]; simp
        · rw [e]; exact hlen
      have hz3 : vs3.size ≤ 1000 := by
        rw [hp3.1]
        rcases hnlp with e | e
        · rw [e]; simp
        · rw [e]; simp; omega
      have O4 : Ok w mg mb _ := ok_news X' T' M4 F4 N4 ea2 eb2
      have a4 : AccAt w.params _ a dx vs3 n3' tk2 (.int 0 t0) n4 := ⟨Za.1, Zdx.1⟩
      refine acc_len O4 (by show A.depth + 1 + 2 < _; omega) hh a4 hp3 hz3 hlen3 (fun t5 s5 y5 => ?_)
      obtain ⟨h5v, g5v, d5v, t5v, o5v⟩ := s5
      have F5 : Fr g L' h5v _ := fr_ext F4 y5 (by simp) ht (by simp) hL2
      obtain ⟨mA, cA⟩ := y5.tab 140 (by simp [tabs]) pa ⟨Z140.1, ea2⟩
      obtain ⟨mB, cB⟩ := y5.tab 147 (by simp [tabs]) pb ⟨Z147.1, eb2⟩
      have hp5 : PartsAt h5v _ _ := hp3.ext O4.P y5 (by simp)
      have N5 := news_cons (news_cons (news_cons (news_cons (news_cons (news_cons (news_cons (News.nil (h₀ := g) (L := L') (h := h5v)) (y5.keep _ _ (by simp) (notab hvx) Zdx.1) Mdx.2.1 Mdx.2.2) (y5.keep _ _ (by simp) (notab hva) Za.1) Ma.2.1 Ma.2.2) (y5.keep _ _ (by simp) (notab X.lo.2.2.1) Zln.1) Mln.2.1 Mln.2.2) (y5.keep _ _ (by simp) (notab X.lo.2.1) Zda.1) Mda.2.1 Mda.2.2) (y5.keep _ _ (by simp) (notab X.lo.1) Zfa.1) Mfa.2.1 Mfa.2.2) cB.1 l147 g147) cA.1 l140 g140
      clear F4 N4
      repeat' (((fail_if_success with_reducible first | refine gdW ?_ | refine gdF ?_ | refine gdL ?_ | refine gdT ?_ | refine gdC ?_ | refine gdM (by decide) ?_ | show PySem.wpAt _ _ _ _ _ _ _); first | walk1 | (dsimp only; walk1)))
      · with_reducible rename Fr _ _ _ _ => F6
        with_reducible rename News _ _ _ _ => N6
        have h0 : 0 < lenOf (nlParts parts f y) := by omega
        have Z140 := N6 _ (.head _)
        have Z147 := N6 _ (.tail _ (.head _))
        have Zfa := N6 _ (.tail _ (.tail _ (.head _)))
        have Zda := N6 _ (.tail _ (.tail _ (.tail _ (.head _))))
        have Zln := N6 _ (.tail _ (.tail _ (.tail _ (.tail _ (.head _)))))
        have Za := N6 _ (.tail _ (.tail _ (.tail _ (.tail _ (.tail _ (.head _))))))
        have Zdx := N6 _ (.tail _ (.tail _ (.tail _ (.tail _ (.tail _ (.tail _ (.head _)))))))
        dsimp only at Z140 Z147 Zfa Zda Zln Za Zdx
        have O6 : Ok w mg mb _ := ok_news X' T' M4 F6 N6 cA.2 cB.2
        have a6 : AccAt w.params _ a dx vs3 n3' tk2 (.int 0 t0) n4 := ⟨Za.1, Zdx.1⟩
        refine acc_method (X'.keeps F6.keep) a6.toP f_ow t_ow rfl rfl ?_
        repeat' (((fail_if_success with_reducible first | refine gdW ?_ | refine gdF ?_ | refine gdL ?_ | refine gdT ?_ | refine gdC ?_ | refine gdM (by decide) ?_ | show PySem.wpAt _ _ _ _ _ _ _); first | walk1 | (dsimp only; walk1)))
        refine onlyws_wp (A := A.deeper _) O6 (by show A.depth + 1 + 3 < _; omega) hh (by show A.units + 3 < 8000; omega) a6 hp5 hz3 hlen3 h0 hva hvx (fun s7 y7 => ?_)
        obtain ⟨h7v, g7v, d7v, t7v, o7v⟩ := s7
        have F7 : Fr g L' h7v _ := fr_ext F6 y7 (by simp) ht (by simp) hL2
        obtain ⟨mC, cC⟩ := y7.tab 140 (by simp [tabs]) _ ⟨Z140.1, cA.2⟩
        obtain ⟨mD, cD⟩ := y7.tab 147 (by simp [tabs]) _ ⟨Z147.1, cB.2⟩
        have hp7 : PartsAt h7v _ _ := hp5.ext O6.P y7 (by simp)
        have N7 := news_cons (news_cons (news_cons (news_cons (news_cons (news_cons (news_cons (News.nil (h₀ := g) (L := L') (h := h7v)) (y7.keep _ _ (by simp) (notab hvx) Zdx.1) Mdx.2.1 Mdx.2.2) (y7.keep _ _ (by simp) (notab hva) Za.1) Ma.2.1 Ma.2.2) (y7.keep _ _ (by simp) (notab X.lo.2.2.1) Zln.1) Mln.2.1 Mln.2.2) (y7.keep _ _ (by simp) (notab X.lo.2.1) Zda.1) Mda.2.1 Mda.2.2) (y7.keep _ _ (by simp) (notab X.lo.1) Zfa.1) Mfa.2.1 Mfa.2.2) cD.1 l147 g147) cC.1 l140 g140
        clear F6 N6
        have O7 : Ok w mg mb h7v := ok_news X' T' M4 F7 N7 cC.2 cD.2
        have hl1 : l1.length = rows.length := by have := congrArg List.length e1; simpa using this
        by_cases hws : Txt.isspace (textOf (nlParts parts f y)) = true
        · rw [hws]
          repeat' (((fail_if_success with_reducible first | refine gdW ?_ | refine gdF ?_ | refine gdL ?_ | refine gdT ?_ | refine gdC ?_ | refine gdM (by decide) ?_ | show PySem.wpAt _ _ _ _ _ _ _); first | walk1 | (dsimp only; walk1)))
          have hrne := hrw (by omega) hws
          have Zl := N7 _ (.tail _ (.tail _ (.tail _ (.tail _ (.head _)))))
          dsimp only at Zl
          have hne1 : (!(strValues l1).toArray.isEmpty) = true := by
            cases l1 with
            | nil => exact absurd (List.eq_nil_of_length_eq_zero (by rw [← hl1]; rfl)) hrne
            | cons p r => rfl
          refine wpAny_truthy_list ⟨_, Zl.1, rfl, _, rfl⟩ (by rw [List.size_toArray, strValues, List.length_map, hl1]; omega) ?_
          rw [hne1]
          repeat' (((fail_if_success with_reducible first | refine gdW ?_ | refine gdF ?_ | refine gdL ?_ | refine gdT ?_ | refine gdC ?_ | refine gdM (by decide) ?_ | show PySem.wpAt _ _ _ _ _ _ _); first | walk1 | (dsimp only; walk1)))
          obtain ⟨lp, ⟨xl, tl⟩, hlp⟩ : ∃ (lp : List (Str × Tok)) (p : Str × Tok), l1 = lp ++ [p] := by
            rcases List.eq_nil_or_concat l1 with e | ⟨lp, p, e⟩
            · exact absurd (List.eq_nil_of_length_eq_zero (by rw [← hl1, e]; rfl)) hrne
            · exact ⟨lp, p, by rw [e]; simp⟩
          subst hlp
          have hszl : (strValues (lp ++ [(xl, tl)])).toArray.size = lp.length + 1 := by simp [strValues]
          refine wpAny_getItem_list_neg (x := .str xl tl) ⟨_, Zl.1, rfl, _, rfl⟩ (by decide) (by rw [hszl]; omega) (by decide) (by rw [hszl, show ((-1 : Int) + ((lp.length + 1 : Nat) : Int)).toNat = lp.length from by omega]; simp [strValues]) ?_
          repeat' (((fail_if_success with_reducible first | refine gdW ?_ | refine gdF ?_ | refine gdL ?_ | refine gdT ?_ | refine gdC ?_ | refine gdM (by decide) ?_ | show PySem.wpAt _ _ _ _ _ _ _); first | walk1 | (dsimp only; walk1)))
          have Zl := N7 _ (.tail _ (.tail _ (.tail _ (.tail _ (.head _)))))
          have Za := N7 _ (.tail _ (.tail _ (.tail _ (.tail _ (.tail _ (.head _))))))
          have Zdx := N7 _ (.tail _ (.tail _ (.tail _ (.tail _ (.tail _ (.tail _ (.head _)))))))
          have Zfa := N7 _ (.tail _ (.tail _ (.head _)))
          have Zda := N7 _ (.tail _ (.tail _ (.tail _ (.head _))))
          have Z140 := N7 _ (.head _)
          have Z147 := N7 _ (.tail _ (.head _))
          dsimp only at Zl Za Zdx Zfa Zda Z140 Z147
          refine acc_str (A := A.deeper _) O7 (by show A.depth + 1 + 2 < _; omega) hh (by show A.units + 3 < 9000; omega) (⟨Za.1, Zdx.1⟩ : AccP w.params h7v a dx vs3 n3' (accD w.params tk2 (.int 0 t0)) n4) hp7 hz3 hlen3 (fun tC s8 y8 => ?_)
          obtain ⟨h8v, g8v, d8v, t8v, o8v⟩ := s8
          have F8 : Fr g L' h8v _ := fr_ext F7 y8 (by simp) ht (by simp) hL2
          obtain ⟨mE, cE⟩ := y8.tab 140 (by simp [tabs]) _ ⟨Z140.1, cC.2⟩
          obtain ⟨mF, cF⟩ := y8.tab 147 (by simp [tabs]) _ ⟨Z147.1, cD.2⟩
          have Zl := y8.keep _ _ (by simp) (notab X.lo.2.2.1) Zl.1
          have Za := y8.keep _ _ (by simp) (notab hva) Za.1
          have Zdx := y8.keep _ _ (by simp) (notab hvx) Zdx.1
          have Zfa := y8.keep _ _ (by simp) (notab X.lo.1) Zfa.1
          have Zda := y8.keep _ _ (by simp) (notab X.lo.2.1) Zda.1
          dsimp only at Zl Za Zdx Zfa Zda
          have N8 : News g L' h8v [] := News.nil
          clear F7 N7
          repeat' (((fail_if_success with_reducible first | refine gdW ?_ | refine gdF ?_ | refine gdL ?_ | refine gdT ?_ | refine gdC ?_ | refine gdM (by decide) ?_ | show PySem.wpAt _ _ _ _ _ _ _); first | walk1 | (dsimp only; walk1)))
          with_reducible rename Fr _ _ _ _ => F8b
          have hxl : xl.length ≤ 100000 := hrl _ (by rw [← e1]; simp)
          have htx : (textOf (nlParts parts f y)).length ≤ 2000 * 1000 := by
            have h1 := lenOf_le hlen3
            have h2 := hp8len (nlParts parts f y)
            have h3 := hp7.1
            omega
          refine SBL.iadd (fun t17 k17 _ => ?_) (by rw [PySem.sizeLine_eq]; omega)
          repeat' (((fail_if_success with_reducible first | refine gdW ?_ | refine gdF ?_ | refine gdL ?_ | refine gdT ?_ | refine gdC ?_ | refine gdM (by decide) ?_ | show PySem.wpAt _ _ _ _ _ _ _); first | walk1 | (dsimp only; walk1)))
          refine set_last (s := ⟨h8v, g8v, d8v, _, o8v⟩) Zl (by rw [hszl]; omega) (fun hF eF sF => ?_)
          obtain ⟨nF, eF⟩ := eF
          rw [set_last_obj] at eF
          have F9 := fr_same F8b sF Mln.2.1 Mln.2.2
          have c140 : @Ne Nat 140 ln := fun e => absurd X.lo.2.2.1 (by rw [← e]; decide)
          have c147 : @Ne Nat 147 ln := fun e => absurd X.lo.2.2.1 (by rw [← e]; decide)
          have N9 := news_cons (news_cons (news_cons (news_cons (news_cons (news_cons (news_cons (News.nil (h₀ := g) (L := L') (h := hF)) ((sF.2 _ (Ne.symm b4)).trans Zdx) Mdx.2.1 Mdx.2.2) ((sF.2 _ (Ne.symm b3)).trans Za) Ma.2.1 Ma.2.2) eF Mln.2.1 Mln.2.2) ((sF.2 _ (Ne.symm b2)).trans Zda) Mda.2.1 Mda.2.2) ((sF.2 _ (Ne.symm b1)).trans Zfa) Mfa.2.1 Mfa.2.2) ((sF.2 _ c147).trans cF.1) l147 g147) ((sF.2 _ c140).trans cE.1) l140 g140
          clear F8b N8
          repeat' (((fail_if_success with_reducible first | refine gdW ?_ | refine gdF ?_ | refine gdL ?_ | refine gdT ?_ | refine gdC ?_ | refine gdM (by decide) ?_ | show PySem.wpAt _ _ _ _ _ _ _); first | walk1 | (dsimp only; walk1)))
          exact ⟨rfl, _, vs3, n3', _, nF, _, _, F9, em, N9, cE.2, cF.2, by rw [nlRows, if_neg (by omega), if_pos ⟨hws, hrne⟩, ← e1]; simp, hz3, ⟨mA ++ mC ++ mE, by simp [Array.append_assoc]⟩, ⟨mB ++ mD ++ mF, by simp [Array.append_assoc]⟩, fun g0 => y8.gens (y7.gens (y5.gens g0)), y8.os.trans (y7.os.trans y5.os)⟩
        · rw [Bool.not_eq_true] at hws
          rw [hws]
          repeat' (((fail_if_success with_reducible first | refine gdW ?_ | refine gdF ?_ | refine gdL ?_ | refine gdT ?_ | refine gdC ?_ | refine gdM (by decide) ?_ | show PySem.wpAt _ _ _ _ _ _ _); first | walk1 | (dsimp only; walk1)))
          have Zl := N7 _ (.tail _ (.tail _ (.tail _ (.tail _ (.head _)))))
          have Za := N7 _ (.tail _ (.tail _ (.tail _ (.tail _ (.tail _ (.head _))))))
          have Zdx := N7 _ (.tail _ (.tail _ (.tail _ (.tail _ (.tail _ (.tail _ (.head _)))))))
          have Zfa := N7 _ (.tail _ (.tail _ (.head _)))
          have Zda := N7 _ (.tail _ (.tail _ (.tail _ (.head _))))
          have Z140 := N7 _ (.head _)
          have Z147 := N7 _ (.tail _ (.head _))
          dsimp only at Zl Za Zdx Zfa Zda Z140 Z147
          refine acc_str (A := A.deeper _) O7 (by show A.depth + 1 + 2 < _; omega) hh (by show A.units + 3 < 9000; omega) (⟨Za.1, Zdx.1⟩ : AccP w.params h7v a dx vs3 n3' (accD w.params tk2 (.int 0 t0)) n4) hp7 hz3 hlen3 (fun tC s8 y8 => ?_)
          obtain ⟨h8v, g8v, d8v, t8v, o8v⟩ := s8
          have F8 : Fr g L' h8v _ := fr_ext F7 y8 (by simp) ht (by simp) hL2
          obtain ⟨mE, cE⟩ := y8.tab 140 (by simp [tabs]) _ ⟨Z140.1, cC.2⟩
          obtain ⟨mF, cF⟩ := y8.tab 147 (by simp [tabs]) _ ⟨Z147.1, cD.2⟩
          have Zl := y8.keep _ _ (by simp) (notab X.lo.2.2.1) Zl.1
          have Za := y8.keep _ _ (by simp) (notab hva) Za.1
          have Zdx := y8.keep _ _ (by simp) (notab hvx) Zdx.1
          have Zfa := y8.keep _ _ (by simp) (notab X.lo.1) Zfa.1
          have Zda := y8.keep _ _ (by simp) (notab X.lo.2.1) Zda.1
          dsimp only at Zl Za Zdx Zfa Zda
          have N8 : News g L' h8v [] := News.nil
          clear F7 N7
          repeat' (((fail_if_success with_reducible first | refine gdW ?_ | refine gdF ?_ | refine gdL ?_ | refine gdT ?_ | refine gdC ?_ | refine gdM (by decide) ?_ | show PySem.wpAt _ _ _ _ _ _ _); first | walk1 | (dsimp only; walk1)))
          with_reducible rename Fr _ _ _ _ => F8b
          have hsl : (strValues l1).toArray.size ≤ sizeLine := by
            rw [PySem.sizeLine_eq, List.size_toArray, strValues, List.length_map]
            omega
          refine append_at (s := ⟨h8v, g8v, d8v, _, o8v⟩) Zl (fun hF sF eF => ?_) hsl
          have F9 := fr_same F8b sF Mln.2.1 Mln.2.2
          have c140 : @Ne Nat 140 ln := fun e => absurd X.lo.2.2.1 (by rw [← e]; decide)
          have c147 : @Ne Nat 147 ln := fun e => absurd X.lo.2.2.1 (by rw [← e]; decide)
          have N9 := news_cons (news_cons (news_cons (news_cons (news_cons (news_cons (news_cons (News.nil (h₀ := g) (L := L') (h := hF)) ((sF.2 _ (Ne.symm b4)).trans Zdx) Mdx.2.1 Mdx.2.2) ((sF.2 _ (Ne.symm b3)).trans Za) Ma.2.1 Ma.2.2) (eF.trans (congrArg some (push_obj l1 _ tC (n2 + 1)))) Mln.2.1 Mln.2.2) ((sF.2 _ (Ne.symm b2)).trans Zda) Mda.2.1 Mda.2.2) ((sF.2 _ (Ne.symm b1)).trans Zfa) Mfa.2.1 Mfa.2.2) ((sF.2 _ c147).trans cF.1) l147 g147) ((sF.2 _ c140).trans cE.1) l140 g140
          clear F8b N8
          repeat' (((fail_if_success with_reducible first | refine gdW ?_ | refine gdF ?_ | refine gdL ?_ | refine gdT ?_ | refine gdC ?_ | refine gdM (by decide) ?_ | show PySem.wpAt _ _ _ _ _ _ _); first | walk1 | (dsimp only; walk1)))
          exact ⟨rfl, _, vs3, n3', _, n2 + 1, _, _, F9, em, N9, cE.2, cF.2, by rw [nlRows, if_neg (by omega), if_neg (by rw [hws]; simp)]; simp [e1], hz3, ⟨mA ++ mC ++ mE, by simp [Array.append_assoc]⟩, ⟨mB ++ mD ++ mF, by simp [Array.append_assoc]⟩, fun g0 => y8.gens (y7.gens (y5.gens g0)), y8.os.trans (y7.os.trans y5.os)⟩
      · with_reducible rename Fr _ _ _ _ => F6
        with_reducible rename News _ _ _ _ => N6
        have h0 : lenOf (nlParts parts f y) = 0 := by omega
        exact ⟨rfl, _, vs3, n3', l1, n2, _, _, F6, em, N6, cA.2, cB.2, by rw [nlRows, if_pos h0]; exact e1, hz3, ⟨mA, rfl⟩, ⟨mB, rfl⟩, fun g0 => y5.gens g0, y5.os⟩
    · rintro fl s' ⟨rfl, m8, vs8, n8, l8, nl8, pa8, pb8, F8, em8, N8, tA8, tB8, e8, hz8, ⟨mA8, hA8⟩, ⟨mB8, hB8⟩, hg8, ho8⟩
      dsimp only
      repeat' (((fail_if_success with_reducible first | refine gdW ?_ | refine gdF ?_ | refine gdL ?_ | refine gdT ?_ | refine gdC ?_ | refine gdM (by decide) ?_ | show PySem.wpAt _ _ _ _ _ _ _); first | walk1 | (dsimp only; walk1)))
      with_reducible rename Fr _ _ _ _ => F9
      with_reducible rename News _ _ _ _ => N9
      have Z140 := N9 _ (.head _)
      have Z147 := N9 _ (.tail _ (.head _))
      have Zfa := N9 _ (.tail _ (.tail _ (.head _)))
      have Zda := N9 _ (.tail _ (.tail _ (.tail _ (.head _))))
      have Zln := N9 _ (.tail _ (.tail _ (.tail _ (.tail _ (.head _)))))
      have Za := N9 _ (.tail _ (.tail _ (.tail _ (.tail _ (.tail _ (.head _))))))
      have Zdx := N9 _ (.tail _ (.tail _ (.tail _ (.tail _ (.tail _ (.tail _ (.head _)))))))
      dsimp only at Z140 Z147 Zfa Zda Zln Za Zdx
      have x9 : AccP w.params _ a dx vs8 n8 (accD w.params tk2 (.int 0 t0)) n4 := ⟨Za.1, Zdx.1⟩
      have O9 : Ok w mg mb _ := ok_news X' T' M4 F9 N9 tA8 tB8
      refine acc_method (X'.keeps F9.keep) x9 f_rs t_rs rfl rfl ?_
      repeat' (((fail_if_success with_reducible first | refine gdW ?_ | refine gdF ?_ | refine gdL ?_ | refine gdT ?_ | refine gdC ?_ | refine gdM (by decide) ?_ | show PySem.wpAt _ _ _ _ _ _ _); first | walk1 | (dsimp only; walk1)))
      refine reset0_wp O9 (by show A.depth + 1 + 1 < _; omega) x9 (.inr ⟨_, _, rfl⟩) hva hvx hne2 hz8 (fun hE tkE nE tkE' tE nE2 xE kE => ?_)
      have FE := fr_wr F9 kE (by simp only [List.mem_cons, List.not_mem_nil, or_false, not_or]; exact ⟨Ma.2.1.symm, Mdx.2.1.symm⟩) (by simp only [List.mem_cons, List.not_mem_nil, or_false]; rintro b (rfl | rfl); exact Ma.2.2; exact Mdx.2.2)
      have mE : ∀ b : Addr, b ≠ a → b ≠ dx → b ∉ [a, dx] := fun b h1 h2 => by simp only [List.mem_cons, List.not_mem_nil, or_false, not_or]; exact ⟨h1, h2⟩
      have U140 := kE _ _ (mE 140 (fun e => absurd hva (by rw [← e]; decide)) (fun e => absurd hvx (by rw [← e]; decide))) Z140.1
      have U147 := kE _ _ (mE 147 (fun e => absurd hva (by rw [← e]; decide)) (fun e => absurd hvx (by rw [← e]; decide))) Z147.1
      have Ufa := kE _ _ (mE fa a1 ap.1.2.2.2) Zfa.1
      have Uda := kE _ _ (mE da a2 ap.2.1.2.2) Zda.1
      have Uln := kE _ _ (mE ln b3 b4) Zln.1
      repeat' (((fail_if_success with_reducible first | refine gdW ?_ | refine gdF ?_ | refine gdL ?_ | refine gdT ?_ | refine gdC ?_ | refine gdM (by decide) ?_ | show PySem.wpAt _ _ _ _ _ _ _); first | walk1 | (dsimp only; walk1)))
      have hda0 : s.heap.get? da = some (dictOf (fmtD w.params tk1 mx ln a) n1) := by
        obtain ⟨tk, n, e⟩ := X.da_
        rw [e]
        exact (hk _ _ e).symm.trans Mda.1
      have hfin : Ext [ln, a, dx] s { s' with heap := hE, toks := tkE } := by
        refine ext_end (H := [fa, da, ln, a, dx, 140, 147]) (s' := { s' with heap := hE, toks := tkE }) (hg ▸ FE) ?_ ?_ hg8 ho8
        · exact al1 (.inr (.inr fun o e => by rw [← e, X.fa_]; exact Ufa)) (al1 (.inr (.inr fun o e => by rw [← e, hda0]; exact Uda)) (al1 (.inl (.head _)) (al1 (.inl (.tail _ (.head _))) (al1 (.inl (.tail _ (.tail _ (.head _)))) (al1 (.inr (.inl (.head _))) (al1 (.inr (.inl (.tail _ (.head _)))) al0))))))
        · refine al1 (fun ps e => ?_) (al1 (fun ps e => ?_) al0)
          · have hpa : pa = ps := by
              have := ea1.symm.trans (hk _ _ e.1)
              simp only [Option.some.injEq, Obj.mk.injEq, Data.fields.injEq, true_and, and_true] at this
              exact this
            exact ⟨mA8, by rw [← hpa, ← hA8]; exact ⟨U140, tA8⟩⟩
          · have hpb : pb = ps := by
              have := eb1.symm.trans (hk _ _ e.1)
              simp only [Option.some.injEq, Obj.mk.injEq, Data.fields.injEq, true_and, and_true] at this
              exact this
            exact ⟨mB8, by rw [← hpb, ← hB8]; exact ⟨U147, tB8⟩⟩
      have hfmt : FmtAt w.params hE fa da ln a dx mx (nlRows rows (nlParts parts f y)) [] := ⟨Ufa, ⟨tk1, n1, Uda⟩, ⟨l8, nl8, e8, Uln⟩, ⟨_, _, _, _, _, ⟨xE.at_, xE.dx_⟩, ⟨rfl, fun _ => 0, fun _ => 0, fun _ => 0, fun j hj => absurd hj (Nat.not_lt_zero _)⟩⟩, X.lo, X.ap⟩
      exact hQ { s' with heap := hE, toks := tkE } hfin hfmt
end


section
variable {prog : Program} {w : World} {A : Around} {E : Value → Shared → Prop} {s : Shared} {h₀ : Heap} {L : Addr} {m : Str → Option Value} {env : Env}
/-- a comprehension over anything that walks, put into a local name -/
theorem lcA {elt iter : Expr} {x y : Str} {px py : Pos} {scope : Scope} {cl : List (Str × Addr)} {pos spos : Pos} {Q : Flow → Shared → Prop} (F₀ : Fr h₀ env.locals s.heap m)
    (hsw : swapsWith (.ListComp elt [⟨.Name x px, iter, [], 0⟩] scope pos) (some (.Name y py)) spos.line env = pure true)
    (hclos : closureFor scope env = pure cl) (hcell : ∀ z ∈ scope.names, z.2 ≠ .cell) (hkind : scope.kind = .function)
    (hnames : ∀ z ∈ scope.names, z.2 = .local → scope.names.lookup z.1 = some .local) (hx : scope.names.lookup x = some .local)
    (hy : env.kindOf y = some .local) (hp : (env.scope.kind == .class || (env.scope.kind == .module && env.locals != env.globals)) = false)
    (h : wpAny (model prog w) A (eval iter env) (fun xv s₁ => wpAny (model prog w) A (pyIter xv) (fun it s₂ => ∃ (I : Addr) (fp : List Addr) (n : Nat) (P : Nat → Value → Prop) (St : Nat → Heap → Prop) (S : List (Addr × Obj) → Prop) (news : List (Addr × Obj)) (m : Str → Option Value), it = .ref I ∧ Walks prog w A I fp [I] n P St ∧ n ≤ sizeLine ∧
      (∀ i h, St i h → ∃ o, h.get? I = some o) ∧ (∀ i h h' o nw, St i h → h.get? I = some o → h'.get? I = some o → (∀ b o, h₀.get? b = some o → h'.get? b = some o) → News h₀ env.locals h' nw → S nw → St i h') ∧ St 0 s₂.heap ∧ (∀ b ∈ fp, b < s₂.heap.objs.size) ∧
      Fr h₀ env.locals s₂.heap m ∧ News h₀ env.locals s₂.heap news ∧ env.locals ≠ I ∧ h₀.get? I = none ∧ (∀ p ∈ news, p.1 ≠ I) ∧ S news ∧
      LCg.CompRest prog w A h₀ env.locals m env elt x scope cl s₂ S P (LCg.FinA h₀ env.locals m s₂ y Q) n 0 [] news) E s₁) E s)
    (hs : ∀ x, foldedSetIterable iter env x = pure x := by intro _; rfl) :
    wpAny (model prog w) A (exec (.Assign [.Name y py] (.ListComp elt [⟨.Name x px, iter, [], 0⟩] scope pos) spos) env) Q E s := by
  rw [exec_Assign_Name_used _ _ _ _ hsw]
  refine wpAny_bind (wpAny_standAt (wpAny_bind ?_))
  show wpAny _ A (do let _ ← comprehension (.ListComp elt [⟨.Name x px, iter, [], 0⟩] scope pos) scope env _ (newList []) false (eval iter env) (some (assign (.Name y py) env))) _ _ s
  refine wpAny_bind (wpAny_mono (wpAny_comprehension_free (use := some (assign (.Name y py) env)) (Q := fun _ s' => Q .next s') rfl hs hclos hkind hnames
    (wpAny_mono h (fun xv s₁ h₁ => wpAny_mono h₁ (fun it s₂ h₂ => ?_) fun _ _ e => e) fun _ _ e => e)) (fun _ s' hq => wpAny_pure (wpAny_pure hq)) fun _ _ e => e)
  obtain ⟨I, fp, n, P, St, S, news, m, rfl, W, hsz, hIo, hSt, hst, hfp, F, N, hIL, hI0, hoff, hS, R⟩ := h₂
  refine LCg.block_U W hsz hIo hSt hcell hkind hx hst hfp F N hIL hI0 hoff hS R ?_
  intro D C h' tk m' ys news' F' N' o1 hn hC₀ hD₀ hCL hDL hCD offC fin
  show wpAny _ A (assign (.Name y py) env (.ref D)) _ _ _
  refine wpAny_assign_Name (wpAny_storeName_local hy F'.ns (fun h₂ hn₂ hs₂ => ?_) hp)
  have hL₀ : h₀.get? env.locals = none := Heap.get?_none_of_le F'.above
  have F₂ : Fr h₀ env.locals h₂ (fun z => if z = y then some (.ref D) else m z) := ⟨hn₂, fun b o e => hs₂.extBut b o (fun q => by rw [q, hL₀] at e; cases e) (F'.keep b o e), F'.above⟩
  refine ⟨m', hn.sameBut hs₂ hCL, fun h'' hs'' => fin D h'' _ (F₂.change hs'' hCL hC₀) (fun p hp => ?_) o1⟩
  have z : h₂.get? p.1 = some p.2 := hs₂.extBut _ _ (N' p hp).2.1 (N' p hp).1
  refine ⟨hs''.extBut _ _ ?_ z, (N' p hp).2⟩
  rcases List.mem_cons.mp hp with rfl | hp
  · exact Ne.symm hCD
  · exact offC p hp
end
section
variable {prog : Program} {w : World} {A : Around} {E : Value → Shared → Prop} {s : Shared} {h₀ : Heap} {env : Env} {m : Str → Option Value}
abbrev LcPack (prog : Program) (w : World) (A : Around) (h₀ : Heap) (env : Env) (elt : Expr) (x y : Str) (scope : Scope) (cl : List (Str × Addr)) (Q : Flow → Shared → Prop) (it : Value) (s₂ : Shared) : Prop :=
  ∃ (I : Addr) (fp : List Addr) (n : Nat) (P : Nat → Value → Prop) (St : Nat → Heap → Prop) (S : List (Addr × Obj) → Prop) (news : List (Addr × Obj)) (m : Str → Option Value), it = .ref I ∧ Walks prog w A I fp [I] n P St ∧ n ≤ sizeLine ∧
      (∀ i h, St i h → ∃ o, h.get? I = some o) ∧ (∀ i h h' o nw, St i h → h.get? I = some o → h'.get? I = some o → (∀ b o, h₀.get? b = some o → h'.get? b = some o) → News h₀ env.locals h' nw → S nw → St i h') ∧ St 0 s₂.heap ∧ (∀ b ∈ fp, b < s₂.heap.objs.size) ∧
      Fr h₀ env.locals s₂.heap m ∧ News h₀ env.locals s₂.heap news ∧ env.locals ≠ I ∧ h₀.get? I = none ∧ (∀ p ∈ news, p.1 ≠ I) ∧ S news ∧
      LCg.CompRest prog w A h₀ env.locals m env elt x scope cl s₂ S P (LCg.FinA h₀ env.locals m s₂ y Q) n 0 [] news
theorem tup_src {elt : Expr} {x y : Str} {scope : Scope} {cl : List (Str × Addr)} {Q : Flow → Shared → Prop} {ax : Addr} {o : Obj} {its : Array Value} {news : List (Addr × Obj)} (hh : A.handled = none) (F : Fr h₀ env.locals s.heap m) (N : News h₀ env.locals s.heap news) (hm : (ax, o) ∈ news) (hc : o.cls = .type "tuple") (hd : ∃ n, o.data = .seq its n) (hsz : its.size ≤ sizeLine)
    (R : ∀ g, LCg.CompRest prog w A h₀ env.locals m env elt x scope cl { s with heap := g } (fun nw => (ax, o) ∈ nw) (fun i v => its[i]? = some v) (LCg.FinA h₀ env.locals m { s with heap := g } y Q) its.size 0 [] news) :
    wpAny (model prog w) A (pyIter (.ref ax)) (LcPack prog w A h₀ env elt x y scope cl Q) E s := by
  have hT : s.heap.IsTuple ax its := ⟨_, (N _ hm).1, hc, hd⟩
  have hlt : ax < s.heap.objs.size := Heap.lt_size (N _ hm).1
  have up : ∀ b o, s.heap.get? b = some o → (s.heap.push { cls := .type "tuple_iterator", data := .fields #[.ref ax, .int 0 0] }).get? b = some o := fun b o e => Heap.get?_push_of_some _ e
  refine wpAny_pyIter_tuple hT ⟨_, _, _, _, _, fun nw => (ax, o) ∈ nw, news, m, rfl, Walks.tuple hh s.heap.objs.size ax (Nat.ne_of_lt hlt) its, hsz, fun i h st => by obtain ⟨o, e, _⟩ := st.1; exact ⟨o, e⟩, ?_, ⟨⟨_, Heap.get?_push_size _ rfl, rfl, rfl⟩, hT.at fun o e => up _ o e⟩, ?_,
    F.keeps up, N.grown up, Nat.ne_of_lt F.ns.lt, next_is_new F, fun p hp => Nat.ne_of_lt (Heap.lt_size (N p hp).1), hm, R _⟩
  · intro i h h' o' nw st e e' k N' S
    exact ⟨by obtain ⟨o2, q, r⟩ := st.1; rw [e] at q; cases q; exact ⟨o', e', r⟩, ⟨_, (N' _ S).1, hc, hd⟩⟩
  · intro b hb
    show b < (s.heap.push _).objs.size
    rw [Heap.size_push]
    rcases List.mem_cons.mp hb with rfl | hb
    · exact Nat.lt_succ_self _
    · rw [List.mem_singleton.mp hb]; exact Nat.lt_succ_of_lt hlt
end
theorem bit_eq (i p : Nat) : Int.fmod (Int.fdiv (i : Int) (2 ^ p)) 2 = ((i / 2 ^ p % 2 : Nat) : Int) := by
  have h : ((2 : Int) ^ p) = ((2 ^ p : Nat) : Int) := by push_cast; rfl
  rw [h, Int.fdiv_eq_ediv_of_nonneg _ (Int.natCast_nonneg _), ← Int.natCast_ediv, Int.fmod_eq_emod_of_nonneg _ (by omega)]
  omega
noncomputable def bitOf (card i : Nat) : Str := if card / 2 ^ (4 - i) % 2 = 1 then Str.ofString "a" else Str.ofString "A"
theorem lb_step {i j : Nat} {lb : List (Str × Tok)} {x : Str} {t : Tok} (eb : lb.map (·.1) = (List.range j).map (bitOf i)) (h : x = bitOf i j) : (lb ++ [(x, t)]).map (·.1) = (List.range (j + 1)).map (bitOf i) := by
  rw [List.map_append, eb, List.range_succ, List.map_append, h]; rfl
noncomputable def nameOf (n card : Nat) : Str := Txt.join (Str.ofString "") ((List.range 5).map (bitOf card)) ++ Txt.item (Str.ofString "abcdefghijk") ((min card (n - card) : Nat) : Int)
theorem bit_len (i j : Nat) : (bitOf i j).length = 1 := by unfold bitOf; split <;> rfl
theorem bits_sum (i : Nat) : (((List.range 5).map (bitOf i)).map (·.length)).sum ≤ 10000000 := by
  simp [List.range_succ, bit_len]
theorem join_le (l : List Str) : (Txt.join (Str.ofString "") l).length ≤ (l.map (·.length)).sum + l.length * 0 := by
  unfold Txt.join
  rw [StrLaws.glued_eq_join]
  have := StrLaws.join_length_le (Str.ofString "") l
  rwa [show (Str.ofString "").length = 0 from by decide +kernel] at this
theorem bits_join_le (i : Nat) : (Txt.join (Str.ofString "") ((List.range 5).map (bitOf i))).length ≤ 11000000 := by
  have h1 := join_le ((List.range 5).map (bitOf i))
  have h2 := bits_sum i
  omega
theorem add_sz {x y : Str} (h1 : x.length ≤ 11000000) (h2 : y.length = 1) : x.length + y.length ≤ sizeLine := by rw [PySem.sizeLine_eq]; omega
theorem nm_le (n i : Nat) (hn : n ≤ 21) (hi : i ≤ n) : min i (n - i) ≤ 10 := by omega
section
variable {prog : Program} {w : World} {A : Around} {E : Value → Shared → Prop} {s : Shared}
theorem min_nat {i n : Nat} {t u : Tok} {Q : Value → Shared → Prop} (hh : A.handled = none) (hi : i ≤ n) (h : ∀ h' tk t', (∀ c o, s.heap.get? c = some o → h'.get? c = some o) → Q (.int ((min i (n - i) : Nat) : Int) t') { s with heap := h', toks := tk }) :
    wpAny (model prog w) A (call (.builtin "min") [.int (i : Int) t, .int ((n : Int) - (i : Int)) u]) Q E s :=
  min_two_ints hh (fun h' tk k => by
    by_cases hlt : (n : Int) - i < i
    · rw [if_pos hlt, show ((n : Int) - i) = ((min i (n - i) : Nat) : Int) from by omega]; exact h _ _ _ k
    · rw [if_neg hlt, show (i : Int) = ((min i (n - i) : Nat) : Int) from by omega]; exact h _ _ _ k)
end
section
variable {prog : Program} {w : World} {A : Around} {s : Shared} {mg mb : Str → Option Value} {Q : Value → Shared → Prop} {E : Value → Shared → Prop}
inductive NmInv (g : Heap) (s s' : Shared) (L' D : Addr) (n : Nat) (tn : Tok) (i : Nat) : Prop
  | mk (h : Heap) (tk : Nat) (m : Str → Option Value) (l : List (Str × Tok)) (nn : Nat) (oc : Obj) (vc : Option Value) (q0 : s' = { s with heap := h, toks := tk }) (q1 : Fr g L' h m) (q2 : m "ring" = some (.int n tn)) (q3 : m "names" = some (.ref D))
      (q4 : h.get? D = some { cls := .type "list", data := .seq (strValues l).toArray nn }) (q5 : l.map (·.1) = (List.range i).map (nameOf n)) (q6 : h.get? (L' + 1) = some oc) (q7 : oc.data = .cell vc) : NmInv g s s' L' D n tn i
set_option maxHeartbeats 4000000 in
theorem names_wp (O : Ok w mg mb s.heap) (hd : A.depth + 1 < recursionLimit) (hh : A.handled = none) (n : Nat) (tn : Tok) (hn : n ≤ 21) (h1 : 1 ≤ n)
    (hQ : ∀ D h' tk, RowsAt h' D ((List.range n).map (nameOf n)) → s.heap.get? D = none → (∀ b o, s.heap.get? b = some o → h'.get? b = some o) → Q (.ref D) { s with heap := h', toks := tk }) :
    wpN true (model prog w) A (call (.ref 222) [.int n tn]) Q E s := by
  refine callQC [] [("ring", .int n tn)] O (by k_is) (by k_is) (by omega) (BindsTo.of_eq rfl) (by rfl) (by simp) (by decide) (fun g L' h₁ tk cells hg hL F' NC CA X' T' hk => ?_)
  refine wpN_any ?_
  obtain ⟨oc, rfl, dc⟩ := CellsAre.one CA
  repeat' (((fail_if_success with_reducible first | refine gdW ?_ | refine gdF ?_ | refine gdL ?_ | refine gdT ?_ | refine gdC ?_ | refine gdM (by decide) ?_ | show PySem.wpAt _ _ _ _ _ _ _); first | walk1 | (dsimp only; walk1)))
  refine forA ?_
  repeat' (((fail_if_success with_reducible first | refine gdW ?_ | refine gdF ?_ | refine gdL ?_ | refine gdT ?_ | refine gdC ?_ | refine gdM (by decide) ?_ | show PySem.wpAt _ _ _ _ _ _ _); first | walk1 | (dsimp only; walk1)))
  with_reducible rename Fr _ _ _ _ => F3
  with_reducible rename News _ _ _ _ => N3
  with_reducible rename IsRange _ _ _ _ _ _ _ _ => R3
  have hrs : Builtin.Range.rangeSize 0 (n : Int) 1 = (n : Int) := by rw [rangeSize_one]; split <;> omega
  refine range_it R3 hrs (small_of (by omega) (by omega) (by omega) (by omega) (by omega) (by omega) hrs (by omega)) (fun h5 I hi5 hk5 hI5 => ?_)
  have F5 := fr_kept F3 hk5
  have N5 := news_kept N3 hk5
  have hI1 := base_ne F3 hI5
  have hI0 := base_none F3 hI5
  rename_i D hh2 ltD hh3 FF NN hh4 tkB ta tb tc kk
  have MD := N5 _ (.head _)
  have Mc := N5 _ (.tail _ (.head _))
  dsimp only at MD Mc
  have hDL : D ≠ L' := MD.2.1
  have hDg : g.get? D = none := MD.2.2
  have hcL : L' + 1 ≠ L' := Mc.2.1
  have hcg : g.get? (L' + 1) = none := Mc.2.2
  have hDI : @Ne Nat D I := Nat.ne_of_lt (Nat.lt_of_lt_of_le (Heap.lt_size (N3 _ (.head _)).1) hI5)
  have hcI : @Ne Nat (L' + 1) I := Nat.ne_of_lt (Nat.lt_of_lt_of_le (Heap.lt_size (N3 _ (.tail _ (.head _))).1) hI5)
  refine ⟨I, _, _, n, _, fun i h => IsRangeIter h I (0 + (i : Nat) * 1) ((n : Int) - (i : Nat)) 1, fun i s' => NmInv g s s' L' D n tn i, rfl, Walks.range (A := A.deeper _) hh I 0 1 n, ⟨_, _, _, [], _, _, _, rfl, F5, rfl, rfl, MD.1, rfl, Mc.1, dc⟩, hi5, ?_, ?_⟩
  · clear N5 N3 F3 F5 MD Mc hi5 hk5 R3 kk FF NN
    rintro i v s' h6 tk6 hi ⟨t6, rfl⟩ ⟨h7, tk7, m, l, nn, oc, vc, rfl, F7, e1, e2, e3, e4, e5, e6⟩ hk6 st6
    have F8 := fr_wr F7 hk6 (by simpa using hI1.symm) (by simpa using hI0)
    have N8 := news_cons (news_cons (news_cons News.nil st6 hI1 hI0) (hk6 _ _ (by simpa using hcI) e5) hcL hcg) (hk6 _ _ (by simpa using hDI) e3) hDL hDg
    clear F7
    rw [show (0 : Int) + (i : Int) * 1 = (i : Int) from by omega]
    repeat' (((fail_if_success with_reducible first | refine gdW ?_ | refine gdF ?_ | refine gdL ?_ | refine gdT ?_ | refine gdC ?_ | refine gdM (by decide) ?_ | show PySem.wpAt _ _ _ _ _ _ _); first | walk1 | (dsimp only; walk1)))
    with_reducible rename Fr _ _ _ _ => F9
    refine lcA F9 (by with_unfolding_all rfl) (by with_unfolding_all rfl) (by decide) (by rfl) (by decide) (by rfl) (by rfl) (by rfl) ?_
    repeat' (((fail_if_success with_reducible first | refine gdW ?_ | refine gdF ?_ | refine gdL ?_ | refine gdT ?_ | refine gdC ?_ | refine gdM (by decide) ?_ | show PySem.wpAt _ _ _ _ _ _ _); first | walk1 | (dsimp only; walk1)))
    with_reducible rename Fr _ _ _ _ => F10
    with_reducible rename News _ _ _ _ => N10
    refine tup_src (A := A.deeper _) hh F10 N10 (.head _) rfl ⟨_, rfl⟩ (by exact Nat.le_of_ble_eq_true rfl) (fun gg => ?_)
    clear F10 N10
    refine kcg (fun j ys nw => ∃ l : List (Str × Tok), nw = _ ∧ ys = strValues l ∧ l.map (·.1) = (List.range j).map (bitOf i)) ⟨[], rfl, rfl, rfl⟩ ?_ ?_
    · rintro j ys nw v IC oI C oC Dl m2 h11 tk11 E' hj hv ⟨lb, rfl, rfl, eb⟩ hoC hm2 F12 N12 off nes
      have hj5 : j < 5 := hj
      obtain ⟨tp, rfl⟩ : ∃ t, v = .int ((4 - j : Nat) : Int) t := by
        rcases j with _ | _ | _ | _ | _ | j
        case succ.succ.succ.succ.succ => omega
        all_goals exact ⟨_, (Option.some.inj hv).symm⟩
      repeat' (((fail_if_success with_reducible first | refine gdW ?_ | refine gdF ?_ | refine gdL ?_ | refine gdT ?_ | refine gdC ?_ | refine gdM (by decide) ?_ | show PySem.wpAt _ _ _ _ _ _ _); first | walk1 | (dsimp only; walk1)))
      · have hb := ‹Int.fmod (Int.fdiv (i : Int) _) 2 = 1›
        rw [show ((4 - j : Nat) : Int).toNat = 4 - j from rfl, bit_eq] at hb
        refine cend F12 N12 off (by simp) (fun _ _ e => e) ⟨lb ++ [(Str.ofString "a", _)], rfl, by simp [strValues]; rfl, lb_step eb ?_⟩
        rw [bitOf, if_pos (by omega)]
      · have hb := ‹Int.fmod (Int.fdiv (i : Int) _) 2 ≠ 1›
        rw [show ((4 - j : Nat) : Int).toNat = 4 - j from rfl, bit_eq] at hb
        refine cend F12 N12 off (by simp) (fun _ _ e => e) ⟨lb ++ [(Str.ofString "A", _)], rfl, by simp [strValues]; rfl, lb_step eb ?_⟩
        rw [bitOf, if_neg (by omega)]
    · rintro ys nw ⟨lb, rfl, rfl, eb⟩
      intro Db h13 tk13 F13 N13 o13
      repeat' (((fail_if_success with_reducible first | refine gdW ?_ | refine gdF ?_ | refine gdL ?_ | refine gdT ?_ | refine gdC ?_ | refine gdM (by decide) ?_ | show PySem.wpAt _ _ _ _ _ _ _); first | walk1 | (dsimp only; walk1)))
      all_goals (try k_data)
      with_reducible rename Fr _ _ _ _ => F14
      with_reducible rename News _ _ _ _ => N14
      have hlb : lb.length = 5 := by have := congrArg List.length eb; simpa using this
      refine SC.join (l := lb) ⟨_, (N14 _ (.head _)).1, rfl, _, rfl⟩ eb (joinTotal_le _ ?_) (fun t15 k15 => ?_)
      · exact bits_sum i
      repeat' (((fail_if_success with_reducible first | refine gdW ?_ | refine gdF ?_ | refine gdL ?_ | refine gdT ?_ | refine gdC ?_ | refine gdM (by decide) ?_ | show PySem.wpAt _ _ _ _ _ _ _); first | walk1 | (dsimp only; walk1)))
      all_goals (try k_data)
      with_reducible rename Fr _ _ _ _ => F15
      with_reducible rename News _ _ _ _ => N15
      refine min_nat (A := A.deeper _) hh (Nat.le_of_lt hi) (fun h16 tk16 t16 k16 => ?_)
      have F16 := fr_kept F15 k16
      have N16 := news_kept N15 k16
      have hmn := nm_le n i hn (Nat.le_of_lt hi)
      clear F15 N15
      repeat' (((fail_if_success with_reducible first | refine gdW ?_ | refine gdF ?_ | refine gdL ?_ | refine gdT ?_ | refine gdC ?_ | refine gdM (by decide) ?_ | show PySem.wpAt _ _ _ _ _ _ _); first | walk1 | (dsimp only; walk1)))
      all_goals (try k_data)
      refine SBL.add (fun t17 k17 _ => ?_) ?_
      rotate_left
      · exact add_sz (bits_join_le i) (len_item _ _)
      repeat' (((fail_if_success with_reducible first | refine gdW ?_ | refine gdF ?_ | refine gdL ?_ | refine gdT ?_ | refine gdC ?_ | refine gdM (by decide) ?_ | show PySem.wpAt _ _ _ _ _ _ _); first | walk1 | (dsimp only; walk1)))
      all_goals (try k_data)
      with_reducible rename Fr _ _ _ _ => F18
      with_reducible rename News _ _ _ _ => N18
      have PD := N18 _ (.tail _ (.tail _ (.head _)))
      have Pc := N18 _ (.tail _ (.tail _ (.tail _ (.head _))))
      have PI := N18 _ (.tail _ (.tail _ (.tail _ (.tail _ (.head _)))))
      dsimp only at PD Pc PI
      have hll : l.length = i := by have := congrArg List.length e4; simpa using this
      refine append_at PD.1 (fun h19 s19 e19 => ?_) (by rw [PySem.sizeLine_eq, List.size_toArray, strValues, List.length_map]; omega)
      have F19 := fr_same F18 s19 hDL hDg
      clear F18 N18
      repeat' (((fail_if_success with_reducible first | refine gdW ?_ | refine gdF ?_ | refine gdL ?_ | refine gdT ?_ | refine gdC ?_ | refine gdM (by decide) ?_ | show PySem.wpAt _ _ _ _ _ _ _); first | walk1 | (dsimp only; walk1)))
      all_goals (try k_data)
      have hcD : @Ne Nat (L' + 1) D := Nat.ne_of_lt ltD
      refine ⟨⟨h19, _, _, l ++ [(nameOf n i, t17)], nn + 1, _, _, rfl, F19, (if_neg (by decide)).trans e1, (if_neg (by decide)).trans e2, e19.trans (congrArg some (push_obj l (nameOf n i) t17 (nn + 1))), by rw [List.map_append, e4, List.range_succ, List.map_append]; rfl, (s19.2 _ hcD).trans Pc.1, ‹_ = Data.cell (some (Value.int (i : Int) t6))›⟩, (s19.2 _ (Ne.symm hDI)).trans PI.1⟩
  · rintro s' h6 tk6 ⟨h7, tk7, m, l, nn, oc, vc, rfl, F7, e1, e2, e3, e4, e5, e6⟩ hk6
    have F8 := fr_wr F7 hk6 (by simpa using hI1.symm) (by simpa using hI0)
    have N8 := news_cons News.nil (hk6 _ _ (by simpa using hDI) e3) hDL hDg
    clear F7
    dsimp only
    repeat' (((fail_if_success with_reducible first | refine gdW ?_ | refine gdF ?_ | refine gdL ?_ | refine gdT ?_ | refine gdC ?_ | refine gdM (by decide) ?_ | show PySem.wpAt _ _ _ _ _ _ _); first | walk1 | (dsimp only; walk1)))
    all_goals (try k_data)
    exact hQ D h6 tk6 ⟨l, nn, e4, (hk6 _ _ (by simpa using hDI) e3)⟩ (by rw [hg] at hDg; exact hDg) (fun b o e => F8.keep b o (by rw [hg]; exact e))
end


section
variable {bb : Bool} {prog : Program} {w : World} {A : Around} {E : Value → Shared → Prop} {s : Shared}
theorem wpN_keep {α : Type} {M : Model} {vs : List Value} {m : Sem α} {Q : α → Shared → Prop} (h : wpN bb M A m Q E s) : wpN bb M A (m.keep vs) Q E s :=
  fun Γ p hΓ hn => by rw [Sem.wp_keep]; exact h Γ p hΓ hn
theorem callWithN_fn {K : Frag} {pos : Pos} {f : Addr} {first : List Value} {args : List (Bool × Sem Value)} {Q : Value → Shared → Prop} (hf : fnIn K f = true) (hplain : args.any (·.1) = false) (hlen : args.length ≤ 30)
    (h : wpAny (model prog w) A (evalArgs (.ref f) true args []) (fun a s₁ => K.In s₁.heap ∧ wpN bb (model prog w) A (call (.ref f) (first ++ a.pos) a.kw) Q E s₁) E s) :
    wpN bb (model prog w) A (callWith pos (.ref f) first args []) Q E s := by
  unfold callWith
  refine wpN_bindA (wpAny_holding (wpAny_mono h (fun a s₁ h₁ => wpN_bindA (wpAny_standAt ?_)) fun _ _ x => x))
  simp only [hplain, List.any_nil, Bool.or_false, List.length_nil, Nat.mul_zero, Nat.add_zero]
  unfold fnIn at hf
  split at hf
  · rename_i o fd e
    refine wpN_bindA ((show Looks (model prog w) s₁.heap (keeperOf (.ref f)) Keeper.frame from (Looks.ld (part := none) (h₁.1 _ _ e)).andThen .now).here ?_)
    dsimp only
    rw [if_neg (by omega)]
    refine wpN_bind ?_
    unfold callMarked
    exact wpN_keep (wpN_mono h₁.2 (fun r s₂ hr => wpN_any (wpAny_bind (wpAny_holding (wpAny_point (wpAny_pure hr))))) fun _ _ x => x)
  · cases hf
end


theorem PartsAt.but {h h' : Heap} {S : List Addr} {vs : Array Value} {parts : List (Str × Str)} (hp : PartsAt h vs parts) (k : ∀ b o, b ∉ S → h.get? b = some o → h'.get? b = some o) (hS : ∀ b ∈ S, ∀ o, h.get? b = some o → ∀ its n, o.data ≠ .seq its n) : PartsAt h' vs parts := by
  obtain ⟨h1, Ts, tf, tx, h2⟩ := hp
  refine ⟨h1, Ts, tf, tx, fun j hj => ⟨(h2 j hj).1, ?_⟩⟩
  obtain ⟨o, e1, e2, n, e3⟩ := (h2 j hj).2
  exact ⟨o, k _ _ (fun hm => hS _ hm _ e1 _ _ e3) e1, e2, n, e3⟩
theorem FmtAt.but {P : Params} {h h' : Heap} {S : List Addr} {fa da ln a dx : Addr} {mx : Int} {rows : List Str} {parts : List (Str × Str)} (X : FmtAt P h fa da ln a dx mx rows parts) (k : ∀ b o, b ∉ S → h.get? b = some o → h'.get? b = some o)
    (hS : ∀ b ∈ S, ∀ o, h.get? b = some o → ∀ its n, o.data ≠ .seq its n) (hne : ∀ x ∈ [fa, da, ln, a, dx], x ∉ S) : FmtAt P h' fa da ln a dx mx rows parts := by
  obtain ⟨tk, n, e1⟩ := X.da_
  obtain ⟨l, n2, e2, e3⟩ := X.ln_
  obtain ⟨vs, n3, tk2, t0, n4, e4, e5⟩ := X.acc
  exact ⟨k _ _ (hne _ (by simp)) X.fa_, ⟨tk, n, k _ _ (hne _ (by simp)) e1⟩, ⟨l, n2, e2, k _ _ (hne _ (by simp)) e3⟩, ⟨vs, n3, tk2, t0, n4, ⟨k _ _ (hne _ (by simp)) e4.at_, k _ _ (hne _ (by simp)) e4.dx_⟩, e5.but k hS⟩, X.lo, X.ap⟩
/-- what stands between the formatter's calls in the rows' frame -/
structure RowInv (w : World) (mg mb : Str → Option Value) (s : Shared) (g : Heap) (L nA fa da ln a dx : Addr) (mx : Int) (tl : Value) (news : List (Addr × Obj)) (rows : List Str) (parts : List (Str × Str)) (s' : Shared) : Prop where
  fr : ∃ m, Fr g L s'.heap m ∧ m "formatter" = some (.ref fa) ∧ m "names" = some (.ref nA) ∧ m "tail" = some tl
  N : News g L s'.heap news
  ok : Ok w mg mb s'.heap
  X : FmtAt w.params s'.heap fa da ln a dx mx rows parts
  tab : ∀ P ∈ tabs, ∀ ps, TabAt s.heap P ps → ∃ more, TabAt s'.heap P (ps ++ more)
  gens : AllBare s.gens → AllBare s'.gens
  os : s'.os = s.os
section
variable {w : World} {mg mb : Str → Option Value} {s s1 s2 : Shared} {g : Heap} {L nA fa da ln a dx : Addr} {mx : Int} {tl : Value} {news : List (Addr × Obj)} {rows rows' : List Str} {parts parts' : List (Str × Str)}
theorem RowInv.ext {S : List Addr} (R : RowInv w mg mb s g L nA fa da ln a dx mx tl news rows parts s1) (y : Ext S s1 s2) (hg : ∀ b ∈ S, g.get? b = none) (ht : ∀ b ∈ tabs, g.get? b = none) (hL : L ∉ S) (hL2 : 240 ≤ L) (hS : ∀ b ∈ S, 240 ≤ b) (hn : ∀ p ∈ news, p.1 ∉ S ∧ p.1 ∉ tabs)
    (X' : FmtAt w.params s2.heap fa da ln a dx mx rows' parts') : RowInv w mg mb s g L nA fa da ln a dx mx tl news rows' parts' s2 := by
  obtain ⟨⟨m, F, e⟩, N, O, X, tb, gn, os⟩ := R
  refine ⟨⟨m, fr_ext F y hg ht hL hL2, e⟩, fun p hp => ⟨y.keep _ _ (hn p hp).1 (hn p hp).2 (N p hp).1, (N p hp).2⟩, O.ext y hS, X', fun P hP ps e => ?_, fun q => y.gens (gn q), y.os.trans os⟩
  obtain ⟨m1, e1⟩ := tb P hP ps e
  obtain ⟨m2, e2⟩ := y.tab P hP _ e1
  exact ⟨m1 ++ m2, by rw [← Array.append_assoc]; exact e2⟩
theorem RowInv.but {S : List Addr} {h' : Heap} {tk : Nat} {m' : Str → Option Value} (R : RowInv w mg mb s g L nA fa da ln a dx mx tl news rows parts s1) (k : Kept S s1.heap h') (F' : Fr g L h' m') (hm : m' "formatter" = some (.ref fa) ∧ m' "names" = some (.ref nA) ∧ m' "tail" = some tl)
    (hS : ∀ b ∈ S, 240 ≤ b) (hd : ∀ b ∈ S, ∀ o, s1.heap.get? b = some o → ∀ its n, o.data ≠ .seq its n) (hne : ∀ x ∈ [fa, da, ln, a, dx], x ∉ S) (hn : ∀ p ∈ news, p.1 ∉ S) :
    RowInv w mg mb s g L nA fa da ln a dx mx tl news rows parts { s1 with heap := h', toks := tk } := by
  obtain ⟨⟨m, F, e⟩, N, O, X, tb, gn, os⟩ := R
  have y : Ext S s1 { s1 with heap := h', toks := tk } := kept_ext k hS
  refine ⟨⟨m', F', hm⟩, fun p hp => ⟨k _ _ (hn p hp) (N p hp).1, (N p hp).2⟩, O.ext y hS, X.but (fun b o => k b o) hd hne, fun P hP ps e => ?_, gn, os⟩
  obtain ⟨m1, e1⟩ := tb P hP ps e
  obtain ⟨m2, e2⟩ := y.tab P hP _ e1
  exact ⟨m1 ++ m2, by rw [← Array.append_assoc]; exact e2⟩
end
noncomputable def ptsAt (bl : Str) (cs : Nat → Str) (c r j : Nat) : List (Str × Str) := (List.range j).map fun k => (bl, cs (r * c + k))
noncomputable def rowsTx (bl : Str) (cs : Nat → Str) (c r : Nat) : List Str := (List.range r).map fun t => textOf (ptsAt bl cs c t c)
theorem ptsAt_succ (bl : Str) (cs : Nat → Str) (c r j : Nat) : ptsAt bl cs c r j ++ [(bl, cs (r * c + j))] = ptsAt bl cs c r (j + 1) := by simp [ptsAt, List.range_succ]
theorem ptsAt_len (bl : Str) (cs : Nat → Str) (c r j : Nat) : (ptsAt bl cs c r j).length = j := by simp [ptsAt]
theorem rowsTx_succ (bl : Str) (cs : Nat → Str) (c r : Nat) : rowsTx bl cs c r ++ [textOf (ptsAt bl cs c r c)] = rowsTx bl cs c (r + 1) := by simp [rowsTx, List.range_succ]
theorem ptsAt_one (bl : Str) (cs : Nat → Str) (c r : Nat) : [(bl, cs (r * c + c))] = ptsAt bl cs c (r + 1) 1 := by simp [ptsAt, Nat.succ_mul]
theorem lenOf_pts {bl : Str} {cs : Nat → Str} {c r b : Nat} (hb : bl.length = b) : ∀ {j : Nat}, (∀ k, k < j → (cs (r * c + k)).length = 6) → lenOf (ptsAt bl cs c r j) = j * (6 + b)
  | 0, _ => by simp [ptsAt, lenOf]
  | j + 1, h => by
    have ih := lenOf_pts hb (j := j) (fun k hk => h k (Nat.lt_succ_of_lt hk))
    rw [← ptsAt_succ]
    simp only [lenOf, List.map_append, List.sum_append, List.map_cons, List.map_nil, List.sum_cons, List.sum_nil] at ih ⊢
    rw [ih, hb, h j (Nat.lt_succ_self _), Nat.succ_mul]
    omega


noncomputable def blOf (b : Nat) : Str := Txt.mul (Str.ofString " ") (b : Int)
theorem blOf_facts {b : Nat} (h : b ≤ 3) : (blOf b).length = b ∧ (∀ i, i < b → (blOf b).cps.getD i 0 = 32) ∧ (1 ≤ b → (blOf b).cps[0]? = some 32) ∧ PyData.strOk (blOf b) = true := by
  rcases b with _ | _ | _ | _ | b
  · decide +kernel
  · decide +kernel
  · decide +kernel
  · decide +kernel
  · omega
noncomputable def csOf (names : List Str) (c : Nat) (deck : List UInt8) (k : Nat) : Str := names.getD ((swapL c deck).getD k 0).toNat (Str.ofString "")
theorem cs_len {names : List Str} {c : Nat} {deck : List UInt8} (hidx : ∀ k, k < deck.length → ((swapL c deck).getD k 0).toNat < names.length) (hnl : ∀ x ∈ names, x.length = 6) {k : Nat} (hk : k < deck.length) : (csOf names c deck k).length = 6 := by
  have h := hidx k hk
  rw [csOf, List.getD_eq_getElem?_getD, List.getElem?_eq_getElem h]
  exact hnl _ (List.getElem_mem h)
theorem cs_mem {names : List Str} {c : Nat} {deck : List UInt8} (hidx : ∀ k, k < deck.length → ((swapL c deck).getD k 0).toNat < names.length) {k : Nat} (hk : k < deck.length) : csOf names c deck k ∈ names := by
  have h := hidx k hk
  rw [csOf, List.getD_eq_getElem?_getD, List.getElem?_eq_getElem h]
  exact List.getElem_mem h
theorem len_cases {c b room j : Nat} (hj : j ≤ c) (hr : room < 6 + b) : (j + 1) * (6 + b) ≤ c * (6 + b) + room ↔ j < c := by
  constructor
  · intro h
    have h2 : (j + 1) * (6 + b) < (c + 1) * (6 + b) := by rw [Nat.succ_mul c]; omega
    have := Nat.lt_of_mul_lt_mul_right h2
    omega
  · intro h
    have := Nat.mul_le_mul_right (6 + b) (show j + 1 ≤ c by omega)
    omega
theorem mx_nat (c b room : Nat) : (c : Int) * (6 + (b : Int)) + (room : Int) = ((c * (6 + b) + room : Nat) : Int) := by push_cast; rfl
theorem list_item {prog : Program} {w : World} {A : Around} {E : Value → Shared → Prop} {s : Shared} {g : Heap} {value slice : PySem.Expr} {l : Addr} {its : Array Value} {n : Nat} {k : Int} {u : Tok} {v : Value} {Q : Value → Shared → Prop}
    (hgn : g.get? l = some { cls := .type "list", data := .seq its n }) (hl : s.heap.get? l = some { cls := .type "list", data := .seq its n }) (h0 : 0 ≤ k) (hhi : k < 2 ^ 63) (hx : its[k.toNat]? = some v) (h : Q v s)
    (hs : subscripted slice false (.ref l) (.int k u) = operate [.ref l, .int k u] (getItem (.ref l) (.int k u)) := by with_unfolding_all rfl) :
    wpAny (model prog w) A (subscriptTail value slice (.ref l) (.int k u)) Q E s :=
  have hL : s.heap.IsList l its := ⟨_, hl, rfl, n, rfl⟩
  tail_any hL.typeIs slot_list_getitem.lookup (wpAny_getItem_list hL h0 hhi hx h) hs
theorem fn_bs {w : World} : fnIn (Mine.hd.heap_1 w.params) 210 = true := by k_is
theorem bindL_l {K : Str → Option NameKind} {n : Str} {v : Value} {r : List (Str × Value)} {m : Str → Option Value} (h : K n = some .local) : bindL K ((n, v) :: r) m = bindL K r (fun y => if y = n then some v else m y) := by rw [bindL, if_pos h]
theorem bindL_c {K : Str → Option NameKind} {n : Str} {v : Value} {r : List (Str × Value)} {m : Str → Option Value} (h : K n = some .cell) : bindL K ((n, v) :: r) m = bindL K r m := by rw [bindL, if_neg (by rw [h]; simp)]
theorem bindL_n {K : Str → Option NameKind} {m : Str → Option Value} : bindL K [] m = m := rfl


theorem bl_toList {b : Nat} (h : b ≤ 3) : (blOf b).cps.toList = List.replicate b 32 := by
  rcases b with _ | _ | _ | _ | b
  · decide +kernel
  · decide +kernel
  · decide +kernel
  · decide +kernel
  · omega
noncomputable def rowL (cs : Nat → Str) (c i : Nat) : List (List Nat) := (List.range c).map fun m => (cs (i * c + m)).cps.toList
theorem row_text {b : Nat} (hb : b ≤ 3) (cs : Nat → Str) {c : Nat} (hc : 1 ≤ c) (i : Nat) : (textOf (ptsAt (blOf b) cs c i c)).cps.toList = List.replicate b 32 ++ coreL b (rowL cs c i) := by
  rw [textOf_toList, ptsAt, List.flatMap_map]
  have e : (fun a => (blOf b, cs (i * c + a)).1.cps.toList ++ (blOf b, cs (i * c + a)).2.cps.toList) = fun a => List.replicate b 32 ++ (cs (i * c + a)).cps.toList := by
    funext a
    show (blOf b).cps.toList ++ _ = _
    rw [bl_toList hb]
  rw [e]
  have e2 : ((List.range c).flatMap fun a => List.replicate b 32 ++ (cs (i * c + a)).cps.toList) = (rowL cs c i).flatMap (fun n => List.replicate b 32 ++ n) := by
    rw [rowL, List.flatMap_map]
  rw [e2]
  obtain ⟨n, r, h⟩ : ∃ n r, rowL cs c i = n :: r := by
    cases q : rowL cs c i with
    | nil =>
      have := congrArg List.length q
      simp only [rowL, List.length_map, List.length_range, List.length_nil] at this
      omega
    | cons n r => exact ⟨n, r, rfl⟩
  rw [h, core_flat]
noncomputable def tailN (tail : Nat) : Nat := if 1 < tail then tail else 0
theorem tl_space {t : Nat} (h : t ≤ 3) (h2 : 1 < t) : Txt.isspace (textOf ([] ++ [(blOf t, Str.ofString "")])) = true ∧ lenOf ([] ++ [(blOf t, Str.ofString "")]) ≠ 0 ∧ ¬ (blOf t, Str.ofString "") = (Str.ofString " ", Str.ofString "") := by
  rcases t with _ | _ | _ | _ | t
  · omega
  · omega
  · decide +kernel
  · decide +kernel
  · omega
theorem tl_none {t : Nat} (h2 : ¬ 1 < t) : lenOf (nlParts [] (blOf t) (Str.ofString "")) = 0 := by
  rcases t with _ | _ | t
  · decide +kernel
  · decide +kernel
  · omega
theorem tl_text {t : Nat} (h : t ≤ 3) : (textOf ([] ++ [(blOf t, Str.ofString "")])).cps.toList = List.replicate t 32 := by
  rw [textOf_toList]
  show ((blOf t).cps.toList ++ (Str.ofString "").cps.toList) ++ [] = _
  rw [bl_toList h, show (Str.ofString "").cps.toList = [] from by decide +kernel]
  simp
theorem line_toList {b tail : Nat} (hb : b ≤ 3) (ht : tail ≤ 3) (cs : Nat → Str) {c q : Nat} (hc : 1 ≤ c) (hq : 1 ≤ q) {i : Nat} (hi : i < q) :
    ((nlRows (rowsTx (blOf b) cs c q) (nlParts [] (blOf tail) (Str.ofString ""))).getD i (Str.ofString "")).cps.toList = List.replicate b 32 ++ coreL b (rowL cs c i) ++ List.replicate (if i + 1 = q then tailN tail else 0) 32 := by
  have hrow : (rowsTx (blOf b) cs c q).getD i (Str.ofString "") = textOf (ptsAt (blOf b) cs c i c) := by simp [rowsTx, hi, List.getD_eq_getElem?_getD]
  by_cases h : 1 < tail
  · obtain ⟨h1, h2, h3⟩ := tl_space ht h
    have hne : rowsTx (blOf b) cs c q ≠ [] := fun e => by
      have := congrArg List.length e
      simp only [rowsTx, List.length_map, List.length_range, List.length_nil] at this
      omega
    rw [nlParts, if_neg h3, nlRows, if_neg h2, if_pos ⟨h1, hne⟩, tailN, if_pos h]
    obtain ⟨q', rfl⟩ : ∃ q', q = q' + 1 := ⟨q - 1, by omega⟩
    rw [← rowsTx_succ]
    rw [List.dropLast_concat, List.getLastD_concat]
    by_cases hl : i + 1 = q' + 1
    · rw [if_pos hl]
      have hi' : i = (rowsTx (blOf b) cs c q').length := by simp [rowsTx]; omega
      have hiq : i = q' := by omega
      rw [List.getD_eq_getElem?_getD, hi', List.getElem?_concat_length]
      show ((textOf (ptsAt (blOf b) cs c q' c)).cps ++ (textOf _).cps).toList = _
      rw [Array.toList_append, tl_text ht, row_text hb cs hc, ← hi', hiq]
    · rw [if_neg hl]
      have hi' : i < (rowsTx (blOf b) cs c q').length := by simp [rowsTx]; omega
      rw [List.getD_eq_getElem?_getD, List.getElem?_append_left hi']
      have hiq : i < q' := by omega
      simp only [rowsTx, List.getElem?_map, List.getElem?_range hiq, Option.map_some, Option.getD_some, row_text hb cs hc, List.replicate_zero, List.append_nil]
  · rw [nlRows, if_pos (tl_none h), hrow, row_text hb cs hc, tailN, if_neg h]
    simp
theorem line_count {b tail : Nat} (ht : tail ≤ 3) (cs : Nat → Str) {c q : Nat} (hq : 1 ≤ q) : (nlRows (rowsTx (blOf b) cs c q) (nlParts [] (blOf tail) (Str.ofString ""))).length = q := by
  have hr : (rowsTx (blOf b) cs c q).length = q := by simp [rowsTx]
  by_cases h : 1 < tail
  · obtain ⟨h1, h2, h3⟩ := tl_space ht h
    have hne : rowsTx (blOf b) cs c q ≠ [] := fun e => by rw [e] at hr; simp at hr; omega
    rw [nlParts, if_neg h3, nlRows, if_neg h2, if_pos ⟨h1, hne⟩, List.length_append, List.length_dropLast, hr]
    simp
    omega
  · rw [nlRows, if_pos (tl_none h), hr]
noncomputable def wordsAt (names : List Str) (c : Nat) (deck : List UInt8) (k : Nat) : List Str := (List.range c).map fun m => csOf names c deck (k * c + m)
/-- what strip and split give of a line -/
theorem row_facts {b tail : Nat} (hb1 : 1 ≤ b) (hb : b ≤ 3) (cs : Nat → Str) {c i t : Nat} (hc : 1 ≤ c) (hc2 : c ≤ 20) (hl : ∀ m, m < c → (cs (i * c + m)).length = 6) (hn : ∀ m, m < c → ∀ ch ∈ (cs (i * c + m)).cps.toList, ch ≠ 32) {x : Str}
    (hx : x.cps.toList = List.replicate b 32 ++ coreL b (rowL cs c i) ++ List.replicate t 32) :
    ∃ k, 0 < k ∧ k ≤ 200 ∧ x.length = b + k + t ∧ (∀ j, j < b → x.cps.getD j 0 = 32) ∧ x.cps.getD b 0 ≠ 32 ∧ x.cps.getD (b + k - 1) 0 ≠ 32 ∧ (∀ j, b + k ≤ j → j < b + k + t → x.cps.getD j 0 = 32) ∧
      Txt.split ⟨((x.cps.toList.drop b).take k).toArray⟩ (blOf b) = (List.range c).map fun m => cs (i * c + m) := by
  obtain ⟨n, r, hnr⟩ : ∃ n r, rowL cs c i = n :: r := by
    cases q : rowL cs c i with
    | nil =>
      have := congrArg List.length q
      simp only [rowL, List.length_map, List.length_range, List.length_nil] at this
      omega
    | cons n r => exact ⟨n, r, rfl⟩
  have hmem : ∀ z ∈ n :: r, z.length = 6 ∧ 32 ∉ z := by
    intro z hz
    rw [← hnr] at hz
    simp only [rowL, List.mem_map, List.mem_range] at hz
    obtain ⟨m, hm, rfl⟩ := hz
    exact ⟨hl m hm, fun h => hn m hm 32 h rfl⟩
  have hlen := core_len b n r (fun z hz => (hmem z hz).1)
  have hrl : r.length + 1 = c := by
    have := congrArg List.length hnr
    simp only [rowL, List.length_map, List.length_range, List.length_cons] at this
    omega
  have hk1 : (coreL b (n :: r)).length ≤ 200 := by
    rw [hlen, hrl]
    have := Nat.mul_le_mul (show r.length ≤ 20 by omega) hb
    omega
  have hk0 : 0 < (coreL b (n :: r)).length := by rw [hlen]; omega
  have hxl : x.length = x.cps.toList.length := rfl
  have getD : ∀ j, x.cps.getD j 0 = x.cps.toList.getD j 0 := fun j => by simp [Array.getD_eq_getD_getElem?, List.getD_eq_getElem?_getD]
  rw [hnr] at hx
  refine ⟨(coreL b (n :: r)).length, hk0, hk1, ?_, ?_, ?_, ?_, ?_, ?_⟩
  · rw [hxl, hx]
    simp only [List.length_append, List.length_replicate]
  · intro j hj
    rw [getD, hx, List.getD_eq_getElem?_getD, List.append_assoc, List.getElem?_append_left (by simpa using hj), List.getElem?_replicate, if_pos hj]
    rfl
  · rw [getD, hx, List.getD_eq_getElem?_getD, List.append_assoc, List.getElem?_append_right (by simp), List.length_replicate, Nat.sub_self, List.getElem?_append_left hk0]
    have hn0 : n ≠ [] := fun e => by have := (hmem n (by simp)).1; rw [e] at this; cases this
    have hh := core_head b n r hn0
    rw [List.head?_eq_getElem?] at hh
    rw [hh]
    cases n with
    | nil => exact absurd rfl hn0
    | cons v z =>
      intro e
      have e' : v = 32 := by simpa using e
      exact (hmem (v :: z) (by simp)).2 (by simp [e'])
  · rw [getD, hx, List.getD_eq_getElem?_getD, List.append_assoc, List.getElem?_append_right (by simp; omega), List.length_replicate, List.getElem?_append_left (by omega)]
    obtain ⟨z, hz, e⟩ := core_last b n r (fun z hz e => by have := (hmem z hz).1; rw [e] at this; cases this)
    rw [List.getLast?_eq_getElem?] at e
    rw [show b + (coreL b (n :: r)).length - 1 - b = (coreL b (n :: r)).length - 1 by omega, e]
    cases hq : z.getLast? with
    | none => have := (hmem z hz).1; rw [List.getLast?_eq_none_iff.mp hq] at this; cases this
    | some v =>
      intro e2
      exact (hmem z hz).2 (by
        have := List.mem_of_getLast? hq
        simp at e2
        rwa [e2] at this)
  · intro j h1 h2
    rw [getD, hx, List.getD_eq_getElem?_getD, List.getElem?_append_right (by simp; omega), List.getElem?_replicate, if_pos (by simp; omega)]
    rfl
  · have hbl := bl_toList hb
    have hbz : (blOf b).length = b := (blOf_facts hb).1
    have hcore : (x.cps.toList.drop b).take (coreL b (n :: r)).length = coreL b (n :: r) := by
      rw [hx, List.append_assoc, List.drop_left' (by simp), List.take_left' rfl]
    rw [hcore, split_core (n := n) (r := r) (by rw [hbz]; exact hbl) (by omega) (fun z hz => (hmem z hz).2) (by rw [hbz]) (by rw [hbz]; show b ≤ (coreL b (n :: r)).length; rw [hlen]; omega) ?_, ← hnr, rowL, List.map_map]
    · apply List.map_congr_left
      intro m hm
      rfl
    · have hk : ∀ b ≤ 3, PySem.Builtin.Str.strKind (blOf b) = 1 := by
        intro b hb
        rcases b with _ | _ | _ | _ | b
        · decide +kernel
        · decide +kernel
        · decide +kernel
        · decide +kernel
        · omega
      exact hk b hb


theorem mul_ok {b : Nat} (h : b ≤ 3) : MulOk (Str.ofString " ") (b : Int) := by
  unfold MulOk
  have h1 : (Str.ofString " ").length = 1 := by decide +kernel
  rw [h1]
  refine ⟨by simp; omega, ?_, ?_⟩
  · rcases b with _ | _ | _ | _ | b
    · decide
    · decide
    · decide
    · decide
    · omega
  · rcases b with _ | _ | _ | _ | b
    · decide
    · decide +kernel
    · decide +kernel
    · decide +kernel
    · omega
theorem g_strip {w : World} : nsIn (Mine.hd.heap_1 w.params) mainGlobals "_strip_padding" = some (some (.ref 196)) := by k_is
theorem fn_st {w : World} : fnIn (Mine.hd.heap_1 w.params) 196 = true := by k_is
section
variable {prog : Program} {w : World} {A : Around} {s : Shared} {mg mb : Str → Option Value} {Q : Value → Shared → Prop} {E : Value → Shared → Prop} {e0 : Env} {m : Str → Option Value}
theorem strip_elt {e1 : Expr} {p1 p2 p3 p4 p5 p7 p8 p9 : Pos} {x : Str} {tx tp tb : Tok} {b a2 k t : Nat} {c1 c2 : Addr}
    (O : Ok w mg mb s.heap) (hd : A.depth + 1 < recursionLimit) (hk : e0.scope.kind = .function) (hl : e0.kindOf "_strip_padding" = some .globalImplicit) (hr : e0.kindOf "row" = some .local) (hp : e0.kindOf "padding" = some .cell) (hb : e0.kindOf "blanks" = some .cell) (hgl : e0.globals = mainGlobals)
    (hC : s.heap.Ns e0.locals m) (hm : m "row" = some (.str x tx)) (hc2 : e0.cells.lookup (Str.ofString "padding") = some c2) (hc1 : e0.cells.lookup (Str.ofString "blanks") = some c1) (h2 : s.heap.IsCell c2 (some (.int ((b + a2 : Nat) : Int) tp))) (h1 : s.heap.IsCell c1 (some (.int (b : Nat) tb)))
    (hk0 : 0 < k) (hk1 : k ≤ 200) (hb3 : b ≤ 3) (ha2 : a2 ≤ 3) (hta : t ≤ a2) (f1 : x.length = b + k + t) (f2 : ∀ j, j < b → x.cps.getD j 0 = 32) (f3 : x.cps.getD b 0 ≠ 32) (f4 : x.cps.getD (b + k - 1) 0 ≠ 32) (f5 : ∀ j, b + k ≤ j → j < b + k + t → x.cps.getD j 0 = 32)
    (he1 : ∀ (s : Shared) (Q : Value → Shared → Prop), (∀ tk t, Q (.str (Str.ofString " ") t) { s with toks := tk }) → wpAny (model prog w) A (eval e1 e0) Q E s)
    (h : ∀ h' tk t t', (∀ b o, s.heap.get? b = some o → h'.get? b = some o) → wpAny (model prog w) A (call (.builtin "str.split") [.str ⟨((x.cps.toList.drop b).take k).toArray⟩ t, .str (blOf b) t']) Q E { s with heap := h', toks := tk })
    (hs1 : starEach [.Name "row" p2, .Name "padding" p3] e0 = [(false, eval (.Name "row" p2) e0), (false, eval (.Name "padding" p3) e0)] := by rfl)
    {pl : Sem Bool} (he : eval (.Call (.Attribute (.Call (.Name "_strip_padding" p1) [.Name "row" p2, .Name "padding" p3] [] p4) "split" p5) [.BinOp e1 .Mult (.Name "blanks" p7) p8] [] p9) e0 = (do
      let ov ← eval (.Call (.Name "_strip_padding" p1) [.Name "row" p2, .Name "padding" p3] [] p4) e0
      standAt p5.atName
      let (f, first) ← holding [ov] (getMethod ov "split" pl)
      callWith p9 f first (backTo p9 (starEach [.BinOp e1 .Mult (.Name "blanks" p7) p8] e0)) []) := by rfl) :
    wpAny (model prog w) A (eval (.Call (.Attribute (.Call (.Name "_strip_padding" p1) [.Name "row" p2, .Name "padding" p3] [] p4) "split" p5) [.BinOp e1 .Mult (.Name "blanks" p7) p8] [] p9) e0) Q E s := by
  refine MethodCall_ (pl := pl) ?_ he
  refine wpN_false (wpN_CallName (trees := [(false, eval (.Name "row" p2) e0), (false, eval (.Name "padding" p3) e0)]) (by rw [hs1]; rfl) ?_)
  refine Calls.Name_function_global hk hl (Calls.loadGlobal_global (env := e0) (show s.heap.Ns e0.globals mg from hgl ▸ O.T.g) (mg_of O.frag O.T.g g_strip) ?_)
  refine callWithN_fn (K := Mine.hd.heap_1 w.params) (fn_st (w := w)) rfl (by simp) (Calls.evalArgs_plain (Calls.spliced_cons (wpAny_Name (wpAny_loadName_local hk hr hC hm (Calls.spliced_cons (wpAny_Name (wpAny_loadName_cell hk hp hc2 h2 (Calls.spliced_nil ⟨O.frag, wpN_any ?_⟩)) (by decide)))) (by decide))))
  refine strip_wp (A := A) O hd x tx tp b k t a2 hk0 f1 (by omega) f2 f3 f4 f5 hta (by omega) (fun t1 h3 tk3 k3 => ?_)
  refine getMethod_builtin (typeIs_str _ _ _) PySem.F.plainAttrs_str PySem.F.slot_str_split PySem.F.type_str_split (fun a e => by cases e) ?_
  refine Calls.callWith_builtin rfl (Calls.evalArgs_plain (Calls.spliced_cons ?_))
  refine wpAny_BinOp (he1 _ _ fun tk4 t4 => ?_)
  refine wpAny_Name (wpAny_loadName_cell hk hb hc1 (v := .int (b : Nat) tb) (by obtain ⟨o, e, r⟩ := h1; exact ⟨o, k3 _ _ e, r⟩) ?_) (by decide)
  refine SB.mul (mul_ok hb3) (fun t5 k5 => Calls.spliced_nil (h _ _ _ _ k3))
end


noncomputable def Ms : List Nat := [8, 6, 14, 12, 15, 20]
noncomputable def dk (M f : Nat) : List Nat := (List.range M).map fun p => f * (p + 1) % (M + 1)
noncomputable def db (M f : Nat) : List UInt8 := (dk M f).map UInt8.ofNat
noncomputable def nms (M : Nat) : List Str := (List.range (M + 1)).map (nameOf (M + 1))
theorem Ms_le {M : Nat} (h : M ∈ Ms) : 6 ≤ M ∧ M ≤ 20 := by
  simp only [Ms, List.mem_cons, List.not_mem_nil, or_false] at h
  omega
theorem dk_len (M f : Nat) : (dk M f).length = M := by simp [dk]
theorem db_len (M f : Nat) : (db M f).length = M := by simp [db, dk_len]
theorem nms_len (M : Nat) : (nms M).length = M + 1 := by simp [nms]
theorem db_at {M f k : Nat} (hM : M ≤ 20) (hk : k < M) : ((db M f).getD k 0).toNat = f * (k + 1) % (M + 1) := by
  have : f * (k + 1) % (M + 1) < M + 1 := Nat.mod_lt _ (Nat.succ_pos _)
  simp only [db, dk, List.getD_eq_getElem?_getD, List.getElem?_map, List.getElem?_range hk, Option.map_some, Option.getD_some]
  rw [UInt8.toNat_ofNat']
  omega
theorem swap_at {M f c k : Nat} (hM : M ≤ 20) (hk : k < M) (hs : swapIx c k < M) : ((swapL c (db M f)).getD k 0).toNat = f * (swapIx c k + 1) % (M + 1) := by
  rw [swapL, List.getD_eq_getElem?_getD, List.getElem?_map, List.getElem?_range (by rw [db_len]; exact hk)]
  simp only [Option.map_some, Option.getD_some]
  exact db_at hM hs
theorem swapIx_at {c r col : Nat} (h : col < c) : swapIx c (r * c + col) = r * c + (c - 1 - col) := by
  unfold swapIx
  have h1 : (r * c + col) / c = r := by rw [Nat.add_comm, Nat.add_mul_div_right _ _ (by omega), Nat.div_eq_of_lt h, Nat.zero_add]
  have h2 : (r * c + col) % c = col := by rw [Nat.add_comm, Nat.add_mul_mod_self_right, Nat.mod_eq_of_lt h]
  rw [h1, h2]
theorem deal {M f c q r col : Nat} (hM : M = q * c) (hc : col < c) : f * (r * c + (c - 1 - col) + 1) % (M + 1) = (f * c % (M + 1)) * (col * q + r + 1) % (M + 1) := by
  have e : c * (col * q + r + 1) = (r * c + (c - 1 - col) + 1) + col * (M + 1) := by
    have e1 : c * (col * q + r + 1) = col * (q * c) + r * c + c := by
      rw [Nat.mul_add, Nat.mul_add, Nat.mul_one, Nat.mul_comm c (col * q), Nat.mul_assoc, Nat.mul_comm c r]
    rw [e1, ← hM, Nat.mul_add col M 1]
    omega
  rw [Nat.mod_mul_mod, Nat.mul_assoc f c, e, Nat.mul_add f (r * c + (c - 1 - col) + 1), ← Nat.mul_assoc f col, Nat.add_mul_mod_self_right]
theorem row_at {M q c r col : Nat} (hM : M = q * c) (hr : r < q) (hc : col < c) : r * c + col < M := by
  have := Nat.mul_le_mul_right c (show r + 1 ≤ q from hr)
  rw [Nat.succ_mul] at this
  omega
theorem pick_at {M f c q r col : Nat} (hM20 : M ≤ 20) (hM : M = q * c) (hr : r < q) (hc : col < c) : csOf (nms M) c (db M f) (r * c + col) = (nms M).getD ((f * c % (M + 1)) * (col * q + r + 1) % (M + 1)) (Str.ofString "") := by
  have h1 := row_at hM hr hc
  have h2 := row_at hM hr (show c - 1 - col < c by omega)
  rw [csOf, swap_at hM20 h1 (by rw [swapIx_at hc]; exact h2), swapIx_at hc, deal hM hc]
theorem idx_ok {M f c q k : Nat} (hM20 : M ≤ 20) (hM : M = q * c) (hc : 1 ≤ c) (hk : k < (db M f).length) : ((swapL c (db M f)).getD k 0).toNat < (nms M).length := by
  rw [db_len] at hk
  have hs : swapIx c k < M := by
    have h1 := Nat.div_add_mod k c
    have h2 := Nat.mod_lt k (show 0 < c by omega)
    have h3 : k / c < q := Nat.div_lt_of_lt_mul (by rw [Nat.mul_comm, ← hM]; exact hk)
    have := row_at hM h3 (show c - 1 - k % c < c by omega)
    exact this
  rw [swap_at hM20 hk hs, nms_len]
  exact Nat.mod_lt _ (Nat.succ_pos _)
theorem nms_ok : ∀ M ∈ Ms, ∀ x ∈ nms M, x.length = 6 ∧ PyData.strOk x = true ∧ ∀ ch ∈ x.cps.toList, Unicode.isSpace ch = false ∧ ch ≠ 32 := by decide +kernel
noncomputable def pks (M f : Nat) : List Str := (dk M f).map fun d => (nms M).getD d (Str.ofString "")
noncomputable def stepsOf (M f : Nat) : List Int := (List.range (M - 1)).map fun p => strcollI ((pks M f).getD p (Str.ofString "")) ((pks M f).getD (p + 1) (Str.ofString ""))
noncomputable def costsOf (M f : Nat) : List Int := (List.range M).map fun p => substI ((nms M).getD (p + 1) (Str.ofString "")) ((pks M f).getD p (Str.ofString ""))
theorem counts_ok : ∀ M ∈ Ms, ∀ f < M + 1, Nat.gcd f (M + 1) = 1 → (stepsOf M f).count 1 = f - 1 ∧ (stepsOf M f).count (-1) = M - f := by decide +kernel
noncomputable def nmF (n a : Nat) : List Nat := [65 + 32 * (a / 16 % 2), 65 + 32 * (a / 8 % 2), 65 + 32 * (a / 4 % 2), 65 + 32 * (a / 2 % 2), 65 + 32 * (a % 2), 97 + min a (n - a)]
theorem nm_ok : ∀ M ∈ Ms, ∀ a < M + 1, nameOf (M + 1) a = ⟨(nmF (M + 1) a).toArray⟩ := by decide +kernel
theorem low_ok : ∀ M ∈ Ms, ∀ a < M + 1, Txt.lower ⟨(nmF (M + 1) a).toArray⟩ = ⟨[97, 97, 97, 97, 97, 97 + min a (M + 1 - a)].toArray⟩ := by decide +kernel
theorem nm_one : ∀ M ∈ Ms, ∀ a < M + 1, ∀ b < M + 1, nmF (M + 1) a = nmF (M + 1) b → a = b := by decide +kernel
theorem subst_nm {M a b : Nat} (hM : M ∈ Ms) (ha : a < M + 1) (hb : b < M + 1) : substI (nameOf (M + 1) a) (nameOf (M + 1) b) = if a = b then 0 else if min a (M + 1 - a) = min b (M + 1 - b) then 1 else 2 := by
  unfold substI
  rw [nm_ok M hM a ha, nm_ok M hM b hb]
  by_cases e : a = b
  · rw [if_pos e, e, if_pos (beq_self_eq_true _)]
  · rw [if_neg e, if_neg (fun h => e (nm_one M hM a ha b hb (List.toArray_inj (congrArg Str.cps (eq_of_beq h))))), low_ok M hM a ha, low_ok M hM b hb]
    by_cases e2 : min a (M + 1 - a) = min b (M + 1 - b)
    · rw [if_pos e2, e2, if_pos (beq_self_eq_true _)]
    · rw [if_neg e2, if_neg (fun h => e2 (by simpa using congrArg Str.cps (eq_of_beq h)))]
theorem nms_at {M d : Nat} (h : d < M + 1) : (nms M).getD d (Str.ofString "") = nameOf (M + 1) d := by
  simp [nms, List.getD_eq_getElem?_getD, List.getElem?_range h]
noncomputable def costN (M f p : Nat) : Int := if p + 1 = f * (p + 1) % (M + 1) then 0 else if min (p + 1) (M + 1 - (p + 1)) = min (f * (p + 1) % (M + 1)) (M + 1 - f * (p + 1) % (M + 1)) then 1 else 2
theorem cost_at {M f p : Nat} (hM : M ∈ Ms) (hp : p < M) : substI ((nms M).getD (p + 1) (Str.ofString "")) ((pks M f).getD p (Str.ofString "")) = costN M f p := by
  have h1 : f * (p + 1) % (M + 1) < M + 1 := Nat.mod_lt _ (Nat.succ_pos _)
  have h2 : (pks M f).getD p (Str.ofString "") = (nms M).getD (f * (p + 1) % (M + 1)) (Str.ofString "") := by
    simp only [pks, dk, List.getD_eq_getElem?_getD, List.getElem?_map, List.getElem?_range hp, Option.map_some, Option.getD_some]
  rw [h2, nms_at h1, nms_at (Nat.succ_lt_succ hp), subst_nm hM (Nat.succ_lt_succ hp) h1]
  rfl
theorem costs_num : ∀ M ∈ Ms, ∀ f < M + 1, Nat.gcd f (M + 1) = 1 → ((List.range M).map (costN M f)).sum = 2 * (M : Int) - 2 * ((Nat.gcd (f - 1) (M + 1) : Nat) - 1 : Int) - ((Nat.gcd (f + 1) (M + 1) : Nat) - 1 : Int) + ((M % 2 : Nat) : Int) := by decide +kernel
theorem costs_ok (M : Nat) (hM : M ∈ Ms) (f : Nat) (hf : f < M + 1) (hg : Nat.gcd f (M + 1) = 1) : (costsOf M f).sum = 2 * (M : Int) - 2 * ((Nat.gcd (f - 1) (M + 1) : Nat) - 1 : Int) - ((Nat.gcd (f + 1) (M + 1) : Nat) - 1 : Int) + ((M % 2 : Nat) : Int) := by
  rw [← costs_num M hM f hf hg, costsOf]
  exact congrArg List.sum (List.map_congr_left fun p hp => cost_at hM (List.mem_range.mp hp))
theorem cop_ok {M c q : Nat} (hM : M = q * c) : Nat.gcd c (M + 1) = 1 := by
  have h1 : Nat.gcd c (M + 1) ∣ c := Nat.gcd_dvd_left _ _
  have h2 : Nat.gcd c (M + 1) ∣ M + 1 := Nat.gcd_dvd_right _ _
  have h3 : Nat.gcd c (M + 1) ∣ M := hM ▸ Nat.dvd_mul_left_of_dvd h1 q
  exact Nat.dvd_one.mp ((Nat.dvd_add_right h3).mp h2)
theorem unit_ok {M f c q : Nat} (hM : M = q * c) (h : Nat.gcd f (M + 1) = 1) : Nat.gcd (f * c % (M + 1)) (M + 1) = 1 := by
  rw [← Nat.gcd_rec, Nat.gcd_comm]
  exact Nat.Coprime.mul_left h (cop_ok hM)


section
variable {w : World} {A : Around} {s : Shared} {mg mb : Str → Option Value} {Q : Value → Shared → Prop} {E : Value → Shared → Prop}
set_option maxHeartbeats 40000000 in
theorem rows_wp (O : Ok w mg mb s.heap) (hd : A.depth + 10 < recursionLimit) (hh : A.handled = none) (hu : A.units < 6000) (deck : List UInt8) (nA : Addr) (names : List Str) (c q b room tail : Nat) (t1 t2 t3 t4 t5 : Tok)
    (hn : RowsAt s.heap nA names) (hc : 1 ≤ c) (hc2 : c ≤ 20) (hq : 1 ≤ q) (hdk : deck.length = q * c) (hdz : deck.length ≤ 20) (hb : 1 ≤ b) (hb2 : b ≤ 3) (hroom : room < 6 + b) (htl : tail ≤ 3)
    (hidx : ∀ k, k < deck.length → ((swapL c deck).getD k 0).toNat < names.length) (hnz : names.length ≤ 1000) (hnl : ∀ x ∈ names, x.length = 6) (hns : ∀ x ∈ names, PyData.strOk x = true) (hnn : ∀ x ∈ names, ∀ ch ∈ x.cps.toList, Unicode.isSpace ch = false ∧ ch ≠ 32) (hQ : ∀ D s' (Ts : List Addr) n, Ext [] s s' → Ts.length = q → s'.heap.get? D = some { cls := .type "list", data := .seq (Ts.map Value.ref).toArray n } → s.heap.get? D = none → (∀ k, k < q → s.heap.get? (Ts.getD k 0) = none ∧ RowsAt s'.heap (Ts.getD k 0) (wordsAt names c deck k)) → Q (.ref D) s') :
    wpN true (model PySem.Challenge.pw_xo0030_01 w) A (call (.ref 227) [.bytes deck.toArray t1, .ref nA, .int c t2, .int b t3, .int room t4, .int tail t5]) Q E s := by
  refine callQC [140, 147] [("deck", .bytes deck.toArray t1), ("names", .ref nA), ("across", .int c t2), ("blanks", .int b t3), ("room", .int room t4), ("tail", .int tail t5)] O (by k_is) (by k_is) (by omega) (BindsTo.of_eq rfl) (by kernel_rfl) (by simp [tabs]) (by decide +kernel) (fun g L' h₁ tk cells hg hL F' NC CA X' T' hk => ?_)
  refine hideG (fun Gz hGz => ?_)
  obtain ⟨lnm, nnm, hln1, hln2⟩ := hn
  have hlg : g.get? nA = some { cls := .type "list", data := .seq (strValues lnm).toArray nnm } := hg ▸ hideAll_get _ hln2 (by
    refine hideG (fun Gz hGz => ?_)
    obtain ⟨pa, ea1, ea2, pb, eb1, eb2⟩ := Tabs.e O.P
    refine hGz ?_
    clear hGz Gz
    intro hm
    simp only [List.mem_cons, List.not_mem_nil, or_false] at hm
    rcases hm with rfl | rfl
    · rw [hln2] at ea1; cases ea1
    · rw [hln2] at eb1; cases eb1)
  obtain ⟨o1, o2, rfl, d1, d2⟩ := CellsAre.two CA
  refine hGz ?_
  clear hGz Gz
  have d2 : o2.data = .cell (some (.int b t3)) := d2
  have d1 : o1.data = .cell none := d1
  rw [bindL_l (by kernel_rfl), bindL_l (by kernel_rfl), bindL_l (by kernel_rfl), bindL_c (by kernel_rfl), bindL_l (by kernel_rfl), bindL_l (by kernel_rfl), bindL_n] at F'
  clear CA
  refine wpN_execs_cons (wpN_any ?_)
  repeat' (((fail_if_success with_reducible first | refine gdW ?_ | refine gdF ?_ | refine gdL ?_ | refine gdT ?_ | refine gdC ?_ | refine gdM (by decide) ?_ | show PySem.wpAt _ _ _ _ _ _ _); first | walk1 | (dsimp only; walk1)))
  all_goals (try k_data)
  have O1 : Ok w mg mb h₁ := O.keeps hk
  refine fmt_wp (w := w) (A := A.deeper _) (by exact O1) (by show A.depth + 1 + 4 < _; omega) hh _ _ _ _ _ (fun fa da ln a dx h2 tk2 X2 hnew k2 => ?_)
  have F2 := fr_kept F' k2
  have hb5 : ∀ x ∈ [fa, da, ln, a, dx], g.get? x = none ∧ x ≠ L' := fun x hx => ⟨base_none F' (hnew x hx), base_ne F' (hnew x hx)⟩
  have hc5 : ∀ x ∈ [fa, da, ln, a, dx], x ≠ L' + 1 ∧ x ≠ L' + 1 + 1 := fun x hx =>
    ⟨Nat.ne_of_gt (Nat.lt_of_lt_of_le (Heap.lt_size (NC _ (.tail _ (.head _))).1) (hnew x hx)), Nat.ne_of_gt (Nat.lt_of_lt_of_le (Heap.lt_size (NC _ (.head _)).1) (hnew x hx))⟩
  have n1 := (NC _ (.head _)).2
  have n2 := (NC _ (.tail _ (.head _))).2
  dsimp only at n1 n2
  have M1 := (NC _ (.head _)).1
  have M2 := (NC _ (.tail _ (.head _))).1
  refine hideG (fun Gz hGz => ?_)
  obtain ⟨tk1, n1', l1, n2', vs1, n3, tkA, t0, n4, e1, hp1, NF⟩ := X2.news hb5
  have hv1 : vs1 = #[] := by have := hp1.1; exact Array.size_eq_zero_iff.mp this
  have hl1 : l1 = [] := by simpa using e1
  subst hv1 hl1
  have G1 := NF _ (.head _)
  have G2 := NF _ (.tail _ (.head _))
  have G3 := NF _ (.tail _ (.tail _ (.head _)))
  have G4 := NF _ (.tail _ (.tail _ (.tail _ (.head _))))
  have G5 := NF _ (.tail _ (.tail _ (.tail _ (.tail _ (.head _)))))
  dsimp only at G1 G2 G3 G4 G5 M1 M2
  obtain ⟨pa, ea1, ea2, pb, eb1, eb2⟩ := Tabs.e O1.P
  refine hGz ?_
  clear hGz Gz
  have hL2 : 240 ≤ L' := hL ▸ size240 O
  have ht : ∀ b ∈ tabs, g.get? b = none := by subst hg; exact hide_tabs fun b hb => by simp only [tabs, List.mem_cons, List.not_mem_nil, or_false] at hb ⊢; exact hb
  have l140 : 140 ≠ L' := Nat.ne_of_lt (Nat.lt_of_lt_of_le (by decide : 140 < 240) hL2)
  have l147 : 147 ≠ L' := Nat.ne_of_lt (Nat.lt_of_lt_of_le (by decide : 147 < 240) hL2)
  have g140 := ht 140 (by simp [tabs])
  have g147 := ht 147 (by simp [tabs])
  have M4 : g.get? 4 = some { cls := .type "module", dict := some builtinsNs } := hg ▸ hideAll_get _ O.M4 (by decide)
  have N2 := news_cons (news_cons (news_cons (news_cons (news_cons (news_cons (news_cons (news_cons (news_cons (News.nil (h₀ := g) (L := L') (h := h2)) (k2 _ _ M2) n2.1 n2.2) (k2 _ _ M1) n1.1 n1.2) G5.1 G5.2.1 G5.2.2) G4.1 G4.2.1 G4.2.2) G3.1 G3.2.1 G3.2.2) G2.1 G2.2.1 G2.2.2) G1.1 G1.2.1 G1.2.2) (k2 _ _ eb1) l147 g147) (k2 _ _ ea1) l140 g140
  clear F' NC
  repeat' (((fail_if_success with_reducible first | refine gdW ?_ | refine gdF ?_ | refine gdL ?_ | refine gdT ?_ | refine gdC ?_ | refine gdM (by decide) ?_ | show PySem.wpAt _ _ _ _ _ _ _); first | walk1 | (dsimp only; walk1)))
  all_goals (try k_data)
  with_reducible rename Fr _ _ _ _ => F3
  with_reducible rename News _ _ _ _ => N3
  refine wpN_execs_cons (forN ?_)
  refine wpN_CallName (trees := [(false, eval (.Name "deck" _) _), (false, eval (.Name "across" _) _)]) rfl ?_
  repeat' (((fail_if_success with_reducible first | refine gdW ?_ | refine gdF ?_ | refine gdL ?_ | refine gdT ?_ | refine gdC ?_ | refine gdM (by decide) ?_ | show PySem.wpAt _ _ _ _ _ _ _); first | walk1 | (dsimp only; walk1)))
  all_goals (try k_data)
  refine callWithN_fn (K := Mine.hd.heap_1 w.params) (fn_bs (w := w)) rfl (by simp) (Calls.evalArgs_plain (Calls.spliced_cons ?_))
  repeat' (((fail_if_success with_reducible first | refine gdW ?_ | refine gdF ?_ | refine gdL ?_ | refine gdT ?_ | refine gdC ?_ | refine gdM (by decide) ?_ | show PySem.wpAt _ _ _ _ _ _ _); first | walk1 | (dsimp only; walk1)))
  all_goals (try k_data)
  refine Calls.spliced_cons ?_
  repeat' (((fail_if_success with_reducible first | refine gdW ?_ | refine gdF ?_ | refine gdL ?_ | refine gdT ?_ | refine gdC ?_ | refine gdM (by decide) ?_ | show PySem.wpAt _ _ _ _ _ _ _); first | walk1 | (dsimp only; walk1)))
  all_goals (try k_data)
  with_reducible rename Fr _ _ _ _ => F4
  with_reducible rename News _ _ _ _ => N4
  have O4 : Ok w mg mb _ := ok_news X' T' M4 F4 N4 ea2 eb2
  have Ha := N4 _ (.head _)
  have Hb := N4 _ (.tail _ (.head _))
  have H1 := N4 _ (.tail _ (.tail _ (.head _)))
  have H2 := N4 _ (.tail _ (.tail _ (.tail _ (.head _))))
  have H3 := N4 _ (.tail _ (.tail _ (.tail _ (.tail _ (.head _)))))
  have H4 := N4 _ (.tail _ (.tail _ (.tail _ (.tail _ (.tail _ (.head _))))))
  have H5 := N4 _ (.tail _ (.tail _ (.tail _ (.tail _ (.tail _ (.tail _ (.head _)))))))
  have H6 := N4 _ (.tail _ (.tail _ (.tail _ (.tail _ (.tail _ (.tail _ (.tail _ (.head _))))))))
  have H7 := N4 _ (.tail _ (.tail _ (.tail _ (.tail _ (.tail _ (.tail _ (.tail _ (.tail _ (.head _)))))))))
  dsimp only at Ha Hb H1 H2 H3 H4 H5 H6 H7
  refine Calls.spliced_nil ⟨X'.keeps F4.keep, byteswap_wp (A := A.deeper _) O4 (by show A.depth + 1 + 1 < _; omega) hh deck c q _ _ hc (by omega) hdk (by omega) (fun tb h5 tk5 k5 => ?_)⟩
  refine KBw.pyIter_bytes ?_
  have hIt : KBw.IsBytesIter (h5.push { cls := .type "bytes_iterator", data := .fields #[.bytes (swapL c deck).toArray tb, .int 0 0] }) h5.objs.size (swapL c deck).toArray tb 0 := ⟨_, Heap.get?_push_size _ rfl, rfl, rfl⟩
  have k6 := fun b o e => Heap.get?_push_of_some { cls := .type "bytes_iterator", data := .fields #[.bytes (swapL c deck).toArray tb, .int 0 0] } (k5 b o e)
  dsimp only at k6
  have F6 := fr_kept F4 k6
  have hI1 := base_ne (fr_kept F4 k5) (Nat.le_refl _)
  have hI0 := base_none (fr_kept F4 k5) (Nat.le_refl _)
  have hIlt := fun b o e => Nat.ne_of_lt (Heap.lt_size (k5 b o e))
  have hI240 : 240 ≤ h5.objs.size := Nat.le_trans hL2 (Nat.le_of_lt (fr_kept F4 k5).ns.lt)
  dsimp only at hIlt ⊢
  generalize hIe : h5.objs.size = I at *
  generalize h5.push { cls := .type "bytes_iterator", data := .fields #[.bytes (swapL c deck).toArray tb, .int 0 0] } = h6 at *
  have hoff : ∀ x ∈ [fa, da, ln, a, dx], x ∉ [I] := al1 (nin1 (hIlt _ _ H1.1)) (al1 (nin1 (hIlt _ _ H2.1)) (al1 (nin1 (hIlt _ _ H3.1)) (al1 (nin1 (hIlt _ _ H4.1)) (al1 (nin1 (hIlt _ _ H5.1)) al0))))
  have hcI : ∀ p ∈ [((L' + 1 + 1 : Addr), o1), (L' + 1, o2)], p.1 ∉ [I] := al1 (nin1 (hIlt _ _ H6.1)) (al1 (nin1 (hIlt _ _ H7.1)) al0)
  have R6 : RowInv w mg mb s g L' nA fa da ln a dx ((c : Int) * (6 + (b : Int)) + (room : Int)) (.int tail t5) [(L' + 1 + 1, o1), (L' + 1, o2)] (rowsTx (blOf b) (csOf names c deck) c 0) (ptsAt (blOf b) (csOf names c deck) c 0 0) ⟨h6, s.gens, s.drawn, tk5, s.os⟩ := by
    refine ⟨⟨_, F6, rfl, rfl, rfl⟩, news_cons (news_cons News.nil (k6 _ _ H7.1) H7.2.1 H7.2.2) (k6 _ _ H6.1) H6.2.1 H6.2.2, O4.keeps k6, ⟨k6 _ _ H1.1, ⟨_, _, k6 _ _ H2.1⟩, ⟨[], _, rfl, k6 _ _ H3.1⟩, ⟨_, _, _, _, _, ⟨k6 _ _ H4.1, k6 _ _ H5.1⟩, ⟨rfl, fun _ => 0, fun _ => 0, fun _ => 0, fun j hj => absurd hj (Nat.not_lt_zero _)⟩⟩, X2.lo, X2.ap⟩, al1 (fun ps e => ?_) (al1 (fun ps e => ?_) al0), id, rfl⟩
    · have e' := hk _ _ e.1
      rw [ea1] at e'
      simp only [Option.some.injEq, Obj.mk.injEq, Data.fields.injEq, true_and, and_true] at e'
      exact ⟨#[], by rw [Array.append_empty, ← e']; exact ⟨k6 _ _ Ha.1, ea2⟩⟩
    · have e' := hk _ _ e.1
      rw [eb1] at e'
      simp only [Option.some.injEq, Obj.mk.injEq, Data.fields.injEq, true_and, and_true] at e'
      exact ⟨#[], by rw [Array.append_empty, ← e']; exact ⟨k6 _ _ Hb.1, eb2⟩⟩
  have hoI : ∃ o, h6.get? I = some o ∧ ∀ its n, o.data ≠ .seq its n := by
    refine hideG (fun Gz hGz => ?_)
    obtain ⟨o, q1, q2, q3⟩ := hIt
    refine hGz ?_
    clear hGz Gz
    exact ⟨o, q1, fun its n e => by rw [q3] at e; cases e⟩
  clear F4 N4 O4 Ha Hb H1 H2 H3 H4 H5 H6 H7 k5 k6 F6 hIlt O1 k2 M1 M2 G1 G2 G3 G4 G5
  refine ⟨I, _, _, _, _, fun i h => KBw.IsBytesIter h I (swapL c deck).toArray tb i, fun i s' => (∃ r j, i = r * c + j ∧ j ≤ c ∧ (0 < i → 0 < j) ∧ RowInv w mg mb s g L' nA fa da ln a dx ((c : Int) * (6 + (b : Int)) + (room : Int)) (.int tail t5) [(L' + 1 + 1, o1), (L' + 1, o2)] (rowsTx (blOf b) (csOf names c deck) c r) (ptsAt (blOf b) (csOf names c deck) c r j) s') ∧
    ∃ o, s'.heap.get? I = some o ∧ ∀ its n, o.data ≠ .seq its n, rfl, KBw.walks (A := A.deeper _) hh I _ tb, ⟨⟨0, 0, by simp, Nat.zero_le _, by simp, R6⟩, hoI⟩, hIt, ?_, ?_⟩
  · --OK
    clear R6 hoI hIt
    rintro i v s7 h8 tk8 hi ⟨cc, u, hcc, rfl⟩ ⟨⟨r, j, hij, hjc, hpos, R⟩, oI, hoI, hoD⟩ k8 st8
    refine hideG (fun Gz hGz => ?_)
    obtain ⟨m, F, em1, em2, em3⟩ := R.fr
    refine hGz ?_
    clear hGz Gz
    have F8 := fr_wr F k8 (by simpa using hI1.symm) (by simpa using hI0)
    have R8 := R.but (tk := tk8) k8 F8 ⟨em1, em2, em3⟩ (by simpa using hI240) (fun b hb o e => by
      rw [List.mem_singleton.mp hb, hoI] at e
      cases e
      exact hoD) hoff hcI
    refine wpAny_assign_Name (wpAny_storeName_local (by rfl) F8.ns (fun h9 hn9 hs9 => ?_) (by rfl))
    have k9 : Kept [L'] h8 h9 := fun b o hb e => (hs9.2 b (show b ≠ L' from by simpa using hb)).trans e
    have F9 : Fr g L' h9 _ := ⟨hn9, fun b o e => (hs9.2 b (fun q => by
      have q' : b = L' := q
      rw [q', Heap.get?_none_of_le F8.above] at e
      cases e)).trans (F8.keep b o e), F8.above⟩
    have R9 := R8.but (S := [L']) (tk := tk8) k9 F9 ⟨(if_neg (by decide)).trans em1, (if_neg (by decide)).trans em2, (if_neg (by decide)).trans em3⟩ (by simpa using hL2) (fun b hb o e => by
      refine hideG (fun Gz hGz => ?_)
      obtain ⟨o', es, ep, q1, q2, q3⟩ := F8.ns
      refine hGz ?_
      clear hGz Gz
      rw [List.mem_singleton.mp hb] at e
      dsimp only at e
      rw [q1] at e
      cases e
      intro its n q
      rw [q2] at q
      cases q) (fun x hx => by simpa using (hb5 x hx).2) (al1 (nin1 n1.1) (al1 (nin1 n2.1) al0))
    refine hideG (fun Gz hGz => ?_)
    obtain ⟨tk9, m1, l9, m2, vs9, m3, tkB, tz, m4, e9, hp9, NF9⟩ := R9.X.news hb5
    refine hGz ?_
    clear hGz Gz
    have N9 := news_cons (news_cons R9.N (NF9 _ (.tail _ (.head _))).1 (NF9 _ (.tail _ (.head _))).2.1 (NF9 _ (.tail _ (.head _))).2.2) (NF9 _ (.head _)).1 (NF9 _ (.head _)).2.1 (NF9 _ (.head _)).2.2
    refine wpN_any ?_
    clear NF9
    repeat' (((fail_if_success with_reducible first | refine gdW ?_ | refine gdF ?_ | refine gdL ?_ | refine gdT ?_ | refine gdC ?_ | refine gdM (by decide) ?_ | show PySem.wpAt _ _ _ _ _ _ _); first | walk1 | (dsimp only; walk1)))
    all_goals (try k_data)
    have hi' : i < q * c := by simpa [swapL, hdk] using hi
    have hcd : ((swapL c deck).getD (r * c + j) 0) = cc := by
      rw [← hij, List.getD_eq_getElem?_getD]
      rw [List.getElem?_toArray] at hcc
      rw [hcc]
      rfl
    have hlt : cc.toNat < names.length := by
      have := hidx (r * c + j) (by rw [hdk]; omega)
      rwa [hcd] at this
    have hx : (strValues lnm).toArray[(cc.toNat : Nat)]? = some (.str (csOf names c deck (r * c + j)) ((lnm.getD cc.toNat (Str.ofString "", 0)).2)) := by
      have hl' : cc.toNat < lnm.length := by rw [← hln1] at hlt; simpa using hlt
      rw [csOf, hcd, ← hln1]
      simp [strValues, List.getElem?_eq_getElem, hl', List.getD_eq_getElem?_getD]
    dsimp only
    refine list_item (hgn := hlg) (F9.keep _ _ hlg) (by omega) (by omega) (by simpa using hx) ?_
    repeat' (((fail_if_success with_reducible first | refine gdW ?_ | refine gdF ?_ | refine gdL ?_ | refine gdT ?_ | refine gdC ?_ | refine gdM (by decide) ?_ | show PySem.wpAt _ _ _ _ _ _ _); first | walk1 | (dsimp only; walk1)))
    all_goals (try k_data)
    have hbf := blOf_facts hb2
    have hrc : r ≤ r * c := Nat.le_mul_of_pos_right r hc
    have hcl : ∀ k, k < j + 1 → (csOf names c deck (r * c + k)).length = 6 := fun k hk => cs_len hidx hnl (by rw [hdk]; omega)
    have hlo : lenOf (ptsAt (blOf b) (csOf names c deck) c r j ++ [(blOf b, csOf names c deck (r * c + j))]) = (j + 1) * (6 + b) := by rw [ptsAt_succ]; exact lenOf_pts hbf.1 hcl
    have hLI : L' ∉ [I] := by simpa using hI1.symm
    have hIx : ∀ x ∈ [fa, da, ln, a, dx], I ≠ x := fun x hx e => hoff x hx (by simp [e])
    have hIt240 : I ∉ tabs := notab hI240
    have hgS : ∀ S : List Addr, (∀ x ∈ S, x ∈ [fa, da, ln, a, dx]) → (∀ x ∈ S, g.get? x = none) ∧ L' ∉ S ∧ (∀ x ∈ S, 240 ≤ x) ∧ (∀ p ∈ [((L' + 1 + 1 : Addr), o1), (L' + 1, o2)], p.1 ∉ S ∧ p.1 ∉ tabs) ∧ I ∉ S := by
      intro S hS
      have lo := X2.lo
      have lo5 : ∀ x ∈ [fa, da, ln, a, dx], 240 ≤ x := al1 lo.1 (al1 lo.2.1 (al1 lo.2.2.1 (al1 lo.2.2.2.1 (al1 lo.2.2.2.2 al0))))
      exact ⟨fun x hx => (hb5 x (hS x hx)).1, fun hx => (hb5 _ (hS _ hx)).2 rfl, fun x hx => lo5 x (hS x hx),
        al1 ⟨fun hx => (hc5 _ (hS _ hx)).2 rfl, notab (Nat.le_trans hL2 (Nat.le_succ_of_le (Nat.le_succ _)))⟩ (al1 ⟨fun hx => (hc5 _ (hS _ hx)).1 rfl, notab (Nat.le_trans hL2 (Nat.le_succ _))⟩ al0), fun hx => hIx _ (hS _ hx) rfl⟩
    have endT : ∀ (S : List Addr) (k : Nat) (s' : Shared) (r' j' : Nat), (∀ x ∈ S, x ∈ [fa, da, ln, a, dx]) → Ext S ⟨h9, s7.gens, s7.drawn, k, s7.os⟩ s' → i + 1 = r' * c + j' → j' ≤ c → 0 < j' → FmtAt w.params s'.heap fa da ln a dx ((c : Int) * (6 + (b : Int)) + (room : Int)) (rowsTx (blOf b) (csOf names c deck) c r') (ptsAt (blOf b) (csOf names c deck) c r' j') →
        ((∃ r j, i + 1 = r * c + j ∧ j ≤ c ∧ (0 < i + 1 → 0 < j) ∧ RowInv w mg mb s g L' nA fa da ln a dx ((c : Int) * (6 + (b : Int)) + (room : Int)) (.int tail t5) [(L' + 1 + 1, o1), (L' + 1, o2)] (rowsTx (blOf b) (csOf names c deck) c r) (ptsAt (blOf b) (csOf names c deck) c r j) s') ∧ ∃ o, s'.heap.get? I = some o ∧ ∀ its n, o.data ≠ .seq its n) ∧ KBw.IsBytesIter s'.heap I (swapL c deck).toArray tb (i + 1) := by
      intro S k s' r' j' hS y h1 h2 h3 X'
      refine hideG (fun Gz hGz => ?_)
      obtain ⟨q1, q2, q3, q4, q5⟩ := hgS S hS
      obtain ⟨o, p1, p2, p3⟩ := st8
      refine hGz ?_
      clear hGz Gz
      have p1' := y.keep _ _ q5 hIt240 (k9 _ _ (by simpa using hI1) p1)
      exact ⟨⟨⟨r', j', h1, h2, fun _ => h3, RowInv.ext (s1 := ⟨h9, s7.gens, s7.drawn, k, s7.os⟩) ⟨R9.fr, R9.N, R9.ok, R9.X, R9.tab, R9.gens, R9.os⟩ y q1 ht q2 hL2 q3 q4 X'⟩, o, p1', fun its n e => by rw [p3] at e; cases e⟩, o, p1', p2, p3⟩
    refine chunk_wp (A := A.deeper _) (by exact R9.ok) (by show A.depth + 1 + 6 < _; omega) hh (by show A.units + 3 < 7000; omega) (by exact R9.X) (blOf b) _ _ _ (by rw [ptsAt_len]; omega) (by simp only [rowsTx, List.length_map, List.length_range]; omega) ?_ ?_ ?_ ?_
    · rw [ptsAt_succ]
      intro p hp
      simp only [ptsAt, List.mem_map, List.mem_range] at hp
      refine hideG (fun Gz hGz => ?_)
      obtain ⟨k, hk, rfl⟩ := hp
      refine hGz ?_
      clear hGz Gz
      exact ⟨by rw [hbf.1]; omega, by rw [hcl k hk]; decide⟩
    · rw [hlo, mx_nat]
      intro hlt
      have hjc' : ¬ j < c := fun h => by
        have := (len_cases hjc hroom).mpr h
        omega
      exact ⟨fun e => by have := congrArg List.length e; rw [ptsAt_len] at this; simp at this; omega, hbf.2.2.1 hb⟩
    · rw [hlo, mx_nat, ptsAt_succ]
      intro hle s' y X'
      have hjc' : j < c := (len_cases hjc hroom).mp (by omega)
      rw [← mx_nat] at X'
      refine wpAny_execs_nil ?_
      exact endT [a] _ s' r (j + 1) (by simp) y (by omega) (by omega) (by omega) X'
    · rw [hlo, mx_nat]
      intro hlt s' y X'
      have hjc' : j = c := by
        have := (len_cases hjc hroom).mpr
        omega
      rw [← mx_nat, hjc', rowsTx_succ, ptsAt_one] at X'
      refine wpAny_execs_nil ?_
      exact endT [ln, a, dx] _ s' (r + 1) 1 (by simp) y (by rw [Nat.succ_mul]; omega) hc (by omega) X'
  · rintro s7 h8 tk8 ⟨⟨r, j, hij, hjc, hpos, R⟩, oI, hoI, hoD⟩ k8
    refine hideG (fun Gz hGz => ?_)
    obtain ⟨m, F, em1, em2, em3⟩ := R.fr
    have F8 := fr_wr F k8 (by simpa using hI1.symm) (by simpa using hI0)
    have R8 := R.but (tk := tk8) k8 F8 ⟨em1, em2, em3⟩ (by simpa using hI240) (fun b hb o e => by
      rw [List.mem_singleton.mp hb, hoI] at e
      cases e
      exact hoD) hoff hcI
    have hsz : (swapL c deck).toArray.size = q * c := by simp [swapL, hdk]
    rw [hsz] at hij hpos
    have hj0 : 0 < j := hpos (Nat.mul_pos hq hc)
    have hrq : r < q := by
      rcases Nat.lt_or_ge r q with h | h
      · exact h
      · have := Nat.mul_le_mul_right c h
        omega
    have hjc2 : j = c := by
      have := Nat.mul_le_mul_right c (show r + 1 ≤ q from hrq)
      rw [Nat.succ_mul] at this
      omega
    have hjc3 : c = j := hjc2.symm
    subst hjc3
    have hrq1 : r + 1 = q := Nat.eq_of_mul_eq_mul_right hc (by rw [Nat.succ_mul]; omega)
    have hq20 : q ≤ 20 := by
      have := Nat.le_mul_of_pos_right q hc
      omega
    clear R F hoI hoD k8
    obtain ⟨h7, g7, d7, t7, o7⟩ := s7
    refine hGz ?_
    clear hGz Gz
    dsimp only at R8 F8 ⊢
    have hbf := blOf_facts hb2
    have htf := blOf_facts htl
    have hgS : ∀ S : List Addr, (∀ x ∈ S, x ∈ [fa, da, ln, a, dx]) → (∀ x ∈ S, g.get? x = none) ∧ L' ∉ S ∧ (∀ x ∈ S, 240 ≤ x) ∧ (∀ p ∈ [((L' + 1 + 1 : Addr), o1), (L' + 1, o2)], p.1 ∉ S ∧ p.1 ∉ tabs) := by
      intro S hS
      have lo := X2.lo
      have lo5 : ∀ x ∈ [fa, da, ln, a, dx], 240 ≤ x := al1 lo.1 (al1 lo.2.1 (al1 lo.2.2.1 (al1 lo.2.2.2.1 (al1 lo.2.2.2.2 al0))))
      exact ⟨fun x hx => (hb5 x (hS x hx)).1, fun hx => (hb5 _ (hS _ hx)).2 rfl, fun x hx => lo5 x (hS x hx),
        al1 ⟨fun hx => (hc5 _ (hS _ hx)).2 rfl, notab (Nat.le_trans hL2 (Nat.le_succ_of_le (Nat.le_succ _)))⟩ (al1 ⟨fun hx => (hc5 _ (hS _ hx)).1 rfl, notab (Nat.le_trans hL2 (Nat.le_succ _))⟩ al0)⟩
    have hcl : ∀ k, k < c → (csOf names c deck (r * c + k)).length = 6 := fun k hk => cs_len hidx hnl (by rw [hdk]; omega)
    refine hideG (fun Gz hGz => ?_)
    obtain ⟨tk9, m1, l9, m2, vs9, m3, tkB, tz, m4, e9, hp9, NF9⟩ := R8.X.news hb5
    refine hGz ?_
    clear hGz Gz
    have N9 := news_cons (news_cons R8.N (NF9 _ (.tail _ (.head _))).1 (NF9 _ (.tail _ (.head _))).2.1 (NF9 _ (.tail _ (.head _))).2.2) (NF9 _ (.head _)).1 (NF9 _ (.head _)).2.1 (NF9 _ (.head _)).2.2
    clear NF9
    refine wpN_any ?_
    repeat' (((fail_if_success with_reducible first | refine gdW ?_ | refine gdF ?_ | refine gdL ?_ | refine gdT ?_ | refine gdC ?_ | refine gdM (by decide) ?_ | show PySem.wpAt _ _ _ _ _ _ _); first | walk1 | (dsimp only; walk1)))
    all_goals (try k_data)
    have hXn : FmtAt w.params h8 fa da ln a dx ((c : Int) * (6 + (b : Int)) + (room : Int)) (rowsTx (blOf b) (csOf names c deck) c r) (ptsAt (blOf b) (csOf names c deck) c r (c - 1) ++ [(blOf b, csOf names c deck (r * c + (c - 1)))]) := by
      rw [ptsAt_succ, Nat.sub_add_cancel hc]
      exact R8.X
    have hy6 : (csOf names c deck (r * c + (c - 1))).length = 6 := hcl _ (by omega)
    have hmem : csOf names c deck (r * c + (c - 1)) ∈ names := cs_mem hidx (by rw [hdk]; omega)
    have hne1 : ¬ (blOf b, csOf names c deck (r * c + (c - 1))) = (Str.ofString " ", Str.ofString "") := fun e => by
      have h6 : (csOf names c deck (r * c + (c - 1))).length = (Str.ofString "").length := congrArg (fun p : Str × Str => p.2.length) e
      rw [hy6] at h6
      exact absurd h6 (by decide +kernel)
    have hnlp : nlParts (ptsAt (blOf b) (csOf names c deck) c r (c - 1)) (blOf b) (csOf names c deck (r * c + (c - 1))) = ptsAt (blOf b) (csOf names c deck) c r c := by
      rw [nlParts, if_neg hne1, ptsAt_succ, Nat.sub_add_cancel hc]
    have hlen0 : lenOf (ptsAt (blOf b) (csOf names c deck) c r c) ≠ 0 := by
      rw [lenOf_pts hbf.1 hcl]
      exact Nat.ne_of_gt (Nat.mul_pos hc (by omega))
    have hnsp : Txt.isspace (textOf (ptsAt (blOf b) (csOf names c deck) c r c)) = false := by
      obtain ⟨ch, hch⟩ : ∃ ch, ch ∈ (csOf names c deck (r * c + (c - 1))).cps.toList := by
        cases hq : (csOf names c deck (r * c + (c - 1))).cps.toList with
        | nil =>
          have : (csOf names c deck (r * c + (c - 1))).cps.toList.length = 6 := hy6
          rw [hq] at this; cases this
        | cons v z => exact ⟨v, by simp⟩
      refine textOf_notspace (p := (blOf b, csOf names c deck (r * c + (c - 1)))) ?_ hch (hnn _ hmem ch hch).1
      simp only [ptsAt, List.mem_map, List.mem_range]
      exact ⟨c - 1, by omega, rfl⟩
    have hrl8 : ∀ (n : Nat), n ≤ q → ∀ x ∈ rowsTx (blOf b) (csOf names c deck) c n, x.length ≤ 100000 := by
      intro n hn x hx
      simp only [rowsTx, List.mem_map, List.mem_range] at hx
      refine hideG (fun Gz hGz => ?_)
      obtain ⟨k, hk, rfl⟩ := hx
      refine hGz ?_
      clear hGz Gz
      rw [hp8len, lenOf_pts hbf.1 (fun k' hk' => cs_len hidx hnl (by
        have := Nat.mul_le_mul_right c (show k + 1 ≤ q by omega)
        rw [Nat.succ_mul] at this
        rw [hdk]
        omega))]
      have := Nat.mul_le_mul hc2 (show 6 + b ≤ 9 by omega)
      omega
    refine newline_wp (A := A.deeper _) (by exact R8.ok) (by show A.depth + 1 + 6 < _; omega) hh (by show A.units + 3 < 7000; omega) (blOf b) (csOf names c deck (r * c + (c - 1))) (by exact hXn) (by rw [ptsAt_len]; omega) (by simp only [rowsTx, List.length_map, List.length_range]; omega) ?_ ⟨hbf.2.2.2, hns _ hmem⟩ (fun e => absurd e hne1) (hrl8 r (by omega)) (fun _ e => by rw [hnlp, hnsp] at e; cases e) (fun s9 y9 X9 => ?_)
    · rw [ptsAt_succ, Nat.sub_add_cancel hc]
      intro p hp
      simp only [ptsAt, List.mem_map, List.mem_range] at hp
      refine hideG (fun Gz hGz => ?_)
      obtain ⟨k, hk, rfl⟩ := hp
      refine hGz ?_
      clear hGz Gz
      exact ⟨by rw [hbf.1]; omega, by rw [hcl k hk]; decide⟩
    rw [hnlp, nlRows, if_neg hlen0, if_neg (by rw [hnsp]; simp), rowsTx_succ, hrq1] at X9
    refine hideG (fun Gz hGz => ?_)
    obtain ⟨q1, q2, q3, q4⟩ := hgS [ln, a, dx] (by simp)
    have R9 := RowInv.ext (s1 := ⟨h8, g7, d7, _, o7⟩) (by exact ⟨R8.fr, R8.N, R8.ok, R8.X, R8.tab, R8.gens, R8.os⟩) y9 q1 ht q2 hL2 q3 q4 X9
    clear R8 F8 N9 y9
    obtain ⟨h9, g9, d9, t9, o9⟩ := s9
    dsimp only at R9 X9
    obtain ⟨m, F9, em1, em2, em3⟩ := R9.fr
    obtain ⟨tk9, m1, l9, m2, vs9, m3, tkB, tz, m4, e9, hp9, NF9⟩ := R9.X.news hb5
    refine hGz ?_
    clear hGz Gz
    have N9 := news_cons (news_cons R9.N (NF9 _ (.tail _ (.head _))).1 (NF9 _ (.tail _ (.head _))).2.1 (NF9 _ (.tail _ (.head _))).2.2) (NF9 _ (.head _)).1 (NF9 _ (.head _)).2.1 (NF9 _ (.head _)).2.2
    clear NF9
    dsimp only at F9 N9
    repeat' (((fail_if_success with_reducible first | refine gdW ?_ | refine gdF ?_ | refine gdL ?_ | refine gdT ?_ | refine gdC ?_ | refine gdM (by decide) ?_ | show PySem.wpAt _ _ _ _ _ _ _); first | walk1 | (dsimp only; walk1)))
    all_goals (try k_data)
    have hle2 : lenOf ([] ++ [(blOf tail, Str.ofString "")]) = tail := by
      show (blOf tail).length + (Str.ofString "").length + 0 = tail
      rw [htf.1, show (Str.ofString "").length = 0 from by decide +kernel]
      omega
    have hmx2 : ¬ ((c : Int) * (6 + (b : Int)) + (room : Int) < (tail : Int)) := by
      rw [mx_nat]
      have := Nat.mul_le_mul_right (6 + b) hc
      omega
    refine chunk_wp (A := A.deeper _) (by exact R9.ok) (by show A.depth + 1 + 6 < _; omega) hh (by show A.units + 3 < 7000; omega) (by exact R9.X) (blOf tail) (Str.ofString "") _ _ (by simp) (by simp only [rowsTx, List.length_map, List.length_range]; omega) ?_ ?_ ?_ ?_
    · intro p hp
      simp only [List.nil_append, List.mem_singleton] at hp
      subst hp
      exact ⟨by rw [htf.1]; omega, (show (Str.ofString "").length ≤ 1000 by decide +kernel)⟩
    · rw [hle2]
      exact fun h => absurd h hmx2
    · rw [hle2]
      intro _ s10 y10 X10
      refine hideG (fun Gz hGz => ?_)
      obtain ⟨q1, q2, q3, q4⟩ := hgS [a] (by simp)
      have R10 := RowInv.ext (s1 := ⟨h9, g9, d9, _, o9⟩) (by exact ⟨R9.fr, R9.N, R9.ok, R9.X, R9.tab, R9.gens, R9.os⟩) y10 q1 ht q2 hL2 q3 q4 X10
      clear R9 F9 N9 y10
      obtain ⟨h10, g10, d10, t10, o10⟩ := s10
      dsimp only at R10 X10
      obtain ⟨m, F10, em1, em2, em3⟩ := R10.fr
      obtain ⟨tk9, m1, l9, m2, vs9, m3, tkB, tz, m4, e9, hp9, NF9⟩ := R10.X.news hb5
      refine hGz ?_
      clear hGz Gz
      have N10 := news_cons (news_cons R10.N (NF9 _ (.tail _ (.head _))).1 (NF9 _ (.tail _ (.head _))).2.1 (NF9 _ (.tail _ (.head _))).2.2) (NF9 _ (.head _)).1 (NF9 _ (.head _)).2.1 (NF9 _ (.head _)).2.2
      clear NF9
      dsimp only at F10 N10
      repeat' (((fail_if_success with_reducible first | refine gdW ?_ | refine gdF ?_ | refine gdL ?_ | refine gdT ?_ | refine gdC ?_ | refine gdM (by decide) ?_ | show PySem.wpAt _ _ _ _ _ _ _); first | walk1 | (dsimp only; walk1)))
      all_goals (try k_data)
      have hrne : rowsTx (blOf b) (csOf names c deck) c q ≠ [] := fun e => by
        have := congrArg List.length e
        simp only [rowsTx, List.length_map, List.length_range, List.length_nil] at this
        omega
      refine newline_wp (A := A.deeper _) (parts := []) (by exact R10.ok) (by show A.depth + 1 + 6 < _; omega) hh (by show A.units + 3 < 7000; omega) (blOf tail) (Str.ofString "") (by exact R10.X) (by simp) (by simp only [rowsTx, List.length_map, List.length_range]; omega) ?_ ⟨htf.2.2.2, by decide +kernel⟩ (fun _ => rfl) (hrl8 q (Nat.le_refl _)) (fun _ _ => hrne) (fun s11 y11 X11 => ?_)
      · intro p hp
        simp only [List.nil_append, List.mem_singleton] at hp
        subst hp
        exact ⟨by rw [htf.1]; omega, (show (Str.ofString "").length ≤ 1000 by decide +kernel)⟩
      refine hideG (fun Gz hGz => ?_)
      obtain ⟨q1, q2, q3, q4⟩ := hgS [ln, a, dx] (by simp)
      have R11 := RowInv.ext (s1 := ⟨h10, g10, d10, _, o10⟩) (by exact ⟨R10.fr, R10.N, R10.ok, R10.X, R10.tab, R10.gens, R10.os⟩) y11 q1 ht q2 hL2 q3 q4 X11
      clear R10 F10 N10 y11
      obtain ⟨h11, g11, d11, t11, o11⟩ := s11
      dsimp only at R11 X11
      obtain ⟨m, F11, em1, em2, em3⟩ := R11.fr
      obtain ⟨pa', ea1', ea2', pb', eb1', eb2'⟩ := Tabs.e R11.ok.P
      obtain ⟨tk9, m1, l9, m2, vs9, m3, tkB, tz, m4, e9, hp9, NF9⟩ := R11.X.news hb5
      refine hGz ?_
      clear hGz Gz
      have N11 := news_cons (news_cons (news_cons (news_cons (news_cons R11.N (NF9 _ (.tail _ (.tail _ (.head _)))).1 (NF9 _ (.tail _ (.tail _ (.head _)))).2.1 (NF9 _ (.tail _ (.tail _ (.head _)))).2.2) (NF9 _ (.tail _ (.head _))).1 (NF9 _ (.tail _ (.head _))).2.1 (NF9 _ (.tail _ (.head _))).2.2) (NF9 _ (.head _)).1 (NF9 _ (.head _)).2.1 (NF9 _ (.head _)).2.2) eb1' l147 g147) ea1' l140 g140
      clear NF9
      dsimp only at F11 N11
      have z1 : @Ne Nat fa (L' + 1 + 1) := (hc5 fa (by simp)).2
      have z2 : @Ne Nat da (L' + 1 + 1) := (hc5 da (by simp)).2
      have z3 : @Ne Nat ln (L' + 1 + 1) := (hc5 ln (by simp)).2
      have z4 : @Ne Nat 140 (L' + 1 + 1) := by omega
      have z5 : @Ne Nat 147 (L' + 1 + 1) := by omega
      have z6 : @Ne Nat (L' + 1) (L' + 1 + 1) := by omega
      repeat' ((fail_if_success (with_reducible show wpAny _ _ (exec (PySem.Stmt.Assign _ _ _) _) _ _ _)); ((fail_if_success with_reducible first | refine gdW ?_ | refine gdF ?_ | refine gdL ?_ | refine gdT ?_ | refine gdC ?_ | refine gdM (by decide) ?_ | show PySem.wpAt _ _ _ _ _ _ _); first | walk1 | (dsimp only; walk1)))
      all_goals (try k_data)
      refine wpAny_mono (Q := StopN fun s' => ∃ (h : Heap) (tk : Nat) (oP : Obj) (a2 : Nat) (tp : Tok), s' = ⟨h, g11, d11, tk, o11⟩ ∧ Fr g L' h m ∧ oP.data = .cell (some (.int ((b + a2 : Nat) : Int) tp)) ∧ a2 = (if 1 < tail then tail else 0) ∧
        News g L' h [(140, { cls := .none, data := .fields pa' }), (147, { cls := .none, data := .fields pb' }), (fa, instObj 94 da), (da, dictOf (fmtD w.params tk9 ((c : Int) * (6 + (b : Int)) + (room : Int)) ln a) m1), (ln, { cls := .type "list", data := .seq (strValues l9).toArray m2 }), (L' + 1 + 1, oP), (L' + 1, o2)]) ?_ ?_ (fun _ _ e => e)
      · repeat' (((fail_if_success with_reducible first | refine gdW ?_ | refine gdF ?_ | refine gdL ?_ | refine gdT ?_ | refine gdC ?_ | refine gdM (by decide) ?_ | show PySem.wpAt _ _ _ _ _ _ _); first | walk1 | (dsimp only; walk1)))
        all_goals (try k_data)
        all_goals with_reducible rename Fr _ _ _ _ => F12
        all_goals with_reducible rename News _ _ _ _ => N12
        · exact ⟨rfl, _, _, _, tail, _, rfl, F12, by assumption, by rw [if_pos (by omega)], N12⟩
        · exact ⟨rfl, _, _, _, 0, _, rfl, F12, by assumption, by rw [if_neg (by omega)], N12⟩
      rintro fl s' ⟨rfl, h12, tk12, oP, a2, tp, rfl, F12, dP, ha2, N12⟩
      dsimp only
      repeat' (((fail_if_success with_reducible first | refine gdW ?_ | refine gdF ?_ | refine gdL ?_ | refine gdT ?_ | refine gdC ?_ | refine gdM (by decide) ?_ | show PySem.wpAt _ _ _ _ _ _ _); first | walk1 | (dsimp only; walk1)))
      all_goals (try k_data)
      with_reducible rename Fr _ _ _ _ => F13
      with_reducible rename News _ _ _ _ => N13
      refine LCg.ListComp_U (F₀ := F13) (by with_unfolding_all rfl) (by decide) (by rfl) (by decide) (by rfl) ?_
      repeat' (((fail_if_success with_reducible first | refine gdW ?_ | refine gdF ?_ | refine gdL ?_ | refine gdT ?_ | refine gdC ?_ | refine gdM (by decide) ?_ | show PySem.wpAt _ _ _ _ _ _ _); first | walk1 | (dsimp only; walk1)))
      all_goals (try k_data)
      have e9q : l9.map (·.1) = nlRows (rowsTx (blOf b) (csOf names c deck) c q) (nlParts [] (blOf tail) (Str.ofString "")) := e9
      have hl9 : l9.length = q := by
        have := congrArg List.length e9q
        rw [List.length_map, line_count htl _ hq] at this
        exact this
      have hszq : (strValues l9).toArray.size = q := by simp [strValues, hl9]
      refine LCg.CompSrc.ledger (A := A.deeper _) hh F13 N13 (.tail _ (.tail _ (.tail _ (.tail _ (.head _))))) (by rw [hszq, PySem.sizeLine_eq]; omega) (fun gg => ?_)
      refine kcg (fun i ys nw => ∃ Ts : List Addr, Ts.length = i ∧ ys = Ts.map Value.ref ∧ (∀ p ∈ _, p ∈ nw) ∧ ∀ k, k < i → ∃ (l : List (Str × Tok)) (n : Nat), (Ts.getD k 0, ({ cls := .type "list", data := .seq (strValues l).toArray n } : Obj)) ∈ nw ∧ l.map (·.1) = wordsAt names c deck k) ⟨[], rfl, rfl, fun _ h => h, fun k hk => absurd hk (Nat.not_lt_zero _)⟩ ?_ ?_
      · rintro i ys nw v IC oI C oC Dl m2' h14 tk14 E' hi hv ⟨Ts, hT1, rfl, hsub, hTk⟩ hoC hm2 F14 N14 off nes
        rw [hszq] at hi
        obtain ⟨tx, hvx⟩ : ∃ tx, v = .str ((l9.map (·.1)).getD i (Str.ofString "")) tx := by
          have hi9 : i < l9.length := by omega
          simp only [strValues, List.getElem?_toArray, List.getElem?_map, List.getElem?_eq_getElem hi9, Option.map_some, Option.some.injEq] at hv
          exact ⟨l9[i].2, by rw [← hv]; simp [List.getD_eq_getElem?_getD, hi9]⟩
        subst hvx
        rw [e9q] at hm2
        have hx := line_toList hb2 htl (csOf names c deck) hc hq hi
        generalize (nlRows (rowsTx (blOf b) (csOf names c deck) c q) (nlParts [] (blOf tail) (Str.ofString ""))).getD i (Str.ofString "") = x at hm2 hx
        have hmul : i * c + c ≤ q * c := by have := Nat.mul_le_mul_right c (show i + 1 ≤ q from hi); rwa [Nat.succ_mul] at this
        refine hideG (fun Gz hGz => ?_)
        obtain ⟨k, hk0, hk1, f1, f2, f3, f4, f5, f6⟩ := row_facts (tail := tail) hb hb2 (csOf names c deck) hc hc2 (fun m hm => cs_len hidx hnl (by rw [hdk]; omega)) (fun m hm ch hch => (hnn _ (cs_mem hidx (by rw [hdk]; omega)) ch hch).2) hx
        refine hGz ?_
        clear hGz Gz
        have P140 := N14 _ (.tail _ (.tail _ (.tail _ (hsub _ (.head _)))))
        have P147 := N14 _ (.tail _ (.tail _ (.tail _ (hsub _ (.tail _ (.head _))))))
        have Pc2 := N14 _ (.tail _ (.tail _ (.tail _ (hsub _ (.tail _ (.tail _ (.tail _ (.tail _ (.tail _ (.head _))))))))))
        have Pc1 := N14 _ (.tail _ (.tail _ (.tail _ (hsub _ (.tail _ (.tail _ (.tail _ (.tail _ (.tail _ (.tail _ (.head _)))))))))))
        have PC := N14 _ (.tail _ (.head _))
        dsimp only at P140 P147 Pc2 Pc1 PC
        have NW := news_cons (news_cons (news_cons (news_cons (news_cons (News.nil (h₀ := g) (L := L') (h := h14)) Pc1.1 Pc1.2.1 Pc1.2.2) Pc2.1 Pc2.2.1 Pc2.2.2) PC.1 PC.2.1 PC.2.2) P147.1 l147 g147) P140.1 l140 g140
        have O14 : Ok w mg mb h14 := ok_news X' T' M4 F14 NW ea2' eb2'
        have N14k := N14
        clear N14
        have hta : (if i + 1 = q then tailN tail else 0) ≤ a2 := by
          rw [ha2]
          unfold tailN
          split <;> omega
        have ha23 : a2 ≤ 3 := by rw [ha2]; split <;> omega
        refine strip_elt (e0 := compEnvC _ _ _ _) (A := A.deeper _) O14 (by show A.depth + 1 + 1 < _; omega) (by rfl) (by rfl) (by rfl) (by rfl) (by rfl) (by rfl) (hoC.ns PC.1) hm2 (by rfl) (by rfl) ⟨_, Pc2.1, dP⟩ ⟨_, Pc1.1, d2⟩ hk0 hk1 hb2 ha23 hta f1 f2 f3 f4 f5 (fun s0 Q0 hq0 => ?_) (fun h15 tk15 ta tb' k15 => ?_)
        · repeat' (((fail_if_success with_reducible first | refine gdW ?_ | refine gdF ?_ | refine gdL ?_ | refine gdT ?_ | refine gdC ?_ | refine gdM (by decide) ?_ | show PySem.wpAt _ _ _ _ _ _ _); first | walk1 | (dsimp only; walk1)))
          exact hq0 _ _
        have F15 := fr_kept F14 k15
        have N15 := news_kept N14k k15
        refine splitN1 (hF := F15) (hN := N15) (by rw [hbf.1]; simp; omega) (fun l h16 k16 hl16 F16 N16 => ?_) (by
          rw [PySem.sizeLine_eq]
          have : (⟨((x.cps.toList.drop b).take k).toArray⟩ : Str).length ≤ k := by
            show ((x.cps.toList.drop b).take k).length ≤ k
            rw [List.length_take]
            omega
          omega)
        have hI := Heap.lt_size (N15 _ (.head _)).1
        have hCc := Heap.lt_size (N15 _ (.tail _ (.head _))).1
        have hDd := Heap.lt_size (N15 _ (.tail _ (.tail _ (.head _)))).1
        dsimp only at hI hCc hDd F16 N16 ⊢
        generalize h15.objs.size = T at *
        refine ⟨h16, _, (T, { cls := .type "list", data := .seq (strValues l).toArray }) :: nw, rfl, F16, fun p hp => N16 p ?_, ⟨⟨Nat.ne_of_gt hI, Nat.ne_of_gt hCc, Nat.ne_of_gt hDd⟩, off⟩, .inr ⟨_, .tail _ (hsub _ (.tail _ (.tail _ (.tail _ (.tail _ (.head _)))))), rfl, _, rfl⟩, Ts ++ [T], by simp [hT1], by simp, fun p hp => .tail _ (hsub p hp), fun kk hkk => ?_⟩
        · rcases List.mem_cons.mp hp with rfl | hp
          · exact .tail _ (.head _)
          · rcases List.mem_cons.mp hp with rfl | hp
            · exact .tail _ (.tail _ (.head _))
            · rcases List.mem_cons.mp hp with rfl | hp
              · exact .tail _ (.tail _ (.tail _ (.head _)))
              · rcases List.mem_cons.mp hp with rfl | hp
                · exact .head _
                · exact .tail _ (.tail _ (.tail _ (.tail _ hp)))
        · by_cases e : kk = i
          · subst e
            refine ⟨l, 0, ?_, hl16.trans f6⟩
            rw [List.getD_eq_getElem?_getD, ← hT1, List.getElem?_concat_length]
            exact .head _
          · obtain ⟨l', n', e1, e2⟩ := hTk kk (by omega)
            refine ⟨l', n', ?_, e2⟩
            rw [List.getD_eq_getElem?_getD, List.getElem?_append_left (by omega), ← List.getD_eq_getElem?_getD]
            exact .tail _ e1
      · rintro ys nw ⟨Ts, hT1, rfl, hsub, hTk⟩
        intro D h17 tk17 F17 N17 o17
        rw [hszq] at hT1 hTk
        have V140 := N17 _ (.tail _ (hsub _ (.head _)))
        have V147 := N17 _ (.tail _ (hsub _ (.tail _ (.head _))))
        have VD := N17 _ (.head _)
        dsimp only at V140 V147 VD
        have newOf : ∀ T o, News g L' h17 [(T, o)] → o.cls = .type "list" → s.heap.get? T = none := by
          intro T o NT hcl
          have NT := NT _ (.head _)
          dsimp only at NT
          refine hide_none (hg ▸ NT.2.2) ?_
          simp only [List.mem_cons, List.not_mem_nil, or_false, not_or]
          constructor
          · rintro rfl
            rw [V140.1] at NT
            have := NT.1
            cases this
            cases hcl
          · rintro rfl
            rw [V147.1] at NT
            have := NT.1
            cases this
            cases hcl
        have hfin : Ext [] s ⟨h17, g11, d11, tk17, o11⟩ := by
          refine ext_end (H := [140, 147]) (s' := ⟨h17, g11, d11, tk17, o11⟩) (hg ▸ F17) (fun b hb => .inr (.inl hb)) (al1 (fun ps e => ?_) (al1 (fun ps e => ?_) al0)) R11.gens R11.os
          · obtain ⟨m1, q1⟩ := R11.tab 140 (.head _) ps e
            have hpa : pa' = ps ++ m1 := by
              have := ea1'.symm.trans q1.1
              simp only [Option.some.injEq, Obj.mk.injEq, Data.fields.injEq, true_and, and_true] at this
              exact this
            exact ⟨m1, by rw [← hpa]; exact ⟨V140.1, ea2'⟩⟩
          · obtain ⟨m1, q1⟩ := R11.tab 147 (.tail _ (.head _)) ps e
            have hpb : pb' = ps ++ m1 := by
              have := eb1'.symm.trans q1.1
              simp only [Option.some.injEq, Obj.mk.injEq, Data.fields.injEq, true_and, and_true] at this
              exact this
            exact ⟨m1, by rw [← hpb]; exact ⟨V147.1, eb2'⟩⟩
        refine hQ D ⟨h17, g11, d11, tk17, o11⟩ Ts _ hfin hT1 VD.1 (newOf D _ (fun p hp => N17 p (by rw [List.mem_singleton.mp hp]; exact .head _)) rfl) (fun kk hkk => ?_)
        refine hideG (fun Gz hGz => ?_)
        obtain ⟨l', n', e1, e2⟩ := hTk kk hkk
        refine hGz ?_
        clear hGz Gz
        exact ⟨newOf _ _ (fun p hp => N17 p (by rw [List.mem_singleton.mp hp]; exact .tail _ e1)) rfl, l', n', e2, (N17 _ (.tail _ e1)).1⟩
    · rw [hle2]
      exact fun h => absurd h hmx2
end


section
variable {prog : Program} {w : World} {A : Around} {E : Value → Shared → Prop} {s : Shared} {mg mb : Str → Option Value} {env : Env} {m : Str → Option Value}
theorem g_nolen {w : World} : nsIn (Mine.hd.heap_1 w.params) mainGlobals "len" = some none := by k_is
theorem g_notype {w : World} : nsIn (Mine.hd.heap_1 w.params) mainGlobals "type" = some none := by k_is
theorem b_len {h : Heap} (O : Ok w mg mb h) : mb "len" = some (.builtin "len") := (O.T.builtins _ (by decide +kernel)).trans (by decide +kernel)
theorem b_type {h : Heap} (O : Ok w mg mb h) : mb "type" = some (.type "type") := (O.T.builtins _ (by decide +kernel)).trans (by decide +kernel)
theorem lenl_elt {nm : Str} {p1 p2 p3 : Pos} {l : Addr} {items : Array Value} {Q : Value → Shared → Prop} (O : Ok w mg mb s.heap) (hk : env.scope.kind = .function) (hl : env.kindOf "len" = some .globalImplicit) (hn : env.kindOf nm = some .local) (hnd : (nm == ("__debug__" : Str)) = false)
    (hgl : env.globals = mainGlobals) (hbl : env.builtins = builtinsNs) (hm : s.heap.Ns env.locals m) (hv : m nm = some (.ref l)) (hz : s.heap.IsList l items) (hsz : items.size ≤ 100000)
    (h : ∀ tk t', Q (.int (items.size : Nat) t') { s with toks := tk }) : wpAny (model prog w) A (eval (.Call (.Name "len" p1) [.Name nm p2] [] p3) env) Q E s := by
  refine Call_Name1 (Calls.Name_function_global hk hl (Calls.loadGlobal_builtin (by rw [hgl]; exact O.T.g) (mg_none_of O.frag O.T.g g_nolen) (by rw [hbl]; exact O.T.b) (b_len O) (PySem.Calls.callWith_builtin rfl (Calls.evalArgs_plain (Calls.spliced_cons (wpAny_Name (wpAny_loadName_local hk hn hm hv (Calls.spliced_nil ?_)) hnd))))))
  exact len_list hz (by omega) (h _ _)
end


section
variable {prog : Program} {w : World} {A : Around} {E : Value → Shared → Prop} {s : Shared} {h₀ : Heap} {L : Addr} {m : Str → Option Value} {env : Env} {news : List (Addr × Obj)}
theorem row_col {e0 : Env} {x y : Str} {p1 p2 p3 : Pos} {l : Addr} {its : Array Value} {n k : Nat} {t : Tok} {v : Value} {mm : Str → Option Value} {Q : Value → Shared → Prop}
    (hk : e0.scope.kind = .function) (hx : e0.kindOf x = some .local) (hy : e0.kindOf y = some .local) (hdx : (x == ("__debug__" : Str)) = false) (hdy : (y == ("__debug__" : Str)) = false)
    (hm : s.heap.Ns e0.locals mm) (h1 : mm x = some (.ref l)) (h2 : mm y = some (.int (k : Int) t))
    (hl : s.heap.get? l = some { cls := .type "list", data := .seq its n }) (hv : its[k]? = some v) (hz : k < 2 ^ 62) (h : Q v s) :
    wpAny (model prog w) A (eval (.Subscript (.Name x p1) (.Name y p2) p3) e0) Q E s := by
  refine Subscript_ (wpAny_Name (wpAny_loadName_local hk hx hm h1 (wpAny_Name (wpAny_loadName_local hk hy hm h2 ?_) hdy)) hdx)
  exact list_item hl hl (by omega) (by omega) (by simpa using hv) h
noncomputable def picks (c q : Nat) (wd : Nat → List Str) : List Str := (List.range c).flatMap fun col => (List.range q).map fun r => (wd r).getD col (Str.ofString "")
theorem picks_succ {c q : Nat} {wd : Nat → List Str} : picks (c + 1) q wd = picks c q wd ++ (List.range q).map fun r => (wd r).getD c (Str.ofString "") := by simp [picks, List.range_succ]
theorem picks_len {c q : Nat} {wd : Nat → List Str} : (picks c q wd).length = c * q := by
  induction c with
  | zero => simp [picks]
  | succ n ih => rw [picks_succ, List.length_append, ih, List.length_map, List.length_range, Nat.succ_mul]
inductive PkInv (s s' : Shared) (h₀ : Heap) (L : Addr) (m : Str → Option Value) (news : List (Addr × Obj)) (I : Addr) (c q : Nat) (wd : Nat → List Str) (k : Nat) : Prop
  | mk (h' : Heap) (tk i : Nat) (l : List (Str × Tok)) (m' : Str → Option Value) (q0 : s' = { s with heap := h', toks := tk }) (q1 : i ≤ c) (q2 : k = c + 1 - i) (q3 : IsRangeIter h' I (0 + ((i : Nat) : Int) * 1) ((c : Int) - ((i : Nat) : Int)) 1) (q4 : Fr h₀ L h' m) (q5 : h'.Ns (I + 1 + 1) m')
      (q6 : News h₀ L h' ((I + 1, LCg.lst (strValues l)) :: news)) (q7 : l.map (·.1) = picks i q wd) : PkInv s s' h₀ L m news I c q wd k
inductive PkInv2 (s s' : Shared) (h₀ : Heap) (L : Addr) (m : Str → Option Value) (news : List (Addr × Obj)) (I I2 RW : Addr) (i c q : Nat) (wd : Nat → List Str) (tv : Tok) (k : Nat) : Prop
  | mk (h' : Heap) (tk j : Nat) (l2 : List (Str × Tok)) (m2 : Str → Option Value) (q0 : s' = { s with heap := h', toks := tk }) (q1 : j ≤ q) (q2 : k = q + 1 - j) (q3 : h'.IsListIter I2 RW j)
      (q4 : IsRangeIter h' I (0 + ((i + 1 : Nat) : Int) * 1) ((c : Int) - ((i + 1 : Nat) : Int)) 1) (q5 : Fr h₀ L h' m) (q6 : h'.Ns (I + 1 + 1) m2) (q7 : m2 "column" = some (.int (i : Int) tv)) (q8 : News h₀ L h' ((I + 1, LCg.lst (strValues l2)) :: news))
      (q9 : l2.map (·.1) = picks i q wd ++ (List.range j).map fun r => (wd r).getD i (Str.ofString "")) : PkInv2 s s' h₀ L m news I I2 RW i c q wd tv k
theorem picked_wp {scope : Scope} {cl : List (Str × Addr)} {pos p1 p2 p3 p4 p5 p6 : Pos} {it1 : Expr} {c q : Nat} {RW cR : Addr} {oR : Obj} {Ts : List Addr} {nr : Nat} {wd : Nat → List Str} {Q : Value → Shared → Prop}
    (hh : A.handled = none) (hclos : closureFor scope env = pure cl) (hcell : ∀ y ∈ scope.names, y.2 ≠ .cell) (hkind : scope.kind = .function)
    (hnames : ∀ y ∈ scope.names, y.2 = .local → scope.names.lookup y.1 = some .local) (hx1 : scope.names.lookup ("column" : Str) = some .local) (hx2 : scope.names.lookup ("row" : Str) = some .local)
    (hrk : ∀ C, (compEnvC scope cl C env).kindOf "rows" = some .cell) (hrc : cl.lookup ("rows" : Str) = some cR) (hc20 : c ≤ 20) (hq20 : q ≤ 20) (hTs : Ts.length = q)
    (hit : wpAny (model prog w) A (eval it1 env) (fun xv s₁ => ∃ r t u v, xv = .ref r ∧ IsRange s₁.heap r 0 c 1 t u v ∧ Fr h₀ L s₁.heap m ∧ News h₀ L s₁.heap news ∧ ∃ h tk, s₁ = { s with heap := h, toks := tk }) E s)
    (mR : (cR, oR) ∈ news) (dR : oR.data = .cell (some (.ref RW))) (mRW : (RW, ({ cls := .type "list", data := .seq (Ts.map Value.ref).toArray nr } : Obj)) ∈ news)
    (hrow : ∀ k, k < q → ∃ (l : List (Str × Tok)) (n : Nat), (Ts.getD k 0, ({ cls := .type "list", data := .seq (strValues l).toArray n } : Obj)) ∈ news ∧ l.map (·.1) = wd k) (hwd : ∀ k, k < q → (wd k).length = c)
    (fin : ∀ D h tk l, Fr h₀ L h m → News h₀ L h ((D, LCg.lst (strValues l)) :: news) → (∀ p ∈ news, p.1 ≠ D) → l.map (·.1) = picks c q wd → Q (.ref D) { s with heap := h, toks := tk })
    (hs : ∀ x, foldedSetIterable it1 env x = pure x := by intro _; rfl) :
    wpAny (model prog w) A (eval (LC2 (.Subscript (.Name "row" p1) (.Name "column" p2) p3) (.Name "column" p4) it1 (.Name "row" p5) (.Name "rows" p6) scope pos) env) Q E s := by
  rw [eval_ListComp]
  refine wpAny_comprehension_free (use := none) rfl hs hclos hkind hnames (wpAny_mono hit (fun xv s₁ h₁ => ?_) fun _ _ e => e)
  refine hideG (fun Gz hGz => ?_)
  obtain ⟨r, t, u, v, rfl, hr, F, N, h1, tk1, rfl⟩ := h₁
  refine hGz ?_
  clear hGz Gz
  dsimp only at hr F N
  have hrz : Builtin.Range.rangeSize 0 ((c : Nat) : Int) 1 = ((c : Nat) : Int) := by rw [rangeSize_one]; split <;> omega
  refine wpAny_pyIter_range hr (small_of (by omega) (by omega) (by omega) (by omega) (by omega) (by omega) hrz (by omega)) ?_
  refine wpAny_newObj_type (wpAny_newFunctionEnv hcell (by intro y hy; simp at hy) (fun h2 hn2 hs2 => ?_) hkind)
  have gI0 : (h1.push { cls := .type "range_iterator", data := .fields #[rawInt 0, rawInt (c : Int), rawInt 1] }).get? h1.objs.size = some { cls := .type "range_iterator", data := .fields #[rawInt 0, rawInt (c : Int), rawInt 1] } := Heap.get?_push_size _ rfl
  have gD0 : ((h1.push { cls := .type "range_iterator", data := .fields #[rawInt 0, rawInt (c : Int), rawInt 1] }).push (LCg.lst [])).get? (h1.push { cls := .type "range_iterator", data := .fields #[rawInt 0, rawInt (c : Int), rawInt 1] }).objs.size = some (LCg.lst []) := Heap.get?_push_size _ rfl
  obtain ⟨I, hI⟩ : ∃ I, h1.objs.size = I := ⟨_, rfl⟩
  simp only [Heap.size_push, hI, hrz] at hn2 hs2 gI0 gD0 ⊢
  have hsc : ∀ z, (compEnvC scope cl (I + 1 + 1) env).scope.names.lookup z = (relabel scope env).names.lookup z := fun _ => rfl
  have lt : ∀ b o, h1.get? b = some o → @LT.lt Nat _ b I := fun b o e => hI ▸ Heap.lt_size e
  have hLI : @LT.lt Nat _ L I := hI ▸ F.ns.lt
  have keep : ∀ b o, h1.get? b = some o → h2.get? b = some o := fun b o e => hs2.extBut b o (show @Ne Nat _ _ by have := lt b o e; omega) (Heap.get?_push_of_some _ (Heap.get?_push_of_some _ (Heap.get?_push_of_some _ e)))
  have gI : h2.get? I = some _ := hs2.extBut I _ (show @Ne Nat _ _ by omega) (Heap.get?_push_of_some _ (Heap.get?_push_of_some _ gI0))
  have gD : h2.get? (I + 1) = some (LCg.lst (strValues [])) := hs2.extBut (I + 1) _ (show @Ne Nat _ _ by omega) (Heap.get?_push_of_some _ gD0)
  have fr0 : ∀ a, @LE.le Nat _ I a → h₀.get? a = none := fun a ha => by
    cases e : h₀.get? a with
    | none => rfl
    | some o' => have := lt a o' (F.keep a o' e); omega
  have hst0 : IsRangeIter h2 I (0 + ((0 : Nat) : Int) * 1) ((c : Int) - ((0 : Nat) : Int)) 1 := by simpa [IsRangeIter] using gI
  have ltn : ∀ p ∈ news, @LT.lt Nat _ p.1 I := fun p hp => lt _ _ (N p hp).1
  have F2 : Fr h₀ L h2 m := fr_kept F keep
  have N2 : News h₀ L h2 ((I + 1, LCg.lst (strValues [])) :: news) := news_cons (news_kept N keep) gD (show @Ne Nat _ _ by omega) (fr0 _ (show @LE.le Nat _ _ _ by omega))
  have nDnews : ∀ p ∈ news, p.1 ≠ I + 1 := fun p hp => (show @Ne Nat _ _ by have := ltn p hp; omega)
  have ltR := ltn _ mRW
  dsimp only at ltR
  have hjr : ∀ j, j < q → (Ts.map Value.ref).toArray[j]? = some (.ref (Ts.getD j 0)) := fun j hj => by
    have h0 : j < Ts.length := by omega
    rw [List.getElem?_toArray, List.getElem?_map, List.getElem?_eq_getElem h0, List.getD_eq_getElem?_getD, List.getElem?_eq_getElem h0]
    rfl
  have loop : ∀ s3 : Shared, s3 = { s with heap := h2, toks := tk1 + ([] : List (Str × Value)).length } →
      codeAny (model prog w) A (.compLoop (LC2 (.Subscript (.Name "row" p1) (.Name "column" p2) p3) (.Name "column" p4) it1 (.Name "row" p5) (.Name "rows" p6) scope pos) 0 (.ref I) (.ref (I + 1)) (compEnvC scope cl (I + 1 + 1) env)) (compPost (model prog w) A E none Q (.ref (I + 1)) (I + 1 + 1)) s3 := by
    rintro s3 rfl
    refine loop_two0 (fun k s' => PkInv s s' h₀ L m news I c q wd k) ?_ (c + 1)
      ⟨h2, _, 0, [], _, rfl, Nat.zero_le _, rfl, hst0, F2, hn2, N2, rfl⟩
    rintro k s' ⟨h', tk, i, l, m', rfl, hi, rfl, hit', F', hn', N', hl⟩
    by_cases hlt : i < c
    · refine (LCg.range_walks hh 0 c).item i _ _ _ hlt hit' fun v h3 tk3 hPv hst3 hk3 => ?_
      obtain ⟨tv, rfl⟩ := hPv
      rw [Int.zero_add]
      refine wpAny_assign_Name (wpAny_storeName_local (lookup_relabel_local hx1) (hn'.at' fun o e => hk3 _ o (by
        intro q
        have : I + 1 + 1 = I := List.mem_singleton.mp q
        omega) e) (fun h4 hn4 hs4 => ?_) (by simp [compEnvC, relabel, hkind]))
      have hn4 : h4.Ns (I + 1 + 1) _ := hn4
      have hs4 : Heap.SameBut (I + 1 + 1) h3 h4 := hs4
      have F4 : Fr h₀ L h4 m := fr_same (LCg.fr_but F' hk3 (show @Ne Nat _ _ by omega) (fr0 _ (Nat.le_refl _))) hs4 (show @Ne Nat _ _ by omega) (fr0 _ (show @LE.le Nat _ _ _ by omega))
      have N4 : News h₀ L h4 ((I + 1, LCg.lst (strValues l)) :: news) := news_same (LCg.news_but N' hk3 fun p hp => by
        rcases List.mem_cons.mp hp with rfl | hp
        · exact (show @Ne Nat _ _ by dsimp only; omega)
        · exact (show @Ne Nat _ _ by have := ltn p hp; omega)) hs4 fun p hp => by
        rcases List.mem_cons.mp hp with rfl | hp
        · exact (show @Ne Nat _ _ by dsimp only; omega)
        · exact (show @Ne Nat _ _ by have := ltn p hp; omega)
      have hst4 : h4.get? I = some _ := hs4.extBut I _ (show @Ne Nat _ _ by omega) hst3
      refine wpAny_Name (wpAny_loadName_cell (c := cR) (by simp [compEnvC, relabel, hkind]) (hrk _) hrc ⟨oR, (N4 _ (.tail _ mR)).1, dR⟩ ?_) (by decide)
      refine wpAny_pyIter_list ⟨_, (N4 _ (.tail _ mRW)).1, rfl, _, rfl⟩ ?_
      dsimp only
      obtain ⟨I2, hI2⟩ : ∃ I2, h4.objs.size = I2 := ⟨_, rfl⟩
      rw [hI2]
      have lt4 : ∀ b o, h4.get? b = some o → @LT.lt Nat _ b I2 := fun b o e => hI2 ▸ Heap.lt_size e
      have ltC : @LT.lt Nat _ (I + 1 + 1) I2 := hI2 ▸ hn4.lt
      have k5 : ∀ b o, h4.get? b = some o → (h4.push { cls := .type "list_iterator", data := .fields #[.ref RW, .int 0 0] }).get? b = some o := fun _ _ e => Heap.get?_push_of_some _ e
      have gI2 : (h4.push { cls := .type "list_iterator", data := .fields #[.ref RW, .int 0 0] }).get? I2 = some { cls := .type "list_iterator", data := .fields #[.ref RW, .int 0 0] } := hI2 ▸ Heap.get?_push_size _ rfl
      have inv0 : PkInv2 s ({ s with heap := h4.push { cls := .type "list_iterator", data := .fields #[.ref RW, .int 0 0] }, toks := tk3 + 1 } : Shared) h₀ L m news I I2 RW i c q wd tv (q + 1) :=
        ⟨_, _, 0, l, _, rfl, Nat.zero_le _, rfl, ⟨_, gI2, rfl, rfl⟩, k5 _ _ hst4, fr_kept F4 k5, hn4.at' fun o e => k5 _ o e, if_pos rfl, news_kept N4 k5, by simpa using hl⟩
      have inv1 := inv0
      refine hideG (fun Gz hGz => ?_)
      obtain ⟨h5, tk5, j5, l5, m5, e5, -, -, hli5, -⟩ := inv1
      refine hGz ?_
      clear hGz Gz
      have hli0 : (h4.push { cls := .type "list_iterator", data := .fields #[.ref RW, .int 0 0] }).IsListIter I2 RW 0 := ⟨_, gI2, rfl, rfl⟩
      refine ⟨fun k s' => PkInv2 s s' h₀ L m news I I2 RW i c q wd tv k,
        q + 1, inv0, wpAny_pyIter_listiter hli0 ⟨rfl, inv0⟩, fun _ => rfl, ?_⟩
      clear inv0 e5 hli5 hli0 N4 F4 hn4 hst4 hst3 hk3 hit' N' F' hn' hs4
      rintro k s' ⟨h6, tk6, j, l2, m2, rfl, hj, rfl, hli, hri, F6, hn6, hcol, N6, hl2⟩
      have hne2 : RW ≠ I2 := (show @Ne Nat _ _ by omega)
      have hRW6 : h6.IsList RW (Ts.map Value.ref).toArray := ⟨_, (N6 _ (.tail _ mRW)).1, rfl, _, rfl⟩
      have ltI2 : ∀ p ∈ (I + 1, LCg.lst (strValues l2)) :: news, p.1 ≠ I2 := fun p hp => by
        rcases List.mem_cons.mp hp with rfl | hp
        · exact (show @Ne Nat _ _ by dsimp only; omega)
        · exact (show @Ne Nat _ _ by have := ltn p hp; omega)
      by_cases hjq : j < q
      · refine (Walks.list (A := A) hh I2 RW hne2 (Ts.map Value.ref).toArray).item j _ _ _ (by simpa [hTs] using hjq) ⟨hli, hRW6⟩ fun v h7 tk7 hPv hst7 hk7 => ?_
        have hPv : (Ts.map Value.ref).toArray[j]? = some v := hPv
        rw [hjr j hjq] at hPv
        obtain rfl := Option.some.inj hPv
        refine wpAny_assign_Name (wpAny_storeName_local (lookup_relabel_local hx2) (hn6.at' fun o e => hk7 _ o (by
          intro q
          have : I + 1 + 1 = I2 := List.mem_singleton.mp q
          omega) e) (fun h8 hn8 hs8 => ?_) (by simp [compEnvC, relabel, hkind]))
        have hn8 : h8.Ns (I + 1 + 1) _ := hn8
        have hs8 : Heap.SameBut (I + 1 + 1) h7 h8 := hs8
        have F8 : Fr h₀ L h8 m := fr_same (LCg.fr_but F6 hk7 (show @Ne Nat _ _ by omega) (fr0 _ (show @LE.le Nat _ _ _ by omega))) hs8 (show @Ne Nat _ _ by omega) (fr0 _ (show @LE.le Nat _ _ _ by omega))
        have N8 : News h₀ L h8 ((I + 1, LCg.lst (strValues l2)) :: news) := news_same (LCg.news_but N6 hk7 ltI2) hs8 fun p hp => by
          rcases List.mem_cons.mp hp with rfl | hp
          · exact (show @Ne Nat _ _ by dsimp only; omega)
          · exact (show @Ne Nat _ _ by have := ltn p hp; omega)
        have hri8 : h8.get? I = some _ := hs8.extBut I _ (show @Ne Nat _ _ by omega) (hk7 _ _ (by
          intro q
          have : I = I2 := List.mem_singleton.mp q
          omega) hri)
        refine hideG (fun Gz hGz => ?_)
        obtain ⟨li, hli7, hli7c, hli7d⟩ := hst7.1
        have hli8 : h8.IsListIter I2 RW (j + 1) := ⟨li, hs8.extBut I2 _ (show @Ne Nat _ _ by omega) hli7, hli7c, hli7d⟩
        obtain ⟨lr, nl, hmem, hlr⟩ := hrow j hjq
        refine hGz ?_
        clear hGz Gz
        have hlrl : i < lr.length := by
          have h1 := congrArg List.length hlr
          have h2 := hwd j hjq
          simp only [List.length_map] at h1
          omega
        refine row_col (e0 := compEnvC _ _ _ _) (k := i) (t := tv) (v := .str lr[i].1 lr[i].2) (by simp [compEnvC, relabel, hkind]) (lookup_relabel_local hx2) (lookup_relabel_local hx1) (by decide) (by decide) hn8 (if_pos rfl) ((if_neg (by decide)).trans hcol) (N8 _ (.tail _ hmem)).1 (by simp [strValues, hlrl]) (by omega) ?_
        have zD := (N8 _ (.head _)).1
        dsimp only at zD
        have hl2l : l2.length ≤ 400 := by
          have h1 := congrArg List.length hl2
          rw [List.length_map, List.length_append, picks_len, List.length_map, List.length_range] at h1
          have h2 : i * q ≤ 19 * 20 := Nat.mul_le_mul (by omega) hq20
          omega
        refine append_at zD (fun h9 hs9 hD9 => ?_) (by simp only [strValues, List.size_toArray, List.length_map]; rw [PySem.sizeLine_eq]; omega)
        refine ⟨q + 1 - (j + 1), by omega, h9, _, j + 1, l2 ++ [(lr[i].1, lr[i].2)], _, rfl, hjq, rfl, ⟨li, hs9.extBut I2 _ (show @Ne Nat _ _ by omega) (hs8.extBut I2 _ (show @Ne Nat _ _ by omega) hli7), hli7c, hli7d⟩, hs9.extBut I _ (show @Ne Nat _ _ by omega) hri8, fr_same F8 hs9 (show @Ne Nat _ _ by omega) (fr0 _ (show @LE.le Nat _ _ _ by omega)), hn8.at' fun o e => hs9.extBut _ o (show @Ne Nat _ _ by omega) e, (if_neg (by decide)).trans hcol, ?_, ?_⟩
        · intro p hp
          rcases List.mem_cons.mp hp with rfl | hp
          · refine ⟨?_, (N8 _ (.head _)).2⟩
            refine hD9.trans ?_
            rw [LCg.lst_snoc]
            simp [strValues]
          · exact ⟨hs9.extBut _ _ (nDnews p hp) (N8 _ (.tail _ hp)).1, (N8 _ (.tail _ hp)).2⟩
        · rw [List.map_append, hl2, List.range_succ, List.map_append, List.append_assoc]
          congr 2
          simp only [List.map_cons, List.map_nil]
          rw [← hlr, List.getD_eq_getElem?_getD, List.getElem?_map, List.getElem?_eq_getElem hlrl]
          rfl
      · obtain rfl : j = q := by omega
        have hsz : (Ts.map Value.ref).toArray.size = j := by simp [hTs]
        refine (Walks.list (A := A) hh I2 RW hne2 (Ts.map Value.ref).toArray).done _ _ _ (by rw [hsz]; exact ⟨hli, hRW6⟩) fun h7 tk7 hk7 => ?_
        refine ⟨c + 1 - (i + 1), by omega, h7, _, i + 1, l2, m2, rfl, hlt, rfl, hk7 _ _ (by
          intro q
          have : I = I2 := List.mem_singleton.mp q
          omega) hri, LCg.fr_but F6 hk7 (show @Ne Nat _ _ by omega) (fr0 _ (show @LE.le Nat _ _ _ by omega)), hn6.at' fun o e => hk7 _ o (by
          intro q
          have : I + 1 + 1 = I2 := List.mem_singleton.mp q
          omega) e, LCg.news_but N6 hk7 ltI2, by rw [hl2, picks_succ]⟩
    · obtain rfl : i = c := by omega
      refine (LCg.range_walks hh 0 i).done _ _ _ hit' fun h3 tk3 hk3 => ?_
      have N3 := LCg.news_but N' hk3 fun p hp => by
        rcases List.mem_cons.mp hp with rfl | hp
        · exact (show @Ne Nat _ _ by dsimp only; omega)
        · exact (show @Ne Nat _ _ by have := ltn p hp; omega)
      have F3 := LCg.fr_but F' hk3 (show @Ne Nat _ _ by omega) (fr0 _ (Nat.le_refl _))
      refine ⟨m', hn'.at' fun o e => hk3 _ o (by
        intro q
        have : I + 1 + 1 = I := List.mem_singleton.mp q
        omega) e, fun h9 hs9 => fin (I + 1) h9 tk3 l (fr_same F3 hs9 (show @Ne Nat _ _ by omega) (fr0 _ (show @LE.le Nat _ _ _ by omega))) (news_same N3 hs9 fun p hp => by
        rcases List.mem_cons.mp hp with rfl | hp
        · exact (show @Ne Nat _ _ by dsimp only; omega)
        · exact (show @Ne Nat _ _ by have := ltn p hp; omega)) nDnews hl⟩
  exact codeAny_compStart_list (loop _ rfl) (wpAny_pyIter_rangeiter hst0 (loop _ rfl))
end


theorem flat_range (G : Nat → Str) (q : Nat) : ∀ c : Nat, ((List.range c).flatMap fun col => (List.range q).map fun r => G (col * q + r)) = (List.range (c * q)).map G
  | 0 => by simp
  | c + 1 => by
    rw [List.range_succ, List.flatMap_append, flat_range G q c, Nat.succ_mul, List.range_add, List.map_append]
    simp [Function.comp_def]
theorem picks_pks {M f c q : Nat} (hM20 : M ≤ 20) (hM : M = q * c) : picks c q (wordsAt (nms M) c (db M f)) = pks M (f * c % (M + 1)) := by
  have h1 : picks c q (wordsAt (nms M) c (db M f)) = (List.range c).flatMap fun col => (List.range q).map fun r => (fun p => (nms M).getD ((f * c % (M + 1)) * (p + 1) % (M + 1)) (Str.ofString "")) (col * q + r) := by
    unfold picks
    rw [List.flatMap_def, List.flatMap_def]
    congr 1
    refine List.map_congr_left fun col hcol => List.map_congr_left fun r hr => ?_
    have hc := List.mem_range.mp hcol
    have hr := List.mem_range.mp hr
    have e : (wordsAt (nms M) c (db M f) r).getD col (Str.ofString "") = csOf (nms M) c (db M f) (r * c + col) := by
      unfold wordsAt
      rw [List.getD_eq_getElem?_getD, List.getElem?_map, List.getElem?_range hc]
      rfl
    rw [e, pick_at hM20 hM hr hc]
  rw [h1, flat_range (fun p => (nms M).getD ((f * c % (M + 1)) * (p + 1) % (M + 1)) (Str.ofString "")) q c, Nat.mul_comm c q, ← hM]
  simp [pks, dk, Function.comp_def]
theorem words_len {names : List Str} {c : Nat} {deck : List UInt8} {k : Nat} : (wordsAt names c deck k).length = c := by simp [wordsAt]


section
variable {prog : Program} {w : World} {A : Around} {E : Value → Shared → Prop} {s : Shared} {Q : Value → Shared → Prop}
theorem ne_lists {a b : Addr} {items items2 : Array Value} (h1 : s.heap.IsList a items) (h2 : s.heap.IsList b items2) (hsz : items.size = items2.size) (hu : A.units < cLine)
    (he : ∀ j (_ : j < items.size) (_ : j < items2.size), SeqAt.EqAt A.in1 s items[j] items2[j] true) (h : Q (.bool false) s) : wpAny (model prog w) A (compareOp .NotEq (.ref a) (.ref b)) Q E s := by
  have key := SeqAt.RcNeAt.lists (e := fun _ => true) h1 h2 hsz hu he
  show wpAny _ _ (richCompare .NotEq _ _) _ _ _
  refine key prog w E Q ?_
  rw [show (!(List.range items.size).all fun _ => true) = false by simp]
  exact h
theorem ne_strs {a b : Addr} {l1 l2 : List (Str × Tok)} (h1 : s.heap.IsList a (strValues l1).toArray) (h2 : s.heap.IsList b (strValues l2).toArray) (e : l1.map (·.1) = l2.map (·.1)) (hu : A.units < cLine) (h : Q (.bool false) s) :
    wpAny (model prog w) A (compareOp .NotEq (.ref a) (.ref b)) Q E s := by
  have hl : l1.length = l2.length := by simpa using congrArg List.length e
  refine ne_lists h1 h2 (by simp [strValues, hl]) hu (fun j hj1 hj2 => ?_) h
  have k1 : j < l1.length := by simpa [strValues] using hj1
  have k2 : j < l2.length := by simpa [strValues] using hj2
  have e1 : l1[j].1 = l2[j].1 := by
    have := congrArg (fun l => l[j]?) e
    simpa [k1, k2] using this
  have e2 := SeqAt.EqAt.str_str (A := A.in1) (s := s) l1[j].1 l1[j].2 l2[j].1 l2[j].2
  rw [e1] at e2
  simpa [strValues, e1] using e2
theorem ne_types {a b : Addr} {n m : Nat} {T : String} (h1 : s.heap.IsList a (List.replicate n (Value.type T)).toArray) (h2 : s.heap.IsList b (List.replicate m (Value.type T)).toArray) (e : n = m) (hu : A.units < cLine) (h : Q (.bool false) s) :
    wpAny (model prog w) A (compareOp .NotEq (.ref a) (.ref b)) Q E s := by
  subst e
  refine ne_lists h1 h2 rfl hu (fun j hj1 hj2 => ?_) h
  exact SeqAt.EqAt.same _
theorem cell_sub {e0 : Env} {x : Str} {sl : Expr} {p1 p2 : Pos} {cP PK : Addr} {lp : List (Str × Tok)} {n k : Nat} (hk : e0.scope.kind = .function) (hx : e0.kindOf x = some .cell) (hxc : e0.cells.lookup x = some cP) (hd : (x == ("__debug__" : Str)) = false)
    (hcell : s.heap.IsCell cP (some (.ref PK))) (hL : s.heap.get? PK = some { cls := .type "list", data := .seq (strValues lp).toArray n }) (hkl : k < lp.length) (hz : lp.length ≤ 1000)
    (hsl : wpAny (model prog w) A (eval sl e0) (fun v s' => ∃ t tk, v = .int (k : Int) t ∧ s' = { s with toks := tk }) E s) (h : ∀ tk t, Q (.str ((lp.map (·.1)).getD k (Str.ofString "")) t) { s with toks := tk })
    (hs : ∀ u, subscripted sl false (.ref PK) (.int (k : Int) u) = operate [.ref PK, .int (k : Int) u] (getItem (.ref PK) (.int (k : Int) u)) := by intro _; with_unfolding_all rfl) :
    wpAny (model prog w) A (eval (.Subscript (.Name x p1) sl p2) e0) Q E s := by
  refine Subscript_ (wpAny_Name (wpAny_loadName_cell hk hx hxc hcell (wpAny_mono hsl (fun v s' h' => ?_) fun _ _ e => e)) hd)
  obtain ⟨t, tk, rfl, rfl⟩ := h'
  have hv : (lp.map (·.1)).getD k (Str.ofString "") = lp[k].1 := by
    rw [List.getD_eq_getElem?_getD, List.getElem?_map, List.getElem?_eq_getElem hkl]
    rfl
  rw [hv] at h
  exact list_item (s := { s with toks := tk }) hL hL (by omega) (by omega) (v := .str lp[k].1 lp[k].2) (by simp [strValues, hkl]) (h _ _) (hs t)
theorem idx_local {e0 : Env} {y : Str} {p : Pos} {k : Nat} {t : Tok} {m : Str → Option Value} (hk : e0.scope.kind = .function) (hy : e0.kindOf y = some .local) (hd : (y == ("__debug__" : Str)) = false) (hm : s.heap.Ns e0.locals m) (hv : m y = some (.int (k : Int) t)) :
    wpAny (model prog w) A (eval (.Name y p) e0) (fun v s' => ∃ t tk, v = .int (k : Int) t ∧ s' = { s with toks := tk }) E s :=
  wpAny_Name (wpAny_loadName_local hk hy hm hv ⟨t, s.toks, rfl, rfl⟩) hd
theorem idx_sub {e0 : Env} {y : Str} {e1 : Expr} {p p2 : Pos} {k : Nat} {t : Tok} {m : Str → Option Value} (hk : e0.scope.kind = .function) (hy : e0.kindOf y = some .local) (hd : (y == ("__debug__" : Str)) = false) (hm : s.heap.Ns e0.locals m) (hv : m y = some (.int ((k + 1 : Nat) : Int) t))
    (he1 : ∀ (s : Shared) (Q : Value → Shared → Prop), (∀ tk t, Q (.int 1 t) { s with toks := tk }) → wpAny (model prog w) A (eval e1 e0) Q E s) :
    wpAny (model prog w) A (eval (.BinOp (.Name y p) .Sub e1 p2) e0) (fun v s' => ∃ t tk, v = .int (k : Int) t ∧ s' = { s with toks := tk }) E s := by
  refine wpAny_BinOp (wpAny_Name (wpAny_loadName_local hk hy hm hv (he1 _ _ fun tk t1 => ?_)) hd)
  exact sub_int ⟨_, _, by rw [Int.natCast_add]; simp; rfl, rfl⟩
theorem idx_add {e0 : Env} {y : Str} {e1 : Expr} {p p2 : Pos} {k : Nat} {t : Tok} {m : Str → Option Value} (hk : e0.scope.kind = .function) (hy : e0.kindOf y = some .local) (hd : (y == ("__debug__" : Str)) = false) (hm : s.heap.Ns e0.locals m) (hv : m y = some (.int (k : Int) t))
    (he1 : ∀ (s : Shared) (Q : Value → Shared → Prop), (∀ tk t, Q (.int 1 t) { s with toks := tk }) → wpAny (model prog w) A (eval e1 e0) Q E s) :
    wpAny (model prog w) A (eval (.BinOp (.Name y p) .Add e1 p2) e0) (fun v s' => ∃ t tk, v = .int ((k + 1 : Nat) : Int) t ∧ s' = { s with toks := tk }) E s := by
  refine wpAny_BinOp (wpAny_Name (wpAny_loadName_local hk hy hm hv (he1 _ _ fun tk t1 => ?_)) hd)
  exact add_int ⟨_, _, rfl, rfl⟩
end


theorem g_sc {w : World} : nsIn (Mine.hd.heap_1 w.params) mainGlobals "_strcoll" = some (some (.ref 189)) := by k_is
theorem fn_sc {w : World} : fnIn (Mine.hd.heap_1 w.params) 189 = true := by k_is
theorem g_sub {w : World} : nsIn (Mine.hd.heap_1 w.params) mainGlobals "_substitution_cost" = some (some (.ref 203)) := by k_is
theorem fn_sub {w : World} : fnIn (Mine.hd.heap_1 w.params) 203 = true := by k_is
section
variable {prog : Program} {w : World} {A : Around} {E : Value → Shared → Prop} {s : Shared} {Q : Value → Shared → Prop} {mg mb : Str → Option Value} {e0 : Env} {m : Str → Option Value}
theorem step_elt {p1 p2 p3 p4 p5 p6 p7 p8 p9 : Pos} {e1 : Expr} {cP PK : Addr} {lp : List (Str × Tok)} {n k : Nat} {t : Tok} (O : Ok w mg mb s.heap) (hd : A.depth + 1 < recursionLimit)
    (hk : e0.scope.kind = .function) (hl : e0.kindOf "_strcoll" = some .globalImplicit) (hgl : e0.globals = mainGlobals) (hx : e0.kindOf "picked" = some .cell) (hxc : e0.cells.lookup ("picked" : Str) = some cP) (hy : e0.kindOf "place" = some .local)
    (hcell : s.heap.IsCell cP (some (.ref PK))) (hL : s.heap.get? PK = some { cls := .type "list", data := .seq (strValues lp).toArray n }) (hkl : k + 1 < lp.length) (hz : lp.length ≤ 1000) (hm : s.heap.Ns e0.locals m) (hv : m "place" = some (.int ((k + 1 : Nat) : Int) t))
    (he1 : ∀ (s : Shared) (Q : Value → Shared → Prop), (∀ tk t, Q (.int 1 t) { s with toks := tk }) → wpAny (model prog w) A (eval e1 e0) Q E s)
    (h : ∀ h' tk t, (∀ b o, s.heap.get? b = some o → h'.get? b = some o) → Q (.int (strcollI ((lp.map (·.1)).getD k (Str.ofString "")) ((lp.map (·.1)).getD (k + 1) (Str.ofString ""))) t) { s with heap := h', toks := tk })
    (hs1 : starEach [.Subscript (.Name "picked" p2) (.BinOp (.Name "place" p3) .Sub e1 p4) p5, .Subscript (.Name "picked" p6) (.Name "place" p7) p8] e0 = [(false, eval (.Subscript (.Name "picked" p2) (.BinOp (.Name "place" p3) .Sub e1 p4) p5) e0), (false, eval (.Subscript (.Name "picked" p6) (.Name "place" p7) p8) e0)] := by rfl) :
    wpAny (model prog w) A (eval (.Call (.Name "_strcoll" p1) [.Subscript (.Name "picked" p2) (.BinOp (.Name "place" p3) .Sub e1 p4) p5, .Subscript (.Name "picked" p6) (.Name "place" p7) p8] [] p9) e0) Q E s := by
  refine wpN_false (wpN_CallName (trees := [(false, eval (.Subscript (.Name "picked" p2) (.BinOp (.Name "place" p3) .Sub e1 p4) p5) e0), (false, eval (.Subscript (.Name "picked" p6) (.Name "place" p7) p8) e0)]) (by rw [hs1]; rfl) ?_)
  refine Calls.Name_function_global hk hl (Calls.loadGlobal_global (env := e0) (show s.heap.Ns e0.globals mg from hgl ▸ O.T.g) (mg_of O.frag O.T.g g_sc) ?_)
  refine callWithN_fn (K := Mine.hd.heap_1 w.params) (fn_sc (w := w)) rfl (by simp) (Calls.evalArgs_plain (Calls.spliced_cons ?_))
  refine cell_sub hk hx hxc (by decide) hcell hL (by omega) hz (idx_sub hk hy (by decide) hm hv he1) (fun tk1 t1 => Calls.spliced_cons ?_)
  refine cell_sub hk hx hxc (by decide) hcell hL hkl hz (idx_local hk hy (by decide) hm hv) (fun tk2 t2 => Calls.spliced_nil ⟨O.frag, wpN_any ?_⟩)
  exact strcoll_wp (A := A) (by exact O) hd _ _ t1 t2 fun t h' tk k' => h h' tk t k'
theorem cost_elt {p1 p2 p3 p4 p5 p6 p7 p8 p9 : Pos} {e1 : Expr} {cP PK cN NA : Addr} {lp ln : List (Str × Tok)} {n n2 k : Nat} {t : Tok} (O : Ok w mg mb s.heap) (hd : A.depth + 1 < recursionLimit)
    (hk : e0.scope.kind = .function) (hl : e0.kindOf "_substitution_cost" = some .globalImplicit) (hgl : e0.globals = mainGlobals) (hx : e0.kindOf "picked" = some .cell) (hxc : e0.cells.lookup ("picked" : Str) = some cP)
    (hxn : e0.kindOf "names" = some .cell) (hxnc : e0.cells.lookup ("names" : Str) = some cN) (hy : e0.kindOf "place" = some .local)
    (hcell : s.heap.IsCell cP (some (.ref PK))) (hL : s.heap.get? PK = some { cls := .type "list", data := .seq (strValues lp).toArray n }) (hcelln : s.heap.IsCell cN (some (.ref NA))) (hLn : s.heap.get? NA = some { cls := .type "list", data := .seq (strValues ln).toArray n2 })
    (hkl : k < lp.length) (hkn : k + 1 < ln.length) (hz : lp.length ≤ 1000) (hzn : ln.length ≤ 1000) (hlp : ∀ x ∈ lp.map (·.1), x.length ≤ 1000) (hln : ∀ x ∈ ln.map (·.1), x.length ≤ 1000) (hm : s.heap.Ns e0.locals m) (hv : m "place" = some (.int (k : Int) t))
    (he1 : ∀ (s : Shared) (Q : Value → Shared → Prop), (∀ tk t, Q (.int 1 t) { s with toks := tk }) → wpAny (model prog w) A (eval e1 e0) Q E s)
    (h : ∀ h' tk t, (∀ b o, s.heap.get? b = some o → h'.get? b = some o) → Q (.int (substI ((ln.map (·.1)).getD (k + 1) (Str.ofString "")) ((lp.map (·.1)).getD k (Str.ofString ""))) t) { s with heap := h', toks := tk })
    (hs1 : starEach [.Subscript (.Name "names" p2) (.BinOp (.Name "place" p3) .Add e1 p4) p5, .Subscript (.Name "picked" p6) (.Name "place" p7) p8] e0 = [(false, eval (.Subscript (.Name "names" p2) (.BinOp (.Name "place" p3) .Add e1 p4) p5) e0), (false, eval (.Subscript (.Name "picked" p6) (.Name "place" p7) p8) e0)] := by rfl) :
    wpAny (model prog w) A (eval (.Call (.Name "_substitution_cost" p1) [.Subscript (.Name "names" p2) (.BinOp (.Name "place" p3) .Add e1 p4) p5, .Subscript (.Name "picked" p6) (.Name "place" p7) p8] [] p9) e0) Q E s := by
  refine wpN_false (wpN_CallName (trees := [(false, eval (.Subscript (.Name "names" p2) (.BinOp (.Name "place" p3) .Add e1 p4) p5) e0), (false, eval (.Subscript (.Name "picked" p6) (.Name "place" p7) p8) e0)]) (by rw [hs1]; rfl) ?_)
  refine Calls.Name_function_global hk hl (Calls.loadGlobal_global (env := e0) (show s.heap.Ns e0.globals mg from hgl ▸ O.T.g) (mg_of O.frag O.T.g g_sub) ?_)
  refine callWithN_fn (K := Mine.hd.heap_1 w.params) (fn_sub (w := w)) rfl (by simp) (Calls.evalArgs_plain (Calls.spliced_cons ?_))
  refine cell_sub hk hxn hxnc (by decide) hcelln hLn hkn hzn (idx_add hk hy (by decide) hm hv he1) (fun tk1 t1 => Calls.spliced_cons ?_)
  refine cell_sub hk hx hxc (by decide) hcell hL hkl hz (idx_local hk hy (by decide) hm hv) (fun tk2 t2 => Calls.spliced_nil ⟨O.frag, wpN_any ?_⟩)
  refine subst_wp (A := A) (by exact O) hd _ _ t1 t2 ?_ ?_ fun t h' tk k' => h h' tk t k'
  · refine hln _ ?_
    rw [List.getD_eq_getElem?_getD, List.getElem?_eq_getElem (by simpa using hkn)]
    exact List.getElem_mem _
  · refine hlp _ ?_
    rw [List.getD_eq_getElem?_getD, List.getElem?_eq_getElem (by simpa using hkl)]
    exact List.getElem_mem _
theorem type_elt {nm : Str} {p1 p2 p3 : Pos} {x : Int} {t : Tok} (O : Ok w mg mb s.heap) (hk : e0.scope.kind = .function) (hl : e0.kindOf "type" = some .globalImplicit) (hn : e0.kindOf nm = some .local) (hnd : (nm == ("__debug__" : Str)) = false)
    (hgl : e0.globals = mainGlobals) (hbl : e0.builtins = builtinsNs) (hm : s.heap.Ns e0.locals m) (hv : m nm = some (.int x t)) (h : Q (.type "int") s) :
    wpAny (model prog w) A (eval (.Call (.Name "type" p1) [.Name nm p2] [] p3) e0) Q E s := by
  refine Call_Name1 (Calls.Name_function_global hk hl (Calls.loadGlobal_builtin (by rw [hgl]; exact O.T.g) (mg_none_of O.frag O.T.g g_notype) (by rw [hbl]; exact O.T.b) (b_type O) ?_))
  refine Pv.callWith_type1 (e := .Name nm p2) (rest := []) ?_ (by rfl) (by rfl)
  refine Calls.spliced_cons (wpAny_Name (wpAny_loadName_local hk hn hm hv (Calls.spliced_nil ?_)) hnd)
  exact call_type_of (typeIs_int _ _ _) (by decide) h
end


theorem bits_ok : ∀ f < 32, Builtin.Int.intBits ((f : Nat) : Int) ≤ 64 := by decide +kernel
theorem fmod_nat (a b : Nat) : Int.fmod (a : Int) (b : Int) = ((a % b : Nat) : Int) := by
  rw [Int.fmod_eq_emod_of_nonneg _ (by omega), Int.natCast_emod]
theorem news_at_set {h₀ h h' : Heap} {L : Addr} {l : List (Addr × Obj)} (N : News h₀ L h l) {i : Nat} {D : Addr} {o o' : Obj} (hi : l[i]? = some (D, o)) (hs : Heap.SameBut D h h') (ho : h'.get? D = some o') (hne : LCg.Off1 D (l.eraseIdx i)) :
    News h₀ L h' (l.set i (D, o')) := by
  have hoff : ∀ {l : List (Addr × Obj)}, LCg.Off1 D l → ∀ p ∈ l, p.1 ≠ D := by
    intro l
    induction l with
    | nil => intro _ p hp; cases hp
    | cons a r ih =>
      intro h p hp
      rcases List.mem_cons.mp hp with rfl | hp
      · exact h.1
      · exact ih h.2 p hp
  have hlt : i < l.length := by
    rcases Nat.lt_or_ge i l.length with h | h
    · exact h
    · rw [List.getElem?_eq_none h] at hi; cases hi
  intro p hp
  obtain ⟨j, hj, rfl⟩ := List.getElem_of_mem hp
  rw [List.length_set] at hj
  by_cases e : i = j
  · subst e
    rw [List.getElem_set_self]
    exact ⟨ho, (N _ (List.mem_of_getElem? hi)).2⟩
  · rw [List.getElem_set_ne e]
    have z := N _ (List.getElem_mem hj)
    refine ⟨hs.extBut _ _ (hoff hne _ ?_) z.1, z.2⟩
    rw [List.mem_eraseIdx_iff_getElem]
    exact ⟨j, hj, Ne.symm e, rfl⟩
theorem lc4 {L : Nat} (h : 240 ≤ L) : @Ne Nat 140 (L + 1 + 1 + 1 + 1) ∧ @Ne Nat 147 (L + 1 + 1 + 1 + 1) ∧ @Ne Nat (L + 1 + 1 + 1 + 1 + 1 + 1) (L + 1 + 1 + 1 + 1) ∧ @Ne Nat (L + 1 + 1 + 1 + 1 + 1) (L + 1 + 1 + 1 + 1) ∧ @Ne Nat (L + 1 + 1 + 1) (L + 1 + 1 + 1 + 1) ∧ @Ne Nat (L + 1 + 1) (L + 1 + 1 + 1 + 1) ∧ @Ne Nat (L + 1) (L + 1 + 1 + 1 + 1) ∧ @Ne Nat (L + 1 + 1 + 1 + 1) L := by
  refine ⟨?_, ?_, ?_, ?_, ?_, ?_, ?_, ?_⟩ <;> omega
section
variable {prog : Program} {w : World} {A : Around} {E : Value → Shared → Prop} {s : Shared} {Q : Value → Shared → Prop} {e0 : Env} {m : Str → Option Value}
theorem mulmod {p1 p2 p3 p4 : Pos} {ey : Expr} {cF cR : Addr} {f k r : Nat} {tF tR : Tok} (hk : e0.scope.kind = .function) (hf : e0.kindOf "factor" = some .cell) (hfc : e0.cells.lookup ("factor" : Str) = some cF) (hfv : s.heap.IsCell cF (some (.int (f : Int) tF)))
    (hr : e0.kindOf "ring" = some .cell) (hrc : e0.cells.lookup ("ring" : Str) = some cR) (hrv : s.heap.IsCell cR (some (.int (r : Int) tR))) (hf32 : f < 32) (hr0 : 0 < r)
    (hy : wpAny (model prog w) A (eval ey e0) (fun v s' => ∃ t tk, v = .int (k : Int) t ∧ s' = { s with toks := tk }) E s) (h : ∀ tk t, Q (.int ((f * k % r : Nat) : Int) t) { s with toks := tk }) :
    wpAny (model prog w) A (eval (.BinOp (.BinOp (.Name "factor" p1) .Mult ey p2) .Mod (.Name "ring" p3) p4) e0) Q E s := by
  refine wpAny_BinOp (wpAny_BinOp (wpAny_Name (wpAny_loadName_cell hk hf hfc hfv (wpAny_mono hy (fun v s' h' => ?_) fun _ _ e => e)) (by decide)))
  obtain ⟨t, tk, rfl, rfl⟩ := h'
  refine mul_int ?_ (IntMulOk.of_left (bits_ok f hf32))
  refine wpAny_Name (wpAny_loadName_cell hk hr hrc hrv ?_) (by decide)
  refine mod_int (by omega) ?_
  have e : Int.fmod ((f : Int) * (k : Int)) (r : Int) = ((f * k % r : Nat) : Int) := by rw [← fmod_nat]; push_cast; rfl
  rw [e]
  exact h _ _
end


theorem g_sh {w : World} : nsIn (Mine.hd.heap_1 w.params) mainGlobals "_law_shared" = some (some (.ref 234)) := by k_is
theorem fn_sh {w : World} : fnIn (Mine.hd.heap_1 w.params) 234 = true := by k_is
section
variable {prog : Program} {w : World} {A : Around} {E : Value → Shared → Prop} {s : Shared} {mg mb : Str → Option Value} {e0 : Env} {m : Str → Option Value} {Q : Value → Shared → Prop}
theorem sum_ints {l : Addr} {vs : List Value} {ns : List Int} (hh : A.handled = none) (hl : s.heap.IsList l vs.toArray) (hi : IntsAre vs ns)
    (h : ∀ h' tk t', (∀ b o, s.heap.get? b = some o → h'.get? b = some o) → Q (.int ns.sum t') { s with heap := h', toks := tk }) :
    wpAny (model prog w) A (call (.builtin "sum") [.ref l]) Q E s := by
  have hall := hi.allInts
  obtain ⟨xs, hx⟩ := hall.items
  rw [hx] at hl
  have e : preSum (numAt xs) xs.size = ns.sum := by
    have e1 := hi.numsOf
    have e2 : vs = (intItems xs).toList := by rw [← hx]
    rw [e2, nums_intItems] at e1
    rw [preSum_eq, List.take_of_length_le (by simp), e1]
  refine sum_intListG hh hl fun h' tk t' hk => ?_
  rw [e]
  exact h h' tk t' hk
theorem csub1 {x : Str} {p p2 : Pos} {e1 : Expr} {c : Addr} {k : Nat} {t : Tok} (hk : e0.scope.kind = .function) (hx : e0.kindOf x = some .cell) (hxc : e0.cells.lookup x = some c) (hd : (x == ("__debug__" : Str)) = false) (hcell : s.heap.IsCell c (some (.int ((k + 1 : Nat) : Int) t)))
    (he1 : ∀ (s : Shared) (Q : Value → Shared → Prop), (∀ tk t, Q (.int 1 t) { s with toks := tk }) → wpAny (model prog w) A (eval e1 e0) Q E s) :
    wpAny (model prog w) A (eval (.BinOp (.Name x p) .Sub e1 p2) e0) (fun v s' => ∃ t tk, v = .int (k : Int) t ∧ s' = { s with toks := tk }) E s := by
  refine wpAny_BinOp (wpAny_Name (wpAny_loadName_cell hk hx hxc hcell (he1 _ _ fun tk t1 => ?_)) hd)
  exact sub_int ⟨_, _, by rw [Int.natCast_add]; simp; rfl, rfl⟩
theorem cadd1 {x : Str} {p p2 : Pos} {e1 : Expr} {c : Addr} {k : Nat} {t : Tok} (hk : e0.scope.kind = .function) (hx : e0.kindOf x = some .cell) (hxc : e0.cells.lookup x = some c) (hd : (x == ("__debug__" : Str)) = false) (hcell : s.heap.IsCell c (some (.int (k : Int) t)))
    (he1 : ∀ (s : Shared) (Q : Value → Shared → Prop), (∀ tk t, Q (.int 1 t) { s with toks := tk }) → wpAny (model prog w) A (eval e1 e0) Q E s) :
    wpAny (model prog w) A (eval (.BinOp (.Name x p) .Add e1 p2) e0) (fun v s' => ∃ t tk, v = .int ((k + 1 : Nat) : Int) t ∧ s' = { s with toks := tk }) E s := by
  refine wpAny_BinOp (wpAny_Name (wpAny_loadName_cell hk hx hxc hcell (he1 _ _ fun tk t1 => ?_)) hd)
  exact add_int ⟨_, _, rfl, rfl⟩
theorem shared_elt {ea : Expr} {p1 p2 p3 : Pos} {cR : Addr} {k r : Nat} {tR : Tok} (O : Ok w mg mb s.heap) (hd : A.depth + 1 < recursionLimit) (hh : A.handled = none)
    (hk : e0.scope.kind = .function) (hl : e0.kindOf "_law_shared" = some .globalImplicit) (hgl : e0.globals = mainGlobals) (hr : e0.kindOf "ring" = some .cell) (hrc : e0.cells.lookup ("ring" : Str) = some cR)
    (hrv : s.heap.IsCell cR (some (.int (r : Int) tR))) (ha : wpAny (model prog w) A (eval ea e0) (fun v s' => ∃ t tk, v = .int (k : Int) t ∧ s' = { s with toks := tk }) E s)
    (h : ∀ h' tk t, (∀ b o, s.heap.get? b = some o → h'.get? b = some o) → Q (.int (Nat.gcd k r : Nat) t) { s with heap := h', toks := tk })
    (hs1 : starEach [ea, .Name "ring" p2] e0 = [(false, eval ea e0), (false, eval (.Name "ring" p2) e0)] := by rfl) :
    wpAny (model prog w) A (eval (.Call (.Name "_law_shared" p1) [ea, .Name "ring" p2] [] p3) e0) Q E s := by
  refine wpN_false (wpN_CallName (trees := [(false, eval ea e0), (false, eval (.Name "ring" p2) e0)]) (by rw [hs1]; rfl) ?_)
  refine Calls.Name_function_global hk hl (Calls.loadGlobal_global (env := e0) (show s.heap.Ns e0.globals mg from hgl ▸ O.T.g) (mg_of O.frag O.T.g g_sh) ?_)
  refine callWithN_fn (K := Mine.hd.heap_1 w.params) (fn_sh (w := w)) rfl (by simp) (Calls.evalArgs_plain (Calls.spliced_cons (wpAny_mono ha (fun v s' h' => ?_) fun _ _ e => e)))
  obtain ⟨t, tk, rfl, rfl⟩ := h'
  refine Calls.spliced_cons (wpAny_Name (wpAny_loadName_cell hk hr hrc hrv (Calls.spliced_nil ⟨O.frag, wpN_any ?_⟩)) (by decide))
  exact shared_wp (A := A) (by exact O) hd hh _ _ t tR fun t h' tk k' => h h' tk t k'
end


theorem pks_len {M f : Nat} (hM : M ∈ Ms) {x : Str} (h : x ∈ pks M f) : x.length ≤ 1000 := by
  obtain ⟨d, -, rfl⟩ := List.mem_map.mp h
  rw [List.getD_eq_getElem?_getD]
  rcases Nat.lt_or_ge d (nms M).length with h | h
  · rw [List.getElem?_eq_getElem h, Option.getD_some, (nms_ok M hM _ (List.getElem_mem h)).1]
    decide
  · rw [List.getElem?_eq_none h, Option.getD_none]
    decide +kernel
theorem nms_len6 {M : Nat} (hM : M ∈ Ms) {x : Str} (h : x ∈ nms M) : x.length ≤ 1000 := by
  rw [(nms_ok M hM x h).1]
  decide
theorem unit_pos {M f : Nat} (hM : 6 ≤ M) (h : Nat.gcd f (M + 1) = 1) : ∃ f0, f = f0 + 1 := by
  rcases f with _ | f
  · rw [Nat.gcd_zero_left] at h
    omega
  · exact ⟨f, rfl⟩
theorem pks_range (M f : Nat) : pks M f = (List.range M).map fun k => (nms M).getD (f * (k + 1) % (M + 1)) (Str.ofString "") := by simp [pks, dk]
theorem rep_int (n : Nat) : List.replicate (n + 1) (Value.type "int") = List.replicate n (Value.type "int") ++ [Value.type "int"] := List.replicate_succ'
theorem names_step {M f i : Nat} {l ln : List (Str × Tok)} {t : Tok} (hln : ln.map (·.1) = nms M) (hl : l.map (·.1) = (List.range i).map fun k => (nms M).getD (f * (k + 1) % (M + 1)) (Str.ofString "")) :
    (l ++ [((ln.map (·.1)).getD (f * (i + 1) % (M + 1)) (Str.ofString ""), t)]).map (·.1) = (List.range (i + 1)).map fun k => (nms M).getD (f * (k + 1) % (M + 1)) (Str.ofString "") := by
  rw [List.map_append, hl, List.range_succ, List.map_append, hln]
  simp only [List.map_cons, List.map_nil]
theorem str_snoc (l : List (Str × Tok)) (x : Str) (t : Tok) : strValues l ++ [.str x t] = strValues (l ++ [(x, t)]) := by simp [strValues]
theorem names_all {M f : Nat} {l lp : List (Str × Tok)} {n : Nat} (hn : n = M) (hlp : lp.map (·.1) = pks M f) (hl : l.map (·.1) = (List.range n).map fun k => (nms M).getD (f * (k + 1) % (M + 1)) (Str.ofString "")) : lp.map (·.1) = l.map (·.1) := by
  subst hn
  rw [hlp, hl, pks_range]
theorem ints_at2 {vs1 vs2 : List Value} {n1 n2 : List Int} (h1 : IntsAre vs1 n1) (h2 : IntsAre vs2 n2) {its : Array Value} (e : its.toList = vs1 ++ vs2) {i : Nat} {v : Value} (h : its[i]? = some v) : ∃ z t, v = .int z t := by
  obtain ⟨z, t, e, -⟩ := (IntsAre.append h1 h2).at i v (by rw [← e, Array.getElem?_toList]; exact h)
  exact ⟨z, t, e⟩
theorem fold_rep {v : Value} : ∀ (m : Nat) (a : Array Value), List.foldl (fun x1 x2 => x1 ++ x2) a (List.replicate m #[v]) = a ++ (List.replicate m v).toArray
  | 0, a => by simp
  | m + 1, a => by
    rw [List.replicate_succ, List.foldl_cons, fold_rep m, Array.append_assoc]
    congr 1
    rw [List.replicate_succ]
    simp
theorem rep_data {n k : Nat} {v : Value} : Data.seq (List.foldl (fun x1 x2 => x1 ++ x2) #[] (List.replicate (if #[v].isEmpty = true then 0 else n) #[v])) k = Data.seq (List.replicate n v).toArray k := by
  rw [if_neg (by simp), fold_rep, Array.empty_append]
theorem rep_size {M : Nat} {vs1 vs2 : List Value} {its : Array Value} (e : its.toList = vs1 ++ vs2) (h1 : vs1.length = M - 1) (h2 : vs2.length = M) (hM : 6 ≤ M) : its.size = (2 * (M : Int) - 1).toNat := by
  rw [← Array.length_toList, e, List.length_append, h1, h2]
  omega
theorem units_ok {A : Around} (h : A.units < 5000) : A.units + 3 < 9900 := by omega
theorem ne_int_f {prog : Program} {w : World} {A : Around} {E : Value → Shared → Prop} {s : Shared} {Q : Value → Shared → Prop} {a b : Int} {t u : Tok} (e : a = b) (h : Q (.bool false) s) : wpAny (model prog w) A (compareOp .NotEq (.int a t) (.int b u)) Q E s := by
  refine ne_int ?_
  rw [e, show (b != b) = false by simp]
  exact h
theorem cnt1 {M f : Nat} (h : (stepsOf M f).count 1 = f - 1) (hf : ∃ f0, f = f0 + 1) : (((stepsOf M f).count 1 : Nat) : Int) = (f : Int) - 1 := by
  obtain ⟨f0, rfl⟩ := hf
  rw [h]
  omega
theorem cnt2 {M f : Nat} (h : (stepsOf M f).count (-1) = M - f) (hf : f < M + 1) : (((stepsOf M f).count (-1) : Nat) : Int) = (M : Int) - (f : Int) := by
  rw [h]
  omega


theorem fr_store {h₀ h h2 : Heap} {L : Addr} {m : Str → Option Value} {y : Str} {v : Value} (F : Fr h₀ L h m) (hn : h2.Ns L (fun z => if z = y then some v else m z)) (hs : Heap.SameBut L h h2) : Fr h₀ L h2 (fun z => if z = y then some v else m z) :=
  ⟨hn, fun b o e => hs.extBut b o (fun q => by
    have hL₀ : h₀.get? L = none := Heap.get?_none_of_le F.above
    have q' : b = L := q
    rw [q', hL₀] at e
    cases e) (F.keep b o e), F.above⟩
theorem news_store {h₀ h h2 : Heap} {L : Addr} {l : List (Addr × Obj)} (N : News h₀ L h l) (hs : Heap.SameBut L h h2) : News h₀ L h2 l := fun p hp => ⟨hs.extBut _ _ (N p hp).2.1 (N p hp).1, (N p hp).2⟩
theorem costs_eq {M f f0 : Nat} (hM : M ∈ Ms) (hf : f < M + 1) (hg : Nat.gcd f (M + 1) = 1) (e : f = f0 + 1) :
    (costsOf M f).sum = 2 * (M : Int) - 2 * (((Nat.gcd f0 (M + 1) : Nat) : Int) - 1) - (((Nat.gcd (f + 1) (M + 1) : Nat) : Int) - 1) + Int.fmod (M : Int) 2 := by
  have h2 : Int.fmod (M : Int) 2 = ((M % 2 : Nat) : Int) := fmod_nat M 2
  rw [costs_ok M hM f hf hg, h2, e, Nat.add_sub_cancel]
section
variable {prog : Program} {w : World} {A : Around} {E : Value → Shared → Prop} {s : Shared} {mg mb : Str → Option Value} {e0 : Env} {m : Str → Option Value}
theorem g_nosum {w : World} : nsIn (Mine.hd.heap_1 w.params) mainGlobals "sum" = some none := by k_is
theorem b_sum {h : Heap} (O : Ok w mg mb h) : mb "sum" = some (.builtin "sum") := (O.T.builtins _ (by decide +kernel)).trans (by decide +kernel)
theorem sum_elt {nm : Str} {p1 p2 p3 : Pos} {l : Addr} {vs : List Value} {ns : List Int} {Q : Value → Shared → Prop} (O : Ok w mg mb s.heap) (hh : A.handled = none) (hk : e0.scope.kind = .function) (hl : e0.kindOf "sum" = some .globalImplicit) (hn : e0.kindOf nm = some .local) (hnd : (nm == ("__debug__" : Str)) = false)
    (hgl : e0.globals = mainGlobals) (hbl : e0.builtins = builtinsNs) (hm : s.heap.Ns e0.locals m) (hv : m nm = some (.ref l)) (hz : s.heap.IsList l vs.toArray) (hi : IntsAre vs ns)
    (h : ∀ h' tk t', (∀ b o, s.heap.get? b = some o → h'.get? b = some o) → Q (.int ns.sum t') { s with heap := h', toks := tk }) : wpAny (model prog w) A (eval (.Call (.Name "sum" p1) [.Name nm p2] [] p3) e0) Q E s := by
  refine Call_Name1 (Calls.Name_function_global hk hl (Calls.loadGlobal_builtin (by rw [hgl]; exact O.T.g) (mg_none_of O.frag O.T.g g_nosum) (by rw [hbl]; exact O.T.b) (b_sum O) (PySem.Calls.callWith_builtin rfl (Calls.evalArgs_plain (Calls.spliced_cons (wpAny_Name (wpAny_loadName_local hk hn hm hv (Calls.spliced_nil ?_)) hnd))))))
  exact sum_ints hh hz hi h
theorem rhs_elt {p1 p2 p3 p4 p5 p6 p7 p8 p9 p10 p11 p12 p13 : Pos} {k1 k2 k3 : Nat} {cM : Addr} {M : Nat} {tM th tm : Tok} {hv mv : Int} {Q : Value → Shared → Prop} (hk : e0.scope.kind = .function) (hM : e0.kindOf "many" = some .cell) (hMc : e0.cells.lookup ("many" : Str) = some cM)
    (hh1 : e0.kindOf "home" = some .local) (hh2 : e0.kindOf "mirrored" = some .local) (hcell : s.heap.IsCell cM (some (.int (M : Int) tM))) (hm : s.heap.Ns e0.locals m) (hv1 : m "home" = some (.int hv th)) (hv2 : m "mirrored" = some (.int mv tm))
    (h : ∀ tk t, Q (.int (2 * (M : Int) - 2 * hv - mv + Int.fmod (M : Int) 2) t) { s with toks := tk }) :
    wpAny (model prog w) A (eval (.BinOp (.BinOp (.BinOp (.BinOp (.Constant (.int 2) k1 p1) .Mult (.Name "many" p2) p3) .Sub (.BinOp (.Constant (.int 2) k2 p4) .Mult (.Name "home" p5) p6) p7) .Sub (.Name "mirrored" p8) p9) .Add (.BinOp (.Name "many" p10) .Mod (.Constant (.int 2) k3 p11) p12) p13) e0) Q E s := by
  refine wpAny_BinOp (wpAny_BinOp (wpAny_BinOp (wpAny_BinOp (wpAny_Constant_int (wpAny_Name (wpAny_loadName_cell hk hM hMc hcell ?_) (by decide))))))
  refine mul_int ?_ (IntMulOk.of_left (bits_ok 2 (by decide)))
  refine wpAny_BinOp (wpAny_Constant_int (wpAny_Name (wpAny_loadName_local hk hh1 hm hv1 ?_) (by decide)))
  refine mul_int ?_ (IntMulOk.of_left (bits_ok 2 (by decide)))
  refine sub_int (wpAny_Name (wpAny_loadName_local hk hh2 hm hv2 ?_) (by decide))
  refine sub_int (wpAny_BinOp (wpAny_Name (wpAny_loadName_cell hk hM hMc hcell (wpAny_Constant_int ?_)) (by decide)))
  refine mod_int (by decide) (add_int ?_)
  exact h _ _
end
theorem news_sub {h₀ h : Heap} {L : Addr} {l l' : List (Addr × Obj)} (N : News h₀ L h l) (hs : l'.Sublist l) : News h₀ L h l' := fun p hp => N p (hs.subset hp)
theorem new_ne {g h : Heap} {L nA : Addr} {l : List (Addr × Obj)} (N : News g L h l) (hn : h.get? nA = none) : ∀ p ∈ l, @Ne Nat nA p.1 := fun p hp q => by
  have q' : nA = p.1 := q
  rw [q', (N p hp).1] at hn
  cases hn


theorem news_two {g h : Heap} {L : Addr} {l : List (Addr × Obj)} {p q : Addr × Obj} (N : News g L h l) (hp : p ∈ l) (hq : q ∈ l) : News g L h [p, q] := fun x hx => by
  rcases List.mem_cons.mp hx with rfl | hx
  · exact N _ hp
  · rw [List.mem_singleton.mp hx]
    exact N _ hq
theorem news_app {g h : Heap} {L : Addr} {l l' : List (Addr × Obj)} (N : News g L h l) (N' : News g L h l') : News g L h (l ++ l') := fun x hx => (List.mem_append.mp hx).elim (N x) (N' x)
theorem news_off {g h h' : Heap} {L I : Addr} {l : List (Addr × Obj)} (N : News g L h l) (k : Kept [I] h h') (hne : ∀ p ∈ l, p.1 ≠ I) : News g L h' l := news_wr N k fun p hp hm => hne p hp (List.mem_singleton.mp hm)
theorem list_it {prog : Program} {w : World} {A : Around} {E : Value → Shared → Prop} {s : Shared} {l : Addr} {its : Array Value} {K : Value → Shared → Prop} (hl : s.heap.IsList l its)
    (h : ∀ h' I, s.heap.objs.size ≤ I → (∀ b o, s.heap.get? b = some o → h'.get? b = some o) → h'.IsListIter I l 0 → K (.ref I) { s with heap := h' }) : wpAny (model prog w) A (pyIter (.ref l)) K E s :=
  wpAny_pyIter_list hl (h _ _ (Nat.le_refl _) (fun _ _ e => Heap.get?_push_of_some _ e) ⟨_, Heap.get?_push_size _ rfl, rfl, rfl⟩)


noncomputable def sizesOf (M : Nat) : List Int := ((List.range M).map fun k => ((1 + k : Nat) : Int)).filter fun z => Int.fmod (M : Int) z == 0
theorem sz_t {M i : Nat} {t : Tok} {ys : List Value} (h : Int.fmod (M : Int) (1 + (i : Int)) = 0) (hys : IntsAre ys (((List.range i).map fun k => ((1 + k : Nat) : Int)).filter fun z => Int.fmod (M : Int) z == 0)) :
    IntsAre (ys ++ [.int (1 + (i : Int)) t]) (((List.range (i + 1)).map fun k => ((1 + k : Nat) : Int)).filter fun z => Int.fmod (M : Int) z == 0) := by
  rw [List.range_succ, List.map_append, List.filter_append]
  refine IntsAre.append hys ?_
  have e : ((1 + i : Nat) : Int) = 1 + (i : Int) := by push_cast; rfl
  simp only [List.map_cons, List.map_nil, List.filter_cons, List.filter_nil, e, h]
  exact .cons _ t .nil
theorem sz_f {M i : Nat} {ys : List Value} (h : Int.fmod (M : Int) (1 + (i : Int)) ≠ 0) (hys : IntsAre ys (((List.range i).map fun k => ((1 + k : Nat) : Int)).filter fun z => Int.fmod (M : Int) z == 0)) :
    IntsAre ys (((List.range (i + 1)).map fun k => ((1 + k : Nat) : Int)).filter fun z => Int.fmod (M : Int) z == 0) := by
  rw [List.range_succ, List.map_append, List.filter_append]
  have e : ((1 + i : Nat) : Int) = 1 + (i : Int) := by push_cast; rfl
  simp only [List.map_cons, List.map_nil, List.filter_cons, List.filter_nil, e]
  rw [if_neg (by simpa using h), List.append_nil]
  exact hys
noncomputable def dkI (M f : Nat) : List Int := (dk M f).map fun n : Nat => (n : Int)
theorem dkI_eq (M f : Nat) : dkI M f = (List.range M).map fun k => ((f * (k + 1) % (M + 1) : Nat) : Int) := by simp [dkI, dk]
theorem dk_step {M f i : Nat} {t : Tok} {z : Int} {ys : List Value} (h : z = ((f * (i + 1) % (M + 1) : Nat) : Int)) (hys : IntsAre ys ((List.range i).map fun k => ((f * (k + 1) % (M + 1) : Nat) : Int))) :
    IntsAre (ys ++ [.int z t]) ((List.range (i + 1)).map fun k => ((f * (k + 1) % (M + 1) : Nat) : Int)) := by
  rw [List.range_succ, List.map_append]
  exact IntsAre.append hys (h ▸ .cons _ t .nil)
def Apart (L x : Addr) : Prop := @Ne Nat x 140 ∧ @Ne Nat x 147 ∧ @Ne Nat x (L + 1) ∧ @Ne Nat x (L + 1 + 1) ∧ @Ne Nat x (L + 1 + 1 + 1) ∧ @Ne Nat x (L + 1 + 1 + 1 + 1) ∧ @Ne Nat x (L + 1 + 1 + 1 + 1 + 1) ∧ @Ne Nat x (L + 1 + 1 + 1 + 1 + 1 + 1)
theorem sizes_ok : ∀ M ∈ Ms, 0 < (sizesOf M).length ∧ (sizesOf M).length ≤ 20 ∧ ∀ z ∈ sizesOf M, 1 ≤ z ∧ z ≤ 20 ∧ (M : Int) % z = 0 := by decide +kernel
theorem size_of {M : Nat} (hM : M ∈ Ms) {z : Int} (hz : z ∈ sizesOf M) : ∃ c q : Nat, z = (c : Int) ∧ M = q * c ∧ 1 ≤ c ∧ c ≤ 20 ∧ 1 ≤ q := by
  refine hideG (fun Gz hGz => ?_)
  obtain ⟨h1, h2, h3⟩ := (sizes_ok M hM).2.2 z hz
  obtain ⟨c, rfl⟩ := Int.eq_ofNat_of_zero_le (show 0 ≤ z by omega)
  have hd : c ∣ M := by
    have : ((M % c : Nat) : Int) = 0 := by rw [Int.natCast_emod]; exact h3
    exact Nat.dvd_of_mod_eq_zero (by omega)
  obtain ⟨q, hq⟩ := hd
  refine hGz ?_
  clear hGz Gz
  refine ⟨c, q, rfl, by rw [hq, Nat.mul_comm], by omega, by omega, ?_⟩
  have := Ms_le hM
  rcases q with _ | q
  · simp at hq; omega
  · omega
theorem size_at {M : Nat} (hM : M ∈ Ms) (z : Int) : ∃ c q : Nat, (sizesOf M).getD (Int.fmod z ((sizesOf M).length : Int)).toNat 0 = (c : Int) ∧ M = q * c ∧ 1 ≤ c ∧ c ≤ 20 ∧ 1 ≤ q := by
  have h := (sizes_ok M hM).1
  have r0 := Int.fmod_nonneg_of_pos z (show (0 : Int) < ((sizesOf M).length : Int) by omega)
  have r1 := Int.fmod_lt_of_pos z (show (0 : Int) < ((sizesOf M).length : Int) by omega)
  have hlt : (Int.fmod z ((sizesOf M).length : Int)).toNat < (sizesOf M).length := by omega
  refine hideG (fun Gz hGz => ?_)
  obtain ⟨c, q, e, r⟩ := size_of hM (List.getElem_mem hlt)
  refine hGz ?_
  clear hGz Gz
  exact ⟨c, q, by rw [List.getD_eq_getElem?_getD, List.getElem?_eq_getElem hlt, Option.getD_some, e], r⟩
theorem tail_at (x : Int) : (Int.fmod x 4).toNat ≤ 3 ∧ Int.fmod x 4 = (((Int.fmod x 4).toNat : Nat) : Int) := by
  have r0 := Int.fmod_nonneg_of_pos x (show (0 : Int) < 4 by decide)
  have r1 := Int.fmod_lt_of_pos x (show (0 : Int) < 4 by decide)
  omega
inductive LawInv (g : Heap) (L' : Addr) (s s' : Shared) (b room M : Nat) (tb tr : Tok) (Sz nA I SL : Addr) (szv : List Value) (ln8 : List (Str × Tok)) (nn8 : Nat) (oN oR oM : Obj) (pa pb : Array Value) : Prop
  | mk (f : Nat) (tF : Tok) (m : Str → Option Value) (Dk : Addr) (dkv : List Value) (o1 o2 oF : Obj) (x1 x2 : Option Value) (pa2 pb2 : Array Value) (oI : Obj) (q0 : Fr g L' s'.heap m) (q1 : m "blanks" = some (.int (b : Nat) tb)) (q2 : m "room" = some (.int (room : Nat) tr)) (q3 : m "sizes" = some (.ref Sz)) (q4 : m "deck" = some (.ref Dk)) (q5 : News g L' s'.heap [(Dk, LCg.lst dkv), (Sz, LCg.lst szv), (nA, { cls := .type "list", data := .seq (strValues ln8).toArray nn8 }), (140, { cls := .none, data := .fields pa2 }), (147, { cls := .none, data := .fields pb2 }), (L' + 1 + 1 + 1 + 1 + 1 + 1, o1), (L' + 1 + 1 + 1 + 1 + 1, o2), (L' + 1 + 1 + 1 + 1, oF), (L' + 1 + 1 + 1, oN), (L' + 1 + 1, oR), (L' + 1, oM)]) (q6 : o1.data = .cell x1) (q7 : o2.data = .cell x2) (q8 : oF.data = .cell (some (.int (f : Nat) tF))) (q9 : IntsAre dkv (dkI M f)) (q10 : Nat.gcd f (M + 1) = 1) (q11 : f < M + 1) (q12 : Apart L' Dk) (q13 : (@Ne Nat Dk I ∧ @Ne Nat Dk SL)) (q14 : TriplesOk pa2.toList) (q15 : TriplesOk pb2.toList) (q16 : (∃ more, pa2 = pa ++ more)) (q17 : (∃ more, pb2 = pb ++ more)) (q18 : (AllBare s.gens → AllBare s'.gens)) (q19 : s'.os = s.os) : LawInv g L' s s' b room M tb tr Sz nA I SL szv ln8 nn8 oN oR oM pa pb
theorem apart_gt {L I : Addr} (h : @LE.le Nat _ 240 L) (q : @LT.lt Nat _ (L + 1 + 1 + 1 + 1 + 1 + 1) I) : Apart L I := by
  unfold Apart
  refine ⟨?_, ?_, ?_, ?_, ?_, ?_, ?_, ?_⟩ <;> omega
theorem byte_db (M f : Nat) : byteArr (dkI M f) = (db M f).toArray := by
  simp only [byteArr, dkI, db, List.map_map]
  rfl
theorem rows_list {h : Heap} {Ts : List Addr} {wd : Nat → List Str} : ∀ {q : Nat}, (∀ k, k < q → RowsAt h (Ts.getD k 0) (wd k)) → ∃ rowsN : List (Addr × Obj), (∀ p ∈ rowsN, h.get? p.1 = some p.2 ∧ ∃ k, k < q ∧ p.1 = Ts.getD k 0) ∧
    ∀ k, k < q → ∃ (l : List (Str × Tok)) (n : Nat), (Ts.getD k 0, ({ cls := .type "list", data := .seq (strValues l).toArray n } : Obj)) ∈ rowsN ∧ l.map (·.1) = wd k
  | 0, _ => ⟨[], by simp, fun k hk => absurd hk (Nat.not_lt_zero _)⟩
  | q + 1, H => by
    refine hideG (fun Gz hGz => ?_)
    obtain ⟨r, h1, h2⟩ := rows_list (q := q) (fun k hk => H k (Nat.lt_succ_of_lt hk))
    obtain ⟨l, n, e1, e2⟩ := H q (Nat.lt_succ_self _)
    refine hGz ?_
    clear hGz Gz
    refine ⟨(Ts.getD q 0, { cls := .type "list", data := .seq (strValues l).toArray n }) :: r, fun p hp => ?_, fun k hk => ?_⟩
    · rcases List.mem_cons.mp hp with rfl | hp
      · exact ⟨e2, q, Nat.lt_succ_self _, rfl⟩
      · obtain ⟨a, k, hk, e⟩ := h1 p hp
        exact ⟨a, k, Nat.lt_succ_of_lt hk, e⟩
    · rcases Nat.lt_or_eq_of_le (Nat.lt_succ_iff.mp hk) with h | rfl
      · obtain ⟨l', n', m, e⟩ := h2 k h
        exact ⟨l', n', .tail _ m, e⟩
      · exact ⟨l, n, .head _, e1⟩
theorem fr_none {g h : Heap} {L x : Addr} {m : Str → Option Value} (F : Fr g L h m) (e : h.get? x = none) : x ≠ L ∧ g.get? x = none := by
  refine ⟨?_, ?_⟩
  · rintro rfl
    refine hideG (fun Gz hGz => ?_)
    obtain ⟨o, es, ep, q1, _⟩ := F.ns
    refine hGz ?_
    clear hGz Gz
    rw [q1] at e
    cases e
  · cases q : g.get? x with
    | none => rfl
    | some o => rw [F.keep _ _ q] at e; cases e
theorem fn_nm {w : World} : fnIn (Mine.hd.heap_1 w.params) 222 = true := by k_is
theorem fn_rw {w : World} : fnIn (Mine.hd.heap_1 w.params) 227 = true := by k_is
section
variable {w : World} {A : Around} {s : Shared} {mg mb : Str → Option Value} {Q : Value → Shared → Prop} {E : Value → Shared → Prop}
set_option maxHeartbeats 4000000 in
theorem law_wp (O : Ok w mg mb s.heap) (hd : A.depth + 20 < recursionLimit) (hh : A.handled = none) (hu : A.units < 5000) {sc : Addr} {its : Array Value} {xs : List Int} (hl : s.heap.IsList sc its) (hi : IntsAre its.toList xs) (hz : xs.length ≤ 63)
    (hQ : ∀ s', Ext [] s s' → Q (.bool true) s') :
    wpN true (model PySem.Challenge.pw_xo0030_01 w) A (call (.ref 239) [.ref sc]) Q E s := by
  refine callQC [140, 147] [("script", .ref sc)] O (by k_is) (by k_is) (by omega) (BindsTo.of_eq rfl) (by kernel_rfl) (by simp [tabs]) (by decide +kernel) (fun g L' h₁ tk cells hg hL F' NC CA X' T' hk => ?_)
  refine hideG (fun Gz hGz => ?_)
  obtain ⟨o1, o2, o3, o4, o5, o6, rfl, d1, d2, d3, d4, d5, d6⟩ := kc_six CA
  refine hGz ?_
  clear hGz Gz
  have d1 : o1.data = .cell none := d1
  have d2 : o2.data = .cell none := d2
  have d3 : o3.data = .cell none := d3
  have d4 : o4.data = .cell none := d4
  have d5 : o5.data = .cell none := d5
  have d6 : o6.data = .cell none := d6
  rw [bindL_l (by kernel_rfl), bindL_n] at F'
  clear CA
  refine wpN_execs_cons (wpN_any ?_)
  repeat' (((fail_if_success with_reducible first | refine gdW ?_ | refine gdF ?_ | refine gdL ?_ | refine gdT ?_ | refine gdC ?_ | refine gdM (by decide) ?_ | show PySem.wpAt _ _ _ _ _ _ _); first | walk1 | (dsimp only; walk1)))
  all_goals (try k_data)
  have O1 : Ok w mg mb h₁ := O.keeps hk
  have hl1 : h₁.IsList sc its := by obtain ⟨o, e, r⟩ := hl; exact ⟨o, hk _ _ e, r⟩
  refine cells_wp (A := A.deeper _) (by exact O1) (by show A.depth + 1 + 1 < _; omega) hh (by exact hl1) hi hz (fun Cl c h2 tk2 hC hCn k2 => ?_)
  have F2 := fr_kept F' k2
  refine hideG (fun Gz hGz => ?_)
  obtain ⟨⟨ct, cn, hC1⟩, hC2⟩ := hC
  have hCL : Cl ≠ L' := fun e => by
    refine hideG (fun Gz hGz => ?_)
    obtain ⟨o, es, ep, q1, q2⟩ := F'.ns
    refine hGz ?_
    clear hGz Gz
    dsimp only at hCn
    rw [e, q1] at hCn
    cases hCn
  have hCg : g.get? Cl = none := by
    cases e : g.get? Cl with
    | none => rfl
    | some o =>
      dsimp only at hCn
      rw [F'.keep _ _ e] at hCn
      cases hCn
  obtain ⟨pa, ea1, ea2, pb, eb1, eb2⟩ := Tabs.e O1.P
  refine hGz ?_
  clear hGz Gz
  have hL2 : 240 ≤ L' := hL ▸ size240 O
  have ht : ∀ b ∈ tabs, g.get? b = none := by subst hg; exact hide_tabs fun b hb => by simp only [tabs, List.mem_cons, List.not_mem_nil, or_false] at hb ⊢; exact hb
  have l140 : 140 ≠ L' := Nat.ne_of_lt (Nat.lt_of_lt_of_le (by decide : 140 < 240) hL2)
  have l147 : 147 ≠ L' := Nat.ne_of_lt (Nat.lt_of_lt_of_le (by decide : 147 < 240) hL2)
  have g140 := ht 140 (by simp [tabs])
  have g147 := ht 147 (by simp [tabs])
  have M4 : g.get? 4 = some { cls := .type "module", dict := some builtinsNs } := hg ▸ hideAll_get _ O.M4 (by decide)
  have N2 := news_cons (news_cons (news_cons (news_kept NC k2) hC1 hCL hCg) (k2 _ _ eb1) l147 g147) (k2 _ _ ea1) l140 g140
  have hcn : ∀ x o, h₁.get? x = some o → @Ne Nat Cl x := fun x o e q => by
    have q' : Cl = x := q
    dsimp only at hCn
    rw [q', e] at hCn
    cases hCn
  have c1 := hcn _ _ (NC _ (.head _)).1
  have c2 := hcn _ _ (NC _ (.tail _ (.head _))).1
  have c3 := hcn _ _ (NC _ (.tail _ (.tail _ (.head _)))).1
  have c4 := hcn _ _ (NC _ (.tail _ (.tail _ (.tail _ (.head _))))).1
  have c5 := hcn _ _ (NC _ (.tail _ (.tail _ (.tail _ (.tail _ (.head _)))))).1
  have c6 := hcn _ _ (NC _ (.tail _ (.tail _ (.tail _ (.tail _ (.tail _ (.head _))))))).1
  dsimp only at c1 c2 c3 c4 c5 c6
  have c140 : @Ne Nat Cl 140 := hcn _ _ ea1
  have c147 : @Ne Nat Cl 147 := hcn _ _ eb1
  clear F' NC
  repeat' (((fail_if_success with_reducible first | refine gdW ?_ | refine gdF ?_ | refine gdL ?_ | refine gdT ?_ | refine gdC ?_ | refine gdM (by decide) ?_ | show PySem.wpAt _ _ _ _ _ _ _); first | walk1 | (dsimp only; walk1)))
  all_goals (try k_data)
  refine wpN_execs_cons (wpN_any ?_)
  refine cpsA (fun R : Flow → Shared → Prop => ∀ (M : Nat) (tM : Tok) (h : Heap) (tk : Nat) (m : Str → Option Value) (oM : Obj), (M ∈ [8, 6, 14, 12, 15, 20]) → (Fr g L' h m) → (m "cells" = some (.ref Cl)) → (oM.data = .cell (some (.int (M : Nat) tM))) → (News g L' h [(140, { cls := .none, data := .fields pa }), (147, { cls := .none, data := .fields pb }), (Cl, { cls := .type "list", data := .seq #[.int (c 0) (ct 0), .int (c 1) (ct 1), .int (c 2) (ct 2), .int (c 3) (ct 3), .int (c 4) (ct 4)] cn }), (L' + 1 + 1 + 1 + 1 + 1 + 1, o1), (L' + 1 + 1 + 1 + 1 + 1, o2), (L' + 1 + 1 + 1 + 1, o3), (L' + 1 + 1 + 1, o4), (L' + 1 + 1, o5), (L' + 1, oM)]) → R .next ({ s with heap := h, toks := tk })) ?_ ?_
  · --OK
    intro R hR
    repeat' (((fail_if_success with_reducible first | refine gdW ?_ | refine gdF ?_ | refine gdL ?_ | refine gdT ?_ | refine gdC ?_ | refine gdM (by decide) ?_ | show PySem.wpAt _ _ _ _ _ _ _); first | walk1 | (dsimp only; walk1)))
    all_goals (try k_data)
    all_goals with_reducible rename Fr _ _ _ _ => F3
    all_goals with_reducible rename News _ _ _ _ => N3
    all_goals first
      | exact hR 8 _ _ _ _ _ (by decide) F3 rfl (by assumption) (fun p hp => N3 p (.tail _ hp))
      | exact hR 6 _ _ _ _ _ (by decide) F3 rfl (by assumption) (fun p hp => N3 p (.tail _ hp))
      | exact hR 14 _ _ _ _ _ (by decide) F3 rfl (by assumption) (fun p hp => N3 p (.tail _ hp))
      | exact hR 12 _ _ _ _ _ (by decide) F3 rfl (by assumption) (fun p hp => N3 p (.tail _ hp))
      | exact hR 15 _ _ _ _ _ (by decide) F3 rfl (by assumption) (fun p hp => N3 p (.tail _ hp))
      | exact hR 20 _ _ _ _ _ (by decide) F3 rfl (by assumption) (fun p hp => N3 p (.tail _ hp))
  rintro M tM h3 tk3 m3 oM hM F3 em3 dM N3
  dsimp only
  refine wpN_execs_cons (wpN_any ?_)
  refine cpsA (fun R : Flow → Shared → Prop => ∀ (b : Nat) (tb : Tok) (h : Heap) (tk : Nat) (m : Str → Option Value), (1 ≤ b) → (b ≤ 3) → (Fr g L' h m) → (m "cells" = some (.ref Cl)) → (m "blanks" = some (.int (b : Nat) tb)) → (News g L' h [(140, { cls := .none, data := .fields pa }), (147, { cls := .none, data := .fields pb }), (Cl, { cls := .type "list", data := .seq #[.int (c 0) (ct 0), .int (c 1) (ct 1), .int (c 2) (ct 2), .int (c 3) (ct 3), .int (c 4) (ct 4)] cn }), (L' + 1 + 1 + 1 + 1 + 1 + 1, o1), (L' + 1 + 1 + 1 + 1 + 1, o2), (L' + 1 + 1 + 1 + 1, o3), (L' + 1 + 1 + 1, o4), (L' + 1 + 1, o5), (L' + 1, oM)]) → R .next ({ s with heap := h, toks := tk })) ?_ ?_
  · --OK
    intro R hR
    repeat' (((fail_if_success with_reducible first | refine gdW ?_ | refine gdF ?_ | refine gdL ?_ | refine gdT ?_ | refine gdC ?_ | refine gdM (by decide) ?_ | show PySem.wpAt _ _ _ _ _ _ _); first | walk1 | (dsimp only; walk1)))
    all_goals (try k_data)
    with_reducible rename Fr _ _ _ _ => F4
    with_reducible rename News _ _ _ _ => N4
    have r0 := Int.fmod_nonneg_of_pos (Int.fdiv (c 0) 6) (show (0 : Int) < 3 by decide)
    have r1 := Int.fmod_lt_of_pos (Int.fdiv (c 0) 6) (show (0 : Int) < 3 by decide)
    have e : (1 + Int.fmod (Int.fdiv (c 0) 6) 3 : Int) = (((1 + Int.fmod (Int.fdiv (c 0) 6) 3).toNat : Nat) : Int) := by omega
    exact hR ((1 + Int.fmod (Int.fdiv (c 0) 6) 3).toNat) _ _ _ _ (by omega) (by omega) F4 ((if_neg (by decide)).trans em3) (congrArg (fun z => some (Value.int z _)) e) N4
  rintro b tb h4 tk4 m4 hb1 hb3 F4 em4 eb4 N4
  dsimp only
  refine wpN_execs_cons (wpN_any ?_)
  refine cpsA (fun R : Flow → Shared → Prop => ∀ (room : Nat) (tr : Tok) (h : Heap) (tk : Nat) (m : Str → Option Value), (room < 6 + b) → (Fr g L' h m) → (m "cells" = some (.ref Cl)) → (m "blanks" = some (.int (b : Nat) tb)) → (m "room" = some (.int (room : Nat) tr)) → (News g L' h [(140, { cls := .none, data := .fields pa }), (147, { cls := .none, data := .fields pb }), (Cl, { cls := .type "list", data := .seq #[.int (c 0) (ct 0), .int (c 1) (ct 1), .int (c 2) (ct 2), .int (c 3) (ct 3), .int (c 4) (ct 4)] cn }), (L' + 1 + 1 + 1 + 1 + 1 + 1, o1), (L' + 1 + 1 + 1 + 1 + 1, o2), (L' + 1 + 1 + 1 + 1, o3), (L' + 1 + 1 + 1, o4), (L' + 1 + 1, o5), (L' + 1, oM)]) → R .next ({ s with heap := h, toks := tk })) ?_ ?_
  · --OK
    intro R hR
    repeat' (((fail_if_success with_reducible first | refine gdW ?_ | refine gdF ?_ | refine gdL ?_ | refine gdT ?_ | refine gdC ?_ | refine gdM (by decide) ?_ | show PySem.wpAt _ _ _ _ _ _ _); first | walk1 | (dsimp only; walk1)))
    all_goals (try k_data)
    with_reducible rename Fr _ _ _ _ => F5
    with_reducible rename News _ _ _ _ => N5
    have r0 := Int.fmod_nonneg_of_pos (Int.fdiv (c 0) 18) (show (0 : Int) < 6 + (b : Int) by omega)
    have r1 := Int.fmod_lt_of_pos (Int.fdiv (c 0) 18) (show (0 : Int) < 6 + (b : Int) by omega)
    have e : (Int.fmod (Int.fdiv (c 0) 18) (6 + (b : Int))) = (((Int.fmod (Int.fdiv (c 0) 18) (6 + (b : Int))).toNat : Nat) : Int) := by omega
    exact hR ((Int.fmod (Int.fdiv (c 0) 18) (6 + (b : Int))).toNat) _ _ _ _ (by omega) F5 ((if_neg (by decide)).trans em4) ((if_neg (by decide)).trans eb4) (congrArg (fun z => some (Value.int z _)) e) N5
  rintro room tr h5 tk5 m5 hroom F5 em5 eb5 er5 N5
  dsimp only
  refine wpN_execs_cons (wpN_any ?_)
  refine cpsA (fun R : Flow → Shared → Prop => ∀ (h : Heap) (tk : Nat) (oR : Obj) (tR : Tok), (oR.data = .cell (some (.int ((M + 1 : Nat) : Int) tR))) → (Fr g L' h m5) → (News g L' h [(140, { cls := .none, data := .fields pa }), (147, { cls := .none, data := .fields pb }), (Cl, { cls := .type "list", data := .seq #[.int (c 0) (ct 0), .int (c 1) (ct 1), .int (c 2) (ct 2), .int (c 3) (ct 3), .int (c 4) (ct 4)] cn }), (L' + 1 + 1 + 1 + 1 + 1 + 1, o1), (L' + 1 + 1 + 1 + 1 + 1, o2), (L' + 1 + 1 + 1 + 1, o3), (L' + 1 + 1 + 1, o4), (L' + 1 + 1, oR), (L' + 1, oM)]) → R .next ({ s with heap := h, toks := tk })) ?_ ?_
  · --OK
    intro R hR
    repeat' (((fail_if_success with_reducible first | refine gdW ?_ | refine gdF ?_ | refine gdL ?_ | refine gdT ?_ | refine gdC ?_ | refine gdM (by decide) ?_ | show PySem.wpAt _ _ _ _ _ _ _); first | walk1 | (dsimp only; walk1)))
    all_goals (try k_data)
    with_reducible rename Fr _ _ _ _ => F6
    with_reducible rename News _ _ _ _ => N6
    exact hR _ _ _ _ (by assumption) F6 N6
  rintro h6 tk6 oR tR dR F6 N6
  dsimp only
  refine wpN_execs_cons ?_
  refine cpsN (fun R : Flow → Shared → Prop => ∀ (h : Heap) (tk : Nat) (oN : Obj) (nA : Addr) (ln8 : List (Str × Tok)) (nn8 : Nat), (oN.data = .cell (some (.ref nA))) → (ln8.map (·.1) = nms M) → (Fr g L' h m5) → ((@Ne Nat nA 140 ∧ @Ne Nat nA 147 ∧ @Ne Nat nA Cl ∧ @Ne Nat nA (L' + 1 + 1 + 1 + 1 + 1 + 1) ∧ @Ne Nat nA (L' + 1 + 1 + 1 + 1 + 1) ∧ @Ne Nat nA (L' + 1 + 1 + 1 + 1) ∧ @Ne Nat nA (L' + 1 + 1 + 1) ∧ @Ne Nat nA (L' + 1 + 1) ∧ @Ne Nat nA (L' + 1))) → (News g L' h [(nA, { cls := .type "list", data := .seq (strValues ln8).toArray nn8 }), (140, { cls := .none, data := .fields pa }), (147, { cls := .none, data := .fields pb }), (Cl, { cls := .type "list", data := .seq #[.int (c 0) (ct 0), .int (c 1) (ct 1), .int (c 2) (ct 2), .int (c 3) (ct 3), .int (c 4) (ct 4)] cn }), (L' + 1 + 1 + 1 + 1 + 1 + 1, o1), (L' + 1 + 1 + 1 + 1 + 1, o2), (L' + 1 + 1 + 1 + 1, o3), (L' + 1 + 1 + 1, oN), (L' + 1 + 1, oR), (L' + 1, oM)]) → R .next ({ s with heap := h, toks := tk })) ?_ ?_
  · --OK
    intro R hR
    refine wpN_Assign ?_
    refine wpN_CallName (trees := [(false, eval (.Name "ring" _) _)]) rfl ?_
    repeat' (((fail_if_success with_reducible first | refine gdW ?_ | refine gdF ?_ | refine gdL ?_ | refine gdT ?_ | refine gdC ?_ | refine gdM (by decide) ?_ | show PySem.wpAt _ _ _ _ _ _ _); first | walk1 | (dsimp only; walk1)))
    all_goals (try k_data)
    refine callWithN_fn (K := Mine.hd.heap_1 w.params) (fn_nm (w := w)) rfl (by simp) (Calls.evalArgs_plain (Calls.spliced_cons ?_))
    repeat' (((fail_if_success with_reducible first | refine gdW ?_ | refine gdF ?_ | refine gdL ?_ | refine gdT ?_ | refine gdC ?_ | refine gdM (by decide) ?_ | show PySem.wpAt _ _ _ _ _ _ _); first | walk1 | (dsimp only; walk1)))
    all_goals (try k_data)
    with_reducible rename Fr _ _ _ _ => F7
    with_reducible rename News _ _ _ _ => N7
    have hMs := Ms_le hM
    have O7 : Ok w mg mb _ := ok_news X' T' M4 F7 N7 ea2 eb2
    refine Calls.spliced_nil ⟨X'.keeps F7.keep, names_wp (A := A.deeper _) (by exact O7) (by show A.depth + 1 + 1 < _; omega) hh (M + 1) tR (by omega) (by omega) (fun nA h8 tk8 hR8 hn8 k8 => ?_)⟩
    refine hideG (fun Gz hGz => ?_)
    obtain ⟨ln8, nn8, er8, en8⟩ := hR8
    refine hGz ?_
    clear hGz Gz
    have F8 := fr_kept F7 k8
    have N8 := news_kept N7 k8
    have hnL : nA ≠ L' := fun e => by
      refine hideG (fun Gz hGz => ?_)
      obtain ⟨o, es, ep, q1, q2⟩ := F7.ns
      refine hGz ?_
      clear hGz Gz
      dsimp only at hn8
      rw [e, q1] at hn8
      cases hn8
    have hng : g.get? nA = none := by
      cases e : g.get? nA with
      | none => rfl
      | some o =>
        dsimp only at hn8
        rw [F7.keep _ _ e] at hn8
        cases hn8
    have hnn := new_ne N7 hn8
    have y140 := hnn _ (.head _)
    have y147 := hnn _ (.tail _ (.head _))
    have yCl := hnn _ (.tail _ (.tail _ (.head _)))
    have y1 := hnn _ (.tail _ (.tail _ (.tail _ (.head _))))
    have y2 := hnn _ (.tail _ (.tail _ (.tail _ (.tail _ (.head _)))))
    have y3 := hnn _ (.tail _ (.tail _ (.tail _ (.tail _ (.tail _ (.head _))))))
    have y4 := hnn _ (.tail _ (.tail _ (.tail _ (.tail _ (.tail _ (.tail _ (.head _)))))))
    have y5 := hnn _ (.tail _ (.tail _ (.tail _ (.tail _ (.tail _ (.tail _ (.tail _ (.head _))))))))
    have y6 := hnn _ (.tail _ (.tail _ (.tail _ (.tail _ (.tail _ (.tail _ (.tail _ (.tail _ (.head _)))))))))
    dsimp only at y140 y147 yCl y1 y2 y3 y4 y5 y6
    have N9 := news_cons N8 en8 hnL hng
    clear F7 N7 N8
    repeat' (((fail_if_success with_reducible first | refine gdW ?_ | refine gdF ?_ | refine gdL ?_ | refine gdT ?_ | refine gdC ?_ | refine gdM (by decide) ?_ | show PySem.wpAt _ _ _ _ _ _ _); first | walk1 | (dsimp only; walk1)))
    all_goals (try k_data)
    with_reducible rename Fr _ _ _ _ => F10
    with_reducible rename News _ _ _ _ => N10
    exact hR _ _ _ nA ln8 nn8 (by assumption) er8 F10 ⟨y140, y147, yCl, y1, y2, y3, y4, y5, y6⟩ N10
  rintro h10 tk10 oN nA ln8 nn8 dN hln F10 ⟨y140, y147, yCl, y1, y2, y3, y4, y5, y6⟩ N10
  dsimp only
  have hMs := Ms_le hM
  have hrz : Builtin.Range.rangeSize 1 ((M + 1 : Nat) : Int) 1 = ((M : Nat) : Int) := by rw [rangeSize_one]; split <;> omega
  refine wpN_execs_cons (wpN_any ?_)
  refine cpsA (fun R : Flow → Shared → Prop => ∀ (h : Heap) (tk : Nat) (Sz : Addr) (szv : List Value), (IntsAre szv (sizesOf M)) → (Fr g L' h (fun z => if z = "sizes" then some (.ref Sz) else m5 z)) → (LCg.Off1 Sz [(nA, { cls := .type "list", data := .seq (strValues ln8).toArray nn8 }), (140, { cls := .none, data := .fields pa }), (147, { cls := .none, data := .fields pb }), (Cl, { cls := .type "list", data := .seq #[.int (c 0) (ct 0), .int (c 1) (ct 1), .int (c 2) (ct 2), .int (c 3) (ct 3), .int (c 4) (ct 4)] cn }), (L' + 1 + 1 + 1 + 1 + 1 + 1, o1), (L' + 1 + 1 + 1 + 1 + 1, o2), (L' + 1 + 1 + 1 + 1, o3), (L' + 1 + 1 + 1, oN), (L' + 1 + 1, oR), (L' + 1, oM)]) → (News g L' h ((Sz, LCg.lst szv) :: [(nA, { cls := .type "list", data := .seq (strValues ln8).toArray nn8 }), (140, { cls := .none, data := .fields pa }), (147, { cls := .none, data := .fields pb }), (Cl, { cls := .type "list", data := .seq #[.int (c 0) (ct 0), .int (c 1) (ct 1), .int (c 2) (ct 2), .int (c 3) (ct 3), .int (c 4) (ct 4)] cn }), (L' + 1 + 1 + 1 + 1 + 1 + 1, o1), (L' + 1 + 1 + 1 + 1 + 1, o2), (L' + 1 + 1 + 1 + 1, o3), (L' + 1 + 1 + 1, oN), (L' + 1 + 1, oR), (L' + 1, oM)])) → R .next ({ s with heap := h, toks := tk })) ?_ ?_
  · --OK
    intro R hR
    refine LCt.Assign_ListComp_T (F₀ := F10) rfl (by with_unfolding_all rfl) (by with_unfolding_all rfl) (by decide) (by rfl) (by decide) (by rfl) (by rfl) (by rfl) ?_
    repeat' (((fail_if_success with_reducible first | refine gdW ?_ | refine gdF ?_ | refine gdL ?_ | refine gdT ?_ | refine gdC ?_ | refine gdM (by decide) ?_ | show PySem.wpAt _ _ _ _ _ _ _); first | walk1 | (dsimp only; walk1)))
    all_goals (try k_data)
    with_reducible rename Fr _ _ _ _ => F11
    with_reducible rename News _ _ _ _ => N11
    with_reducible rename IsRange _ _ _ _ _ _ _ _ => R11
    refine LCt.CompSrcT.range (A := A.deeper _) hh F11 N11 R11 (small_of (by omega) (by omega) (by omega) (by omega) (by omega) (by omega) hrz (by omega)) hrz (by rw [PySem.sizeLine_eq]; omega) (fun gg => ?_)
    refine kcgT (fun i ys nw => nw = _ ∧ IntsAre ys (((List.range i).map fun k => ((1 + k : Nat) : Int)).filter fun z => Int.fmod (M : Int) z == 0)) ⟨rfl, .nil⟩ ?_ ?_
    · rintro i ys nw v IC oI C oC Dl m2' h14 tk14 E' hi ⟨tv, rfl⟩ ⟨rfl, hys⟩ hoC hm2 F14 N14 off nes
      repeat' (((fail_if_success with_reducible first | refine gdW ?_ | refine gdF ?_ | refine gdL ?_ | refine gdT ?_ | refine gdC ?_ | refine gdM (by decide) ?_ | show PySem.wpAt _ _ _ _ _ _ _); first | walk1 | (dsimp only; walk1)))
      all_goals (try k_data)
      · refine cend F14 N14 off trivial (fun _ _ e => e) ⟨rfl, sz_t ?_ hys⟩
        assumption
      · refine cend F14 N14 off trivial (fun _ _ e => e) ⟨rfl, sz_f ?_ hys⟩
        assumption
    · rintro ys nw ⟨rfl, hys⟩
      intro D h14 tk14 F14 N14 o14
      exact hR h14 tk14 D ys hys F14 o14 N14
  rintro h11 tk11 Sz szv hsz F11 off11 N11
  dsimp only
  have off11' := off11
  simp only [LCg.Off1, and_true] at off11
  refine wpN_execs_cons (wpN_any ?_)
  refine cpsA (fun R : Flow → Shared → Prop => ∀ (h : Heap) (tk : Nat) (Dk : Addr) (dkv : List Value), (IntsAre dkv (dkI M 1)) → (Fr g L' h (fun z => if z = "deck" then some (.ref Dk) else if z = "sizes" then some (.ref Sz) else m5 z)) → (LCg.Off1 Dk [(Sz, LCg.lst szv), (nA, { cls := .type "list", data := .seq (strValues ln8).toArray nn8 }), (140, { cls := .none, data := .fields pa }), (147, { cls := .none, data := .fields pb }), (Cl, { cls := .type "list", data := .seq #[.int (c 0) (ct 0), .int (c 1) (ct 1), .int (c 2) (ct 2), .int (c 3) (ct 3), .int (c 4) (ct 4)] cn }), (L' + 1 + 1 + 1 + 1 + 1 + 1, o1), (L' + 1 + 1 + 1 + 1 + 1, o2), (L' + 1 + 1 + 1 + 1, o3), (L' + 1 + 1 + 1, oN), (L' + 1 + 1, oR), (L' + 1, oM)]) → (News g L' h ((Dk, LCg.lst dkv) :: [(Sz, LCg.lst szv), (nA, { cls := .type "list", data := .seq (strValues ln8).toArray nn8 }), (140, { cls := .none, data := .fields pa }), (147, { cls := .none, data := .fields pb }), (Cl, { cls := .type "list", data := .seq #[.int (c 0) (ct 0), .int (c 1) (ct 1), .int (c 2) (ct 2), .int (c 3) (ct 3), .int (c 4) (ct 4)] cn }), (L' + 1 + 1 + 1 + 1 + 1 + 1, o1), (L' + 1 + 1 + 1 + 1 + 1, o2), (L' + 1 + 1 + 1 + 1, o3), (L' + 1 + 1 + 1, oN), (L' + 1 + 1, oR), (L' + 1, oM)])) → R .next ({ s with heap := h, toks := tk })) ?_ ?_
  · --OK
    intro R hR
    refine LCg.Assign_ListComp_U (F₀ := F11) rfl (by with_unfolding_all rfl) (by with_unfolding_all rfl) (by decide) (by rfl) (by decide) (by rfl) (by rfl) (by rfl) ?_
    repeat' (((fail_if_success with_reducible first | refine gdW ?_ | refine gdF ?_ | refine gdL ?_ | refine gdT ?_ | refine gdC ?_ | refine gdM (by decide) ?_ | show PySem.wpAt _ _ _ _ _ _ _); first | walk1 | (dsimp only; walk1)))
    all_goals (try k_data)
    with_reducible rename Fr _ _ _ _ => F12
    with_reducible rename News _ _ _ _ => N12
    with_reducible rename IsRange _ _ _ _ _ _ _ _ => R12
    refine LCg.CompSrc.range (A := A.deeper _) hh F12 N12 R12 (small_of (by omega) (by omega) (by omega) (by omega) (by omega) (by omega) hrz (by omega)) hrz (by rw [PySem.sizeLine_eq]; omega) (fun gg => ?_)
    refine kcg (fun i ys nw => nw = _ ∧ IntsAre ys ((List.range i).map fun k => ((1 * (k + 1) % (M + 1) : Nat) : Int))) ⟨rfl, .nil⟩ ?_ ?_
    · rintro i ys nw v IC oI C oC Dl m2' h14 tk14 E' hi ⟨tv, rfl⟩ ⟨rfl, hys⟩ hoC hm2 F14 N14 off nes
      repeat' (((fail_if_success with_reducible first | refine gdW ?_ | refine gdF ?_ | refine gdL ?_ | refine gdT ?_ | refine gdC ?_ | refine gdM (by decide) ?_ | show PySem.wpAt _ _ _ _ _ _ _); first | walk1 | (dsimp only; walk1)))
      all_goals (try k_data)
      refine cend F14 N14 off trivial (fun _ _ e => e) ⟨rfl, dk_step ?_ hys⟩
      rw [Nat.one_mul, Nat.mod_eq_of_lt (by omega)]
      push_cast
      omega
    · rintro ys nw ⟨rfl, hys⟩
      intro D h14 tk14 F14 N14 o14
      exact hR h14 tk14 D ys (by rw [dkI_eq]; exact hys) F14 o14 N14
  rintro h12 tk12 Dk dkv hdk F12 off12 N12
  dsimp only
  have off12' := off12
  simp only [LCg.Off1, and_true] at off12
  refine wpN_execs_cons (wpN_any ?_)
  refine cpsA (fun R : Flow → Shared → Prop => ∀ (h : Heap) (tk : Nat) (oF : Obj) (tF : Tok), (oF.data = .cell (some (.int ((1 : Nat) : Int) tF))) → (Fr g L' h (fun z => if z = "deck" then some (.ref Dk) else if z = "sizes" then some (.ref Sz) else m5 z)) → (News g L' h [(Dk, LCg.lst dkv), (Sz, LCg.lst szv), (nA, { cls := .type "list", data := .seq (strValues ln8).toArray nn8 }), (140, { cls := .none, data := .fields pa }), (147, { cls := .none, data := .fields pb }), (Cl, { cls := .type "list", data := .seq #[.int (c 0) (ct 0), .int (c 1) (ct 1), .int (c 2) (ct 2), .int (c 3) (ct 3), .int (c 4) (ct 4)] cn }), (L' + 1 + 1 + 1 + 1 + 1 + 1, o1), (L' + 1 + 1 + 1 + 1 + 1, o2), (L' + 1 + 1 + 1 + 1, oF), (L' + 1 + 1 + 1, oN), (L' + 1 + 1, oR), (L' + 1, oM)]) → R .next ({ s with heap := h, toks := tk })) ?_ ?_
  · --OK
    intro R hR
    repeat' (((fail_if_success with_reducible first | refine gdW ?_ | refine gdF ?_ | refine gdL ?_ | refine gdT ?_ | refine gdC ?_ | refine gdM (by decide) ?_ | show PySem.wpAt _ _ _ _ _ _ _); first | walk1 | (dsimp only; walk1)))
    all_goals (try k_data)
    with_reducible rename Fr _ _ _ _ => F13
    with_reducible rename News _ _ _ _ => N13
    exact hR _ _ _ _ (by assumption) F13 N13
  rintro h13 tk13 oF tF dF F13 N13
  dsimp only
  refine wpN_execs_cons (forN ?_)
  refine wpN_any ?_
  repeat' (((fail_if_success with_reducible first | refine gdW ?_ | refine gdF ?_ | refine gdL ?_ | refine gdT ?_ | refine gdC ?_ | refine gdM (by decide) ?_ | show PySem.wpAt _ _ _ _ _ _ _); first | walk1 | (dsimp only; walk1)))
  all_goals (try k_data)
  with_reducible rename Fr _ _ _ _ => F14
  with_reducible rename News _ _ _ _ => N14
  have NSl := N14 _ (.head _)
  have q0 := Heap.lt_size (N14 _ (.head _)).1
  have q1 := Heap.lt_size (N14 _ (.tail _ (.head _))).1
  have q2 := Heap.lt_size (N14 _ (.tail _ (.tail _ (.head _)))).1
  have q3 := Heap.lt_size (N14 _ (.tail _ (.tail _ (.tail _ (.head _))))).1
  have q4 := Heap.lt_size (N14 _ (.tail _ (.tail _ (.tail _ (.tail _ (.tail _ (.tail _ (.tail _ (.head _))))))))).1
  dsimp only at NSl q0 q1 q2 q3 q4
  refine list_it ⟨_, NSl.1, rfl, _, rfl⟩ (fun h16 I hIge k16 hIt => ?_)
  rename_i SL hh1 ll1
  have hI1 := base_ne F14 hIge
  have hI0 := base_none F14 hIge
  have hI240 := Nat.le_trans hL2 (Nat.le_trans (Nat.le_of_lt F14.ns.lt) hIge)
  have F15 := fr_kept F14 k16
  have N15 := news_kept N14 k16
  have hSLi : SL ≠ I := Nat.ne_of_lt (Nat.lt_of_lt_of_le q0 hIge)
  have q0' : @LT.lt Nat _ SL I := Nat.lt_of_lt_of_le q0 hIge
  have q1' : @LT.lt Nat _ Dk I := Nat.lt_of_lt_of_le q1 hIge
  have q2' : @LT.lt Nat _ Sz I := Nat.lt_of_lt_of_le q2 hIge
  have q3' : @LT.lt Nat _ nA I := Nat.lt_of_lt_of_le q3 hIge
  have q4' : @LT.lt Nat _ (L' + 1 + 1 + 1 + 1 + 1 + 1) I := Nat.lt_of_lt_of_le q4 hIge
  clear hIge k16
  clear F14 N14
  try clear F13
  try clear F12
  try clear F11
  try clear F10
  try clear N13
  try clear N12
  try clear N11
  try clear N10
  try clear F6
  try clear N6
  try clear F5
  try clear N5
  try clear F4
  try clear N4
  try clear F3
  try clear N3
  try clear F2
  try clear N2
  have K15 := N15
  refine hideG (fun Gz hGz => ?_)
  obtain ⟨kSz, knA, k140, k147, -, k6, k5, k4, k3, k2, k1, -⟩ := off12'
  obtain ⟨jnA, j140, j147, -, j6, j5, j4, j3, j2, j1, -⟩ := off11'
  refine hGz ?_
  clear hGz Gz
  have hL2x : @LE.le Nat _ 240 L' := hL2
  have gSL : @LT.lt Nat _ (L' + 1 + 1 + 1 + 1 + 1 + 1) SL := by omega
  have sDk : @Ne Nat Dk SL := by omega
  have sSz : @Ne Nat Sz SL := by omega
  have snA : @Ne Nat nA SL := by omega
  have aSL : Apart L' SL := apart_gt hL2x gSL
  have aDk : Apart L' Dk := ⟨k140.symm, k147.symm, k1.symm, k2.symm, k3.symm, k4.symm, k5.symm, k6.symm⟩
  have aSz : Apart L' Sz := ⟨j140.symm, j147.symm, j1.symm, j2.symm, j3.symm, j4.symm, j5.symm, j6.symm⟩
  have anA : Apart L' nA := ⟨y140, y147, y6, y5, y4, y3, y2, y1⟩
  have hI240' : @LE.le Nat _ 240 I := hI240
  have aI : Apart L' I := apart_gt hL2x q4'
  have pw : (@Ne Nat Dk I ∧ @Ne Nat Dk SL) ∧ (@Ne Nat Sz I ∧ @Ne Nat Sz SL) ∧ (@Ne Nat nA I ∧ @Ne Nat nA SL) ∧ @Ne Nat nA Sz ∧ @Ne Nat nA Dk ∧ @Ne Nat Sz Dk := ⟨⟨Nat.ne_of_lt q1', sDk⟩, ⟨Nat.ne_of_lt q2', sSz⟩, ⟨Nat.ne_of_lt q3', snA⟩, jnA, knA, kSz⟩
  refine ⟨I, _, _, _, _, _, fun i s' => LawInv g L' s s' b room M tb tr Sz nA I SL szv ln8 nn8 oN oR oM pa pb, rfl, Walks.list (A := A.deeper _) hh I SL hSLi _, ?_, ⟨hIt, ⟨_, (K15 _ (.head _)).1, rfl, _, rfl⟩⟩, ?_, ?_⟩
  · exact ⟨1, tF, _, Dk, dkv, o1, o2, oF, none, none, pa, pb, accObj 0 #[] 0, F15, (if_neg (by decide)).trans ((if_neg (by decide)).trans eb5), (if_neg (by decide)).trans ((if_neg (by decide)).trans er5), rfl, rfl, news_sub K15 (.cons _ (.cons_cons _ (.cons_cons _ (.cons_cons _ (.cons_cons _ (.cons_cons _ (.cons _ (.cons_cons _ (.cons_cons _ (.cons_cons _ (.cons_cons _ (.cons_cons _ (.cons_cons _ (.slnil)))))))))))))), d1, d2, dF, hdk, Nat.gcd_one_left _, by omega, aDk, pw.1, ea2, eb2, ⟨#[], by simp⟩, ⟨#[], by simp⟩, id, rfl⟩
  · intro i v s7 h8 tk8 hi hv hInv k8 st8
    refine hideTN fun R0 hR0 => ?_
    refine hideG (fun Gz hGz => ?_)
    obtain ⟨f, tF, m, Dk, dkv, o1, o2, oF, x1, x2, pa2, pb2, oI0, F, eb, er, es, ed, N, d1, d2, dF, hdk, hg1, hf, aDk, nDk, tA, tB, hA, hB, hgens, hos⟩ := hInv
    obtain ⟨h7, g7, d7, t7, o7⟩ := s7
    refine hGz ?_
    clear hGz Gz
    have F8 := fr_wr F k8 (by simpa using hI1.symm) (by simpa using hI0)
    unfold Apart at aI
    have N8 := news_wr N k8 (al1 (nin1 (nDk.1)) (al1 (nin1 (pw.2.1.1)) (al1 (nin1 (pw.2.2.1.1)) (al1 (nin1 (aI.1.symm)) (al1 (nin1 (aI.2.1.symm)) (al1 (nin1 (aI.2.2.2.2.2.2.2.symm)) (al1 (nin1 (aI.2.2.2.2.2.2.1.symm)) (al1 (nin1 (aI.2.2.2.2.2.1.symm)) (al1 (nin1 (aI.2.2.2.2.1.symm)) (al1 (nin1 (aI.2.2.2.1.symm)) (al1 (nin1 (aI.2.2.1.symm)) al0)))))))))))
    refine hideG (fun Gz hGz => ?_)
    obtain ⟨⟨oI, gI, gI2⟩, oSL, gS, gS2⟩ := st8
    have hSLL := NSl.2
    have N9 : News g L' h8 [(Dk, LCg.lst dkv), (Sz, LCg.lst szv), (nA, { cls := .type "list", data := .seq (strValues ln8).toArray nn8 }), (140, { cls := .none, data := .fields pa2 }), (147, { cls := .none, data := .fields pb2 }), (L' + 1 + 1 + 1 + 1 + 1 + 1, o1), (L' + 1 + 1 + 1 + 1 + 1, o2), (L' + 1 + 1 + 1 + 1, oF), (L' + 1 + 1 + 1, oN), (L' + 1 + 1, oR), (L' + 1, oM), (I, oI), (SL, oSL)] := news_app N8 (news_cons (news_cons (h := h8) (fun p hp => nomatch hp) gS hSLL.1 hSLL.2) gI hI1 hI0)
    obtain ⟨z, tz, rfl, hz0⟩ : ∃ z tz, v = .int z tz ∧ 0 ≤ z := by
      rcases i with _ | _ | _ | _ | i
      · exact ⟨_, _, (Option.some.inj hv).symm, (hC2 1 (by decide)).1⟩
      · exact ⟨_, _, (Option.some.inj hv).symm, (hC2 2 (by decide)).1⟩
      · exact ⟨_, _, (Option.some.inj hv).symm, (hC2 3 (by decide)).1⟩
      · exact ⟨_, _, (Option.some.inj hv).symm, (hC2 4 (by decide)).1⟩
      · exact absurd hi (by simp)
    refine hGz ?_
    clear hGz Gz
    clear N8 F N K15 N15 F15 hv
    repeat' (((fail_if_success with_reducible first | refine gdW ?_ | refine gdF ?_ | refine gdL ?_ | refine gdT ?_ | refine gdC ?_ | refine gdM (by decide) ?_ | show PySem.wpAt _ _ _ _ _ _ _); first | walk1 | (dsimp only; walk1)))
    all_goals (try k_data)
    with_reducible rename Fr _ _ _ _ => F10
    with_reducible rename News _ _ _ _ => N10
    unfold Apart at aSL aDk aSz anA
    refine wpN_execs_cons (wpN_any ?_)
    refine cpsA (fun R : Flow → Shared → Prop => ∀ (c q : Nat) (tc : Tok) (h : Heap) (tk : Nat) (m : Str → Option Value), (M = q * c) → (1 ≤ c) → (c ≤ 20) → (1 ≤ q) → (Fr g L' h m) → (m "blanks" = some (.int (b : Nat) tb)) → (m "room" = some (.int (room : Nat) tr)) → (m "sizes" = some (.ref Sz)) → (m "deck" = some (.ref Dk)) → (m "cell" = some (.int z tz)) → (m "across" = some (.int (c : Nat) tc)) → (News g L' h [(Dk, LCg.lst dkv), (Sz, LCg.lst szv), (nA, { cls := .type "list", data := .seq (strValues ln8).toArray nn8 }), (140, { cls := .none, data := .fields pa2 }), (147, { cls := .none, data := .fields pb2 }), (L' + 1 + 1 + 1 + 1 + 1 + 1, o1), (L' + 1 + 1 + 1 + 1 + 1, o2), (L' + 1 + 1 + 1 + 1, oF), (L' + 1 + 1 + 1, oN), (L' + 1 + 1, oR), (L' + 1, oM), (I, oI), (SL, oSL)]) → R .next ⟨h, g7, d7, tk, o7⟩) ?_ ?_
    · --OK
      intro R hR
      have hs3 := sizes_ok M hM
      have hsl : szv.length = (sizesOf M).length := hsz.length
      repeat' (((fail_if_success with_reducible first | refine gdW ?_ | refine gdF ?_ | refine gdL ?_ | refine gdT ?_ | refine gdC ?_ | refine gdM (by decide) ?_ | show PySem.wpAt _ _ _ _ _ _ _); first | walk1 | (dsimp only; walk1)))
      all_goals (try k_data)
      with_reducible rename Fr _ _ _ _ => F11
      with_reducible rename News _ _ _ _ => N11
      refine hideG (fun Gz hGz => ?_)
      obtain ⟨c, q, ec, hMq, hc1, hc20, hq1⟩ := size_at hM z
      refine hGz ?_
      clear hGz Gz
      exact hR c q _ _ _ _ hMq hc1 hc20 hq1 F11 ((if_neg (by decide)).trans ((if_neg (by decide)).trans eb)) ((if_neg (by decide)).trans ((if_neg (by decide)).trans er)) ((if_neg (by decide)).trans ((if_neg (by decide)).trans es)) ((if_neg (by decide)).trans ((if_neg (by decide)).trans ed)) rfl (congrArg (fun x => some (Value.int x _)) ec) N11
    rintro c q tc h11 tk11 m11 hMq hc1 hc20 hq1 F11 eb1 er1 es1 ed1 ec1 ea1 N11
    dsimp only
    refine wpN_execs_cons (wpN_any ?_)
    refine cpsA (fun R : Flow → Shared → Prop => ∀ (tail : Nat) (tt : Tok) (h : Heap) (tk : Nat) (m : Str → Option Value), (tail ≤ 3) → (Fr g L' h m) → (m "blanks" = some (.int (b : Nat) tb)) → (m "room" = some (.int (room : Nat) tr)) → (m "sizes" = some (.ref Sz)) → (m "deck" = some (.ref Dk)) → (m "across" = some (.int (c : Nat) tc)) → (m "tail" = some (.int (tail : Nat) tt)) → (News g L' h [(Dk, LCg.lst dkv), (Sz, LCg.lst szv), (nA, { cls := .type "list", data := .seq (strValues ln8).toArray nn8 }), (140, { cls := .none, data := .fields pa2 }), (147, { cls := .none, data := .fields pb2 }), (L' + 1 + 1 + 1 + 1 + 1 + 1, o1), (L' + 1 + 1 + 1 + 1 + 1, o2), (L' + 1 + 1 + 1 + 1, oF), (L' + 1 + 1 + 1, oN), (L' + 1 + 1, oR), (L' + 1, oM), (I, oI), (SL, oSL)]) → R .next ⟨h, g7, d7, tk, o7⟩) ?_ ?_
    · --OK
      intro R hR
      have hs3 := sizes_ok M hM
      have hsl : szv.length = (sizesOf M).length := hsz.length
      repeat' (((fail_if_success with_reducible first | refine gdW ?_ | refine gdF ?_ | refine gdL ?_ | refine gdT ?_ | refine gdC ?_ | refine gdM (by decide) ?_ | show PySem.wpAt _ _ _ _ _ _ _); first | walk1 | (dsimp only; walk1)))
      all_goals (try k_data)
      with_reducible rename Fr _ _ _ _ => F12
      with_reducible rename News _ _ _ _ => N12
      have te := tail_at (Int.fdiv z ((sizesOf M).length : Int) + 1)
      exact hR _ _ _ _ _ te.1 F12 ((if_neg (by decide)).trans eb1) ((if_neg (by decide)).trans er1) ((if_neg (by decide)).trans es1) ((if_neg (by decide)).trans ed1) ((if_neg (by decide)).trans ea1) (congrArg (fun z => some (Value.int z _)) te.2) N12
    rintro tail tt h12 tk12 m12 htl F12 eb2' er2' es2' ed2' ea2' et2' N12
    dsimp only
    refine wpN_execs_cons ?_
    refine cpsN (fun R : Flow → Shared → Prop => ∀ (s' : Shared) (RW : Addr) (Ts : List Addr) (nr : Nat) (o2' : Obj) (pa3 pb3 : Array Value) (rowsN : List (Addr × Obj)), (Fr g L' s'.heap m12) → (o2'.data = .cell (some (.ref RW))) → (News g L' s'.heap ((RW, { cls := .type "list", data := .seq (Ts.map Value.ref).toArray nr }) :: (Dk, LCg.lst dkv) :: (Sz, LCg.lst szv) :: (nA, { cls := .type "list", data := .seq (strValues ln8).toArray nn8 }) :: (140, { cls := .none, data := .fields pa3 }) :: (147, { cls := .none, data := .fields pb3 }) :: (L' + 1 + 1 + 1 + 1 + 1 + 1, o1) :: (L' + 1 + 1 + 1 + 1 + 1, o2') :: (L' + 1 + 1 + 1 + 1, oF) :: (L' + 1 + 1 + 1, oN) :: (L' + 1 + 1, oR) :: (L' + 1, oM) :: (I, oI) :: (SL, oSL) :: rowsN)) → (Ts.length = q) → ((∀ k, k < q → ∃ (l : List (Str × Tok)) (n : Nat), (Ts.getD k 0, ({ cls := .type "list", data := .seq (strValues l).toArray n } : Obj)) ∈ rowsN ∧ l.map (·.1) = wordsAt (nms M) c (db M f) k)) → (TriplesOk pa3.toList) → (TriplesOk pb3.toList) → ((∃ more, pa3 = pa ++ more)) → ((∃ more, pb3 = pb ++ more)) → ((AllBare s.gens → AllBare s'.gens)) → (s'.os = s.os) → R .next s') ?_ ?_
    · --OK
      intro R hR
      refine wpN_Assign ?_
      refine wpN_CallName (trees := [(false, eval (.Call (.Name "bytes" _) [.Name "deck" _] [] _) _), (false, eval (.Name "names" _) _), (false, eval (.Name "across" _) _), (false, eval (.Name "blanks" _) _), (false, eval (.Name "room" _) _), (false, eval (.Name "tail" _) _)]) rfl ?_
      repeat' (((fail_if_success with_reducible first | refine gdW ?_ | refine gdF ?_ | refine gdL ?_ | refine gdT ?_ | refine gdC ?_ | refine gdM (by decide) ?_ | show PySem.wpAt _ _ _ _ _ _ _); first | walk1 | (dsimp only; walk1)))
      all_goals (try k_data)
      refine callWithN_fn (K := Mine.hd.heap_1 w.params) (fn_rw (w := w)) rfl (by simp) (Calls.evalArgs_plain (Calls.spliced_cons ?_))
      repeat' (((fail_if_success with_reducible first | refine gdW ?_ | refine gdF ?_ | refine gdL ?_ | refine gdT ?_ | refine gdC ?_ | refine gdM (by decide) ?_ | show PySem.wpAt _ _ _ _ _ _ _); first | walk1 | (dsimp only; walk1)))
      all_goals (try k_data)
      with_reducible rename Fr _ _ _ _ => F13
      with_reducible rename News _ _ _ _ => N13
      have hDkL := (N13 _ (.head _)).1
      dsimp only at hDkL
      have hdl : dkv.length = M := by
        rw [hdk.length, dkI, List.length_map, dk_len]
      have hM20 := (Ms_le hM).2
      refine call_bytes_ints (A := A.deeper _) (vs := dkv) (ns := dkI M f) ⟨_, hDkL, rfl, _, rfl⟩ hdk (fun n hn => ?_) (by rw [PySem.sizeLine_eq]; omega) hh (fun h13 tBy tk13 k13 => ?_)
      · rw [dkI_eq] at hn
        refine hideG (fun Gz hGz => ?_)
        obtain ⟨k, hk, rfl⟩ := List.mem_map.mp hn
        refine hGz ?_
        clear hGz Gz
        have : f * (k + 1) % (M + 1) < M + 1 := Nat.mod_lt _ (Nat.succ_pos _)
        omega
      rw [byte_db]
      have F14 := fr_kept F13 k13
      have N14 := news_kept N13 k13
      clear F13 N13 k13 hDkL
      repeat' (first | (refine Calls.spliced_cons ?_) | ((fail_if_success with_reducible first | refine gdW ?_ | refine gdF ?_ | refine gdL ?_ | refine gdT ?_ | refine gdC ?_ | refine gdM (by decide) ?_ | show PySem.wpAt _ _ _ _ _ _ _); first | walk1 | (dsimp only; walk1)))
      all_goals (try k_data)
      with_reducible rename Fr _ _ _ _ => F15
      with_reducible rename News _ _ _ _ => N15
      have O15 : Ok w mg mb _ := ok_news X' T' M4 F15 (news_two N15 (by repeat' (first | exact List.Mem.head _ | refine List.Mem.tail _ ?_)) (by repeat' (first | exact List.Mem.head _ | refine List.Mem.tail _ ?_)) : News g L' _ [(140, { cls := .none, data := .fields pa2 }), (147, { cls := .none, data := .fields pb2 })]) tA tB
      refine Calls.spliced_nil ⟨X'.keeps F15.keep, ?_⟩
      have hL2' : @LE.le Nat _ 240 L' := hL2
      have hfr : ∀ x, Heap.get? _ x = none → x ≠ L' ∧ g.get? x = none := fun x e => fr_none F15 e
      refine rows_wp (A := A.deeper _) (by exact O15) (by show A.depth + 1 + 10 < _; omega) hh (by show A.units + 3 < 6000; omega) (db M f) nA (nms M) c q b room tail _ _ _ _ _ ⟨ln8, nn8, hln, (N15 _ (.tail _ (.tail _ (.head _)))).1⟩ hc1 hc20 hq1 (by rw [db_len]; exact hMq) (by rw [db_len]; exact hM20) hb1 hb3 hroom htl (fun k hk => idx_ok hM20 hMq hc1 hk) (by rw [nms_len]; omega) (fun x hx => (nms_ok M hM x hx).1) (fun x hx => (nms_ok M hM x hx).2.1) (fun x hx => (nms_ok M hM x hx).2.2) (fun RW s' Ts nr y hTs hD hDn hT => ?_)
      refine hideG (fun Gz hGz => ?_)
      obtain ⟨h17, g17, d17, t17, o17⟩ := s'
      dsimp only at hD hDn hT
      have F16 : Fr g L' h17 m12 := fr_ext (by exact F15) y (by simp) ht (by simp) hL2
      have k16 : ∀ b o, b ≠ 140 → b ≠ 147 → Heap.get? _ b = some o → h17.get? b = some o := fun b o n1 n2 e => y.keep b o (by simp) (by simp [tabs, n1, n2]) e
      obtain ⟨ma, wa1, wa2⟩ := y.tab 140 (by simp [tabs]) pa2 ⟨(N15 _ (.tail _ (.tail _ (.tail _ (.head _))))).1, tA⟩
      obtain ⟨mb2, wb1, wb2⟩ := y.tab 147 (by simp [tabs]) pb2 ⟨(N15 _ (.tail _ (.tail _ (.tail _ (.tail _ (.head _)))))).1, tB⟩
      obtain ⟨rowsN, hr1, hr2⟩ := rows_list (fun k hk => (hT k hk).2)
      refine hGz ?_
      clear hGz Gz
      have m5c : (L' + 1 + 1 + 1 + 1 + 1, o2) ∈ [(Dk, LCg.lst dkv), (Sz, LCg.lst szv), (nA, { cls := .type "list", data := .seq (strValues ln8).toArray nn8 }), (140, { cls := .none, data := .fields pa2 }), (147, { cls := .none, data := .fields pb2 }), (L' + 1 + 1 + 1 + 1 + 1 + 1, o1), (L' + 1 + 1 + 1 + 1 + 1, o2), (L' + 1 + 1 + 1 + 1, oF), (L' + 1 + 1 + 1, oN), (L' + 1 + 1, oR), (L' + 1, oM), (I, oI), (SL, oSL)] := by simp
      have hcell := k16 _ _ (show @Ne Nat _ _ by omega) (show @Ne Nat _ _ by omega) (N15 _ m5c).1
      refine wpAny_storeName_cell (c := L' + 1 + 1 + 1 + 1 + 1) (v₀ := x2) (by rfl) (by rfl) (by rfl) ⟨_, hcell, d2⟩ (fun h18 hc18 hs18 => ?_)
      obtain ⟨o2', hg2, hd2⟩ := hc18
      have kk : ∀ x o, @Ne Nat x (L' + 1 + 1 + 1 + 1 + 1) → @Ne Nat x 140 → @Ne Nat x 147 → Heap.get? _ x = some o → h18.get? x = some o := fun x o n0 n1 n2 e => (hs18.2 x n0).trans (k16 x o n1 n2 e)
      refine hR _ RW Ts nr o2' _ _ rowsN (fr_same F16 hs18 (show @Ne Nat _ _ by omega) (N15 _ m5c).2.2) hd2 ?_ hTs hr2 wa2 wb2 ?_ ?_ (fun q => y.gens (hgens q)) (y.os.trans hos)
      · refine al1 ?_ (al1 ?_ (al1 ?_ (al1 ?_ (al1 ?_ (al1 ?_ (al1 ?_ (al1 ?_ (al1 ?_ (al1 ?_ (al1 ?_ (al1 ?_ (al1 ?_ (al1 ?_ (fun p hp => ?_))))))))))))))
        · exact ⟨(hs18.2 RW (fun q => by
            rw [q, (N15 _ m5c).1] at hDn
            cases hDn)).trans hD, hfr _ hDn⟩
        · exact ⟨kk _ _ aDk.2.2.2.2.2.2.1 aDk.1 aDk.2.1 (N15 _ (by repeat' (first | exact List.Mem.head _ | refine List.Mem.tail _ ?_))).1, (N15 _ (.head _)).2⟩
        · exact ⟨kk _ _ aSz.2.2.2.2.2.2.1 aSz.1 aSz.2.1 (N15 _ (by repeat' (first | exact List.Mem.head _ | refine List.Mem.tail _ ?_))).1, (N15 _ (.tail _ (.head _))).2⟩
        · exact ⟨kk _ _ anA.2.2.2.2.2.2.1 anA.1 anA.2.1 (N15 _ (by repeat' (first | exact List.Mem.head _ | refine List.Mem.tail _ ?_))).1, (N15 _ (.tail _ (.tail _ (.head _)))).2⟩
        · exact ⟨(hs18.2 _ (show @Ne Nat _ _ by omega)).trans wa1, (N15 _ (.tail _ (.tail _ (.tail _ (.head _))))).2⟩
        · exact ⟨(hs18.2 _ (show @Ne Nat _ _ by omega)).trans wb1, (N15 _ (.tail _ (.tail _ (.tail _ (.tail _ (.head _)))))).2⟩
        · exact ⟨kk _ _ (show @Ne Nat _ _ by omega) (show @Ne Nat _ _ by omega) (show @Ne Nat _ _ by omega) (N15 (_, o1) (by repeat' (first | exact List.Mem.head _ | refine List.Mem.tail _ ?_))).1, (N15 (_, o1) (by repeat' (first | exact List.Mem.head _ | refine List.Mem.tail _ ?_))).2⟩
        · exact ⟨hg2, (N15 _ m5c).2⟩
        · exact ⟨kk _ _ (show @Ne Nat _ _ by omega) (show @Ne Nat _ _ by omega) (show @Ne Nat _ _ by omega) (N15 (_, oF) (by repeat' (first | exact List.Mem.head _ | refine List.Mem.tail _ ?_))).1, (N15 (_, oF) (by repeat' (first | exact List.Mem.head _ | refine List.Mem.tail _ ?_))).2⟩
        · exact ⟨kk _ _ (show @Ne Nat _ _ by omega) (show @Ne Nat _ _ by omega) (show @Ne Nat _ _ by omega) (N15 (_, oN) (by repeat' (first | exact List.Mem.head _ | refine List.Mem.tail _ ?_))).1, (N15 (_, oN) (by repeat' (first | exact List.Mem.head _ | refine List.Mem.tail _ ?_))).2⟩
        · exact ⟨kk _ _ (show @Ne Nat _ _ by omega) (show @Ne Nat _ _ by omega) (show @Ne Nat _ _ by omega) (N15 (_, oR) (by repeat' (first | exact List.Mem.head _ | refine List.Mem.tail _ ?_))).1, (N15 (_, oR) (by repeat' (first | exact List.Mem.head _ | refine List.Mem.tail _ ?_))).2⟩
        · exact ⟨kk _ _ (show @Ne Nat _ _ by omega) (show @Ne Nat _ _ by omega) (show @Ne Nat _ _ by omega) (N15 (_, oM) (by repeat' (first | exact List.Mem.head _ | refine List.Mem.tail _ ?_))).1, (N15 (_, oM) (by repeat' (first | exact List.Mem.head _ | refine List.Mem.tail _ ?_))).2⟩
        · exact ⟨kk _ _ aI.2.2.2.2.2.2.1 aI.1 aI.2.1 (N15 (_, oI) (by repeat' (first | exact List.Mem.head _ | refine List.Mem.tail _ ?_))).1, (N15 (_, oI) (by repeat' (first | exact List.Mem.head _ | refine List.Mem.tail _ ?_))).2⟩
        · exact ⟨kk _ _ aSL.2.2.2.2.2.2.1 aSL.1 aSL.2.1 (N15 (_, oSL) (by repeat' (first | exact List.Mem.head _ | refine List.Mem.tail _ ?_))).1, (N15 (_, oSL) (by repeat' (first | exact List.Mem.head _ | refine List.Mem.tail _ ?_))).2⟩
        · obtain ⟨e, k, hk, e2⟩ := hr1 p hp
          have hn := (hT k hk).1
          rw [← e2] at hn
          exact ⟨(hs18.2 p.1 (fun q => by
            rw [q, (N15 _ m5c).1] at hn
            cases hn)).trans e, hfr _ hn⟩
      · obtain ⟨m0, rfl⟩ := hA
        exact ⟨m0 ++ ma, by simp⟩
      · obtain ⟨m0, rfl⟩ := hB
        exact ⟨m0 ++ mb2, by simp⟩
    rintro s' RW Ts nr o2' pa3 pb3 rowsN F13 d2' N13 hTs hrow tA3 tB3 hA3 hB3 hg3 ho3
    dsimp only
    refine hideG (fun Gz hGz => ?_)
    obtain ⟨h13, g13, d13, t13, o13⟩ := s'
    refine hGz ?_
    clear hGz Gz
    dsimp only at F13 N13 hg3 ho3
    have hL2' : @LE.le Nat _ 240 L' := hL2
    refine wpN_execs_cons (wpN_any ?_)
    refine cpsA (fun R : Flow → Shared → Prop => ∀ (h : Heap) (tk : Nat), (Fr g L' h m12) → (News g L' h ((RW, { cls := .type "list", data := .seq (Ts.map Value.ref).toArray nr }) :: (Dk, LCg.lst dkv) :: (Sz, LCg.lst szv) :: (nA, { cls := .type "list", data := .seq (strValues ln8).toArray nn8 }) :: (140, { cls := .none, data := .fields pa3 }) :: (147, { cls := .none, data := .fields pb3 }) :: (L' + 1 + 1 + 1 + 1 + 1 + 1, o1) :: (L' + 1 + 1 + 1 + 1 + 1, o2') :: (L' + 1 + 1 + 1 + 1, oF) :: (L' + 1 + 1 + 1, oN) :: (L' + 1 + 1, oR) :: (L' + 1, oM) :: (I, oI) :: (SL, oSL) :: rowsN)) → R .next ⟨h, g13, d13, tk, o13⟩) ?_ ?_
    · --OK
      intro R hR
      repeat' (((fail_if_success with_reducible first | refine gdW ?_ | refine gdF ?_ | refine gdL ?_ | refine gdT ?_ | refine gdC ?_ | refine gdM (by decide) ?_ | show PySem.wpAt _ _ _ _ _ _ _); first | walk1 | (dsimp only; walk1)))
      all_goals (try k_data)
      refine LCg.ListComp_U (F₀ := F13) (by with_unfolding_all rfl) (by decide) (by rfl) (by decide) (by rfl) ?_
      repeat' (((fail_if_success with_reducible first | refine gdW ?_ | refine gdF ?_ | refine gdL ?_ | refine gdT ?_ | refine gdC ?_ | refine gdM (by decide) ?_ | show PySem.wpAt _ _ _ _ _ _ _); first | walk1 | (dsimp only; walk1)))
      all_goals (try k_data)
      with_reducible rename Fr _ _ _ _ => F14
      with_reducible rename News _ _ _ _ => N14
      have hM20 := (Ms_le hM).2
      have hq20 : q ≤ 20 := Nat.le_trans (Nat.le_mul_of_pos_right q hc1) (hMq ▸ hM20)
      refine LCg.CompSrc.ledger (A := A.deeper _) hh F14 N14 (.head _) (by rw [PySem.sizeLine_eq]; simp [hTs]; omega) (fun gg => ?_)
      refine kcg (fun i ys nw => nw = _ ∧ IntsAre ys (List.replicate i (c : Int))) ⟨rfl, .nil⟩ ?_ ?_
      · rintro i ys nw v IC oIC C oC Dl m2' h14 tk14 E' hi hv ⟨rfl, hys⟩ hoC hm2 F14 N14 off nes
        have hiq : i < q := by simpa [hTs] using hi
        refine hideG (fun Gz hGz => ?_)
        obtain rfl : v = .ref (Ts.getD i 0) := by
          have h0 : i < Ts.length := by omega
          have hv' : (Ts.map Value.ref).toArray[i]? = some v := hv
          rw [List.getElem?_toArray, List.getElem?_map, List.getElem?_eq_getElem h0] at hv'
          rw [List.getD_eq_getElem?_getD, List.getElem?_eq_getElem h0]
          exact (Option.some.inj hv').symm
        obtain ⟨l, n, hmem, hw⟩ := hrow i hiq
        refine hGz ?_
        clear hGz Gz
        have hls : l.length = c := by
          have := congrArg List.length hw
          simpa [wordsAt] using this
        have O14 : Ok w mg mb h14 := ok_news X' T' M4 F14 (news_two N14 (by repeat' (first | exact List.Mem.head _ | refine List.Mem.tail _ ?_)) (by repeat' (first | exact List.Mem.head _ | refine List.Mem.tail _ ?_)) : News g L' _ [(140, { cls := .none, data := .fields pa3 }), (147, { cls := .none, data := .fields pb3 })]) tA3 tB3
        have hrm := N14 _ (.tail _ (.tail _ (.tail _ (.tail _ (.tail _ (.tail _ (.tail _ (.tail _ (.tail _ (.tail _ (.tail _ (.tail _ (.tail _ (.tail _ (.tail _ (.tail _ (.tail _ hmem)))))))))))))))))
        have PC := N14 _ (.tail _ (.head _))
        dsimp only at hrm PC
        refine lenl_elt (env := compEnvC _ _ _ _) (items := (strValues l).toArray) O14 (by rfl) (by rfl) (by rfl) (by decide) (by rfl) (by rfl) (hoC.ns PC.1) hm2 ⟨_, hrm.1, rfl, _, rfl⟩ (by simp [strValues, hls]; omega) (fun tk15 t15 => ?_)
        refine cend F14 N14 off (.inr ⟨_, .head _, rfl, _, rfl⟩) (fun _ _ e => e) ⟨rfl, ?_⟩
        rw [List.replicate_succ']
        exact IntsAre.append hys (by simp only [strValues, List.size_toArray, List.length_map, hls]; exact .cons _ _ .nil)
      · rintro ys nw ⟨rfl, hys⟩
        intro D h14 tk14 F14 N14 o14
        have hys' : IntsAre ys (List.replicate q (c : Int)) := by simpa [hTs] using hys
        have hdiv : Int.fdiv (M : Int) (c : Int) = (q : Int) := by
          rw [hMq, Int.natCast_mul, Int.fdiv_eq_ediv_of_nonneg _ (by omega), Int.mul_ediv_cancel _ (by omega)]
        repeat' (((fail_if_success with_reducible first | refine gdW ?_ | refine gdF ?_ | refine gdL ?_ | refine gdT ?_ | refine gdC ?_ | refine gdM (by decide) ?_ | show PySem.wpAt _ _ _ _ _ _ _); first | walk1 | (dsimp only; walk1)))
        all_goals (try k_data)
        · with_reducible rename Fr _ _ _ _ => F15
          with_reducible rename News _ _ _ _ => N15
          exact hR _ _ F15 (fun p hp => N15 p (.tail _ (.tail _ (.tail _ hp))))
        · rename_i hne
          exact absurd (by rw [hdiv, Int.toNat_natCast]; simp) hne
    rintro h14 t14 F14 N14
    dsimp only
    have hM20 := (Ms_le hM).2
    have hq20 : q ≤ 20 := Nat.le_trans (Nat.le_mul_of_pos_right q hc1) (hMq ▸ hM20)
    refine wpN_execs_cons (wpN_any ?_)
    refine cpsA (fun R : Flow → Shared → Prop => ∀ (h : Heap) (tk : Nat) (PK : Addr) (lp : List (Str × Tok)) (o1' : Obj), (Fr g L' h m12) → (o1'.data = .cell (some (.ref PK))) → (lp.map (·.1) = pks M (f * c % (M + 1))) → (LCg.Off1 PK ((Dk, LCg.lst dkv) :: (Sz, LCg.lst szv) :: (nA, { cls := .type "list", data := .seq (strValues ln8).toArray nn8 }) :: (140, { cls := .none, data := .fields pa3 }) :: (147, { cls := .none, data := .fields pb3 }) :: (L' + 1 + 1 + 1 + 1 + 1 + 1, o1') :: (L' + 1 + 1 + 1 + 1 + 1, o2') :: (L' + 1 + 1 + 1 + 1, oF) :: (L' + 1 + 1 + 1, oN) :: (L' + 1 + 1, oR) :: (L' + 1, oM) :: (I, oI) :: (SL, oSL) :: [])) → (News g L' h ((PK, LCg.lst (strValues lp)) :: (Dk, LCg.lst dkv) :: (Sz, LCg.lst szv) :: (nA, { cls := .type "list", data := .seq (strValues ln8).toArray nn8 }) :: (140, { cls := .none, data := .fields pa3 }) :: (147, { cls := .none, data := .fields pb3 }) :: (L' + 1 + 1 + 1 + 1 + 1 + 1, o1') :: (L' + 1 + 1 + 1 + 1 + 1, o2') :: (L' + 1 + 1 + 1 + 1, oF) :: (L' + 1 + 1 + 1, oN) :: (L' + 1 + 1, oR) :: (L' + 1, oM) :: (I, oI) :: (SL, oSL) :: [])) → R .next ⟨h, g13, d13, tk, o13⟩) ?_ ?_
    · --OK
      intro R hR
      repeat' (((fail_if_success with_reducible first | refine gdW ?_ | refine gdF ?_ | refine gdL ?_ | refine gdT ?_ | refine gdC ?_ | refine gdM (by decide) ?_ | show PySem.wpAt _ _ _ _ _ _ _); first | walk1 | (dsimp only; walk1)))
      all_goals (try k_data)
      refine picked_wp (A := A.deeper _) (h₀ := g) (L := L') (m := m12) (news := ((RW, { cls := .type "list", data := .seq (Ts.map Value.ref).toArray nr }) :: (Dk, LCg.lst dkv) :: (Sz, LCg.lst szv) :: (nA, { cls := .type "list", data := .seq (strValues ln8).toArray nn8 }) :: (140, { cls := .none, data := .fields pa3 }) :: (147, { cls := .none, data := .fields pb3 }) :: (L' + 1 + 1 + 1 + 1 + 1 + 1, o1) :: (L' + 1 + 1 + 1 + 1 + 1, o2') :: (L' + 1 + 1 + 1 + 1, oF) :: (L' + 1 + 1 + 1, oN) :: (L' + 1 + 1, oR) :: (L' + 1, oM) :: (I, oI) :: (SL, oSL) :: rowsN)) (c := c) (q := q) (cR := L' + 1 + 1 + 1 + 1 + 1) (oR := o2') (RW := RW) (Ts := Ts) (nr := nr) (wd := wordsAt (nms M) c (db M f)) hh (by with_unfolding_all rfl) (by decide) (by rfl) (by decide) (by rfl) (by rfl) (fun _ => by with_unfolding_all rfl) (by rfl) hc20 hq20 hTs ?_ (.tail _ (.tail _ (.tail _ (.tail _ (.tail _ (.tail _ (.tail _ (.head _)))))))) d2' (.head _) (fun k hk => ?_) (fun k hk => words_len) (fun D h tk lp F15 N15 o15 hlp => ?_)
      · repeat' (((fail_if_success with_reducible first | refine gdW ?_ | refine gdF ?_ | refine gdL ?_ | refine gdT ?_ | refine gdC ?_ | refine gdM (by decide) ?_ | show PySem.wpAt _ _ _ _ _ _ _); first | walk1 | (dsimp only; walk1)))
        all_goals (try k_data)
        · with_reducible rename Fr _ _ _ _ => F16
          exact F16
        · with_reducible rename News _ _ _ _ => N16
          exact N16
      · obtain ⟨l, n, hmem, hw⟩ := hrow k hk
        exact ⟨l, n, (.tail _ (.tail _ (.tail _ (.tail _ (.tail _ (.tail _ (.tail _ (.tail _ (.tail _ (.tail _ (.tail _ (.tail _ (.tail _ (.tail _ hmem)))))))))))))), hw⟩
      have m6c : (L' + 1 + 1 + 1 + 1 + 1 + 1, o1) ∈ ((RW, { cls := .type "list", data := .seq (Ts.map Value.ref).toArray nr }) :: (Dk, LCg.lst dkv) :: (Sz, LCg.lst szv) :: (nA, { cls := .type "list", data := .seq (strValues ln8).toArray nn8 }) :: (140, { cls := .none, data := .fields pa3 }) :: (147, { cls := .none, data := .fields pb3 }) :: (L' + 1 + 1 + 1 + 1 + 1 + 1, o1) :: (L' + 1 + 1 + 1 + 1 + 1, o2') :: (L' + 1 + 1 + 1 + 1, oF) :: (L' + 1 + 1 + 1, oN) :: (L' + 1 + 1, oR) :: (L' + 1, oM) :: (I, oI) :: (SL, oSL) :: rowsN) := .tail _ (.tail _ (.tail _ (.tail _ (.tail _ (.tail _ (.head _))))))
      refine wpAny_storeName_cell (c := L' + 1 + 1 + 1 + 1 + 1 + 1) (v₀ := x1) (by rfl) (by rfl) (by rfl) ⟨_, (N15 _ (.tail _ m6c)).1, d1⟩ (fun h17 hc17 hs17 => ?_)
      obtain ⟨o1', hg1, hd1⟩ := hc17
      have kk : ∀ x o, @Ne Nat x (L' + 1 + 1 + 1 + 1 + 1 + 1) → h.get? x = some o → h17.get? x = some o := fun x o n0 e => (hs17.2 x n0).trans e
      have oPK : LCg.Off1 D ((Dk, LCg.lst dkv) :: (Sz, LCg.lst szv) :: (nA, { cls := .type "list", data := .seq (strValues ln8).toArray nn8 }) :: (140, { cls := .none, data := .fields pa3 }) :: (147, { cls := .none, data := .fields pb3 }) :: (L' + 1 + 1 + 1 + 1 + 1 + 1, o1') :: (L' + 1 + 1 + 1 + 1 + 1, o2') :: (L' + 1 + 1 + 1 + 1, oF) :: (L' + 1 + 1 + 1, oN) :: (L' + 1 + 1, oR) :: (L' + 1, oM) :: (I, oI) :: (SL, oSL) :: []) := by
        simp only [LCg.Off1, and_true]
        exact ⟨o15 _ (.tail _ (.head _)), o15 _ (.tail _ (.tail _ (.head _))), o15 _ (.tail _ (.tail _ (.tail _ (.head _)))), o15 _ (.tail _ (.tail _ (.tail _ (.tail _ (.head _))))), o15 _ (.tail _ (.tail _ (.tail _ (.tail _ (.tail _ (.head _)))))), o15 _ (.tail _ (.tail _ (.tail _ (.tail _ (.tail _ (.tail _ (.head _))))))), o15 _ (.tail _ (.tail _ (.tail _ (.tail _ (.tail _ (.tail _ (.tail _ (.head _)))))))), o15 _ (.tail _ (.tail _ (.tail _ (.tail _ (.tail _ (.tail _ (.tail _ (.tail _ (.head _))))))))), o15 _ (.tail _ (.tail _ (.tail _ (.tail _ (.tail _ (.tail _ (.tail _ (.tail _ (.tail _ (.head _)))))))))), o15 _ (.tail _ (.tail _ (.tail _ (.tail _ (.tail _ (.tail _ (.tail _ (.tail _ (.tail _ (.tail _ (.head _))))))))))), o15 _ (.tail _ (.tail _ (.tail _ (.tail _ (.tail _ (.tail _ (.tail _ (.tail _ (.tail _ (.tail _ (.tail _ (.head _)))))))))))), o15 _ (.tail _ (.tail _ (.tail _ (.tail _ (.tail _ (.tail _ (.tail _ (.tail _ (.tail _ (.tail _ (.tail _ (.tail _ (.head _))))))))))))), o15 _ (.tail _ (.tail _ (.tail _ (.tail _ (.tail _ (.tail _ (.tail _ (.tail _ (.tail _ (.tail _ (.tail _ (.tail _ (.tail _ (.head _))))))))))))))⟩
      have oPK' := oPK
      simp only [LCg.Off1, and_true] at oPK'
      refine hR h17 tk D lp o1' (fr_same F15 hs17 (show @Ne Nat _ _ by omega) (N15 _ (.tail _ m6c)).2.2) hd1 (by rw [hlp, picks_pks hM20 hMq]) oPK ?_
      refine al1 ?_ (al1 ?_ (al1 ?_ (al1 ?_ (al1 ?_ (al1 ?_ (al1 ?_ (al1 ?_ (al1 ?_ (al1 ?_ (al1 ?_ (al1 ?_ (al1 ?_ (al1 ?_ al0)))))))))))))
      · exact ⟨kk _ _ oPK'.2.2.2.2.2.1.symm (N15 _ (.head _)).1, (N15 _ (.head _)).2⟩
      · exact ⟨kk _ _ aDk.2.2.2.2.2.2.2 (N15 _ (.tail _ (.tail _ (.head _)))).1, (N15 _ (.tail _ (.tail _ (.head _)))).2⟩
      · exact ⟨kk _ _ aSz.2.2.2.2.2.2.2 (N15 _ (.tail _ (.tail _ (.tail _ (.head _))))).1, (N15 _ (.tail _ (.tail _ (.tail _ (.head _))))).2⟩
      · exact ⟨kk _ _ anA.2.2.2.2.2.2.2 (N15 _ (.tail _ (.tail _ (.tail _ (.tail _ (.head _)))))).1, (N15 _ (.tail _ (.tail _ (.tail _ (.tail _ (.head _)))))).2⟩
      · exact ⟨kk _ _ (show @Ne Nat _ _ by omega) (N15 _ (.tail _ (.tail _ (.tail _ (.tail _ (.tail _ (.head _))))))).1, (N15 _ (.tail _ (.tail _ (.tail _ (.tail _ (.tail _ (.head _))))))).2⟩
      · exact ⟨kk _ _ (show @Ne Nat _ _ by omega) (N15 _ (.tail _ (.tail _ (.tail _ (.tail _ (.tail _ (.tail _ (.head _)))))))).1, (N15 _ (.tail _ (.tail _ (.tail _ (.tail _ (.tail _ (.tail _ (.head _)))))))).2⟩
      · exact ⟨hg1, (N15 _ (.tail _ m6c)).2⟩
      · exact ⟨kk _ _ (show @Ne Nat _ _ by omega) (N15 _ (.tail _ (.tail _ (.tail _ (.tail _ (.tail _ (.tail _ (.tail _ (.tail _ (.head _)))))))))).1, (N15 _ (.tail _ (.tail _ (.tail _ (.tail _ (.tail _ (.tail _ (.tail _ (.tail _ (.head _)))))))))).2⟩
      · exact ⟨kk _ _ (show @Ne Nat _ _ by omega) (N15 _ (.tail _ (.tail _ (.tail _ (.tail _ (.tail _ (.tail _ (.tail _ (.tail _ (.tail _ (.head _))))))))))).1, (N15 _ (.tail _ (.tail _ (.tail _ (.tail _ (.tail _ (.tail _ (.tail _ (.tail _ (.tail _ (.head _))))))))))).2⟩
      · exact ⟨kk _ _ (show @Ne Nat _ _ by omega) (N15 _ (.tail _ (.tail _ (.tail _ (.tail _ (.tail _ (.tail _ (.tail _ (.tail _ (.tail _ (.tail _ (.head _)))))))))))).1, (N15 _ (.tail _ (.tail _ (.tail _ (.tail _ (.tail _ (.tail _ (.tail _ (.tail _ (.tail _ (.tail _ (.head _)))))))))))).2⟩
      · exact ⟨kk _ _ (show @Ne Nat _ _ by omega) (N15 _ (.tail _ (.tail _ (.tail _ (.tail _ (.tail _ (.tail _ (.tail _ (.tail _ (.tail _ (.tail _ (.tail _ (.head _))))))))))))).1, (N15 _ (.tail _ (.tail _ (.tail _ (.tail _ (.tail _ (.tail _ (.tail _ (.tail _ (.tail _ (.tail _ (.tail _ (.head _))))))))))))).2⟩
      · exact ⟨kk _ _ (show @Ne Nat _ _ by omega) (N15 _ (.tail _ (.tail _ (.tail _ (.tail _ (.tail _ (.tail _ (.tail _ (.tail _ (.tail _ (.tail _ (.tail _ (.tail _ (.head _)))))))))))))).1, (N15 _ (.tail _ (.tail _ (.tail _ (.tail _ (.tail _ (.tail _ (.tail _ (.tail _ (.tail _ (.tail _ (.tail _ (.tail _ (.head _)))))))))))))).2⟩
      · exact ⟨kk _ _ aI.2.2.2.2.2.2.2 (N15 _ (.tail _ (.tail _ (.tail _ (.tail _ (.tail _ (.tail _ (.tail _ (.tail _ (.tail _ (.tail _ (.tail _ (.tail _ (.tail _ (.head _))))))))))))))).1, (N15 _ (.tail _ (.tail _ (.tail _ (.tail _ (.tail _ (.tail _ (.tail _ (.tail _ (.tail _ (.tail _ (.tail _ (.tail _ (.tail _ (.head _))))))))))))))).2⟩
      · exact ⟨kk _ _ aSL.2.2.2.2.2.2.2 (N15 _ (.tail _ (.tail _ (.tail _ (.tail _ (.tail _ (.tail _ (.tail _ (.tail _ (.tail _ (.tail _ (.tail _ (.tail _ (.tail _ (.tail _ (.head _)))))))))))))))).1, (N15 _ (.tail _ (.tail _ (.tail _ (.tail _ (.tail _ (.tail _ (.tail _ (.tail _ (.tail _ (.tail _ (.tail _ (.tail _ (.tail _ (.tail _ (.head _)))))))))))))))).2⟩
    rintro h15 t15 PK lp o1' F15 d1' hlp offPK N15
    dsimp only
    clear N14 F14 N13 F13 hrow F12 N12
    have offPK' := offPK
    simp only [LCg.Off1, and_true] at offPK
    refine wpN_execs_cons (wpN_Assign (wpN_any ?_))
    refine mulmod (cF := L' + 1 + 1 + 1 + 1) (cR := L' + 1 + 1) (f := f) (k := c) (r := M + 1) (by rfl) (by rfl) (by rfl) ⟨_, (N15 _ (.tail _ (.tail _ (.tail _ (.tail _ (.tail _ (.tail _ (.tail _ (.tail _ (.head _)))))))))).1, dF⟩ (by rfl) (by rfl) ⟨_, (N15 _ (.tail _ (.tail _ (.tail _ (.tail _ (.tail _ (.tail _ (.tail _ (.tail _ (.tail _ (.tail _ (.head _)))))))))))).1, dR⟩ (by omega) (by omega) (idx_local (by rfl) (by rfl) (by decide) F15.ns ea2') (fun tk16 t16 => ?_)
    refine wpAny_storeName_cell (c := L' + 1 + 1 + 1 + 1) (v₀ := _) (by rfl) (by rfl) (by rfl) ⟨_, (N15 _ (.tail _ (.tail _ (.tail _ (.tail _ (.tail _ (.tail _ (.tail _ (.tail _ (.head _)))))))))).1, dF⟩ (fun h16 hc16 hs16 => ?_)
    obtain ⟨oF', hgF, dF'⟩ := hc16
    have lc := lc4 hL2'
    have F16 := fr_same F15 hs16 lc.2.2.2.2.2.2.2 (N15 _ (.tail _ (.tail _ (.tail _ (.tail _ (.tail _ (.tail _ (.tail _ (.tail _ (.head _)))))))))).2.2
    have N16 : News g L' h16 ((PK, LCg.lst (strValues lp)) :: (Dk, LCg.lst dkv) :: (Sz, LCg.lst szv) :: (nA, { cls := .type "list", data := .seq (strValues ln8).toArray nn8 }) :: (140, { cls := .none, data := .fields pa3 }) :: (147, { cls := .none, data := .fields pb3 }) :: (L' + 1 + 1 + 1 + 1 + 1 + 1, o1') :: (L' + 1 + 1 + 1 + 1 + 1, o2') :: (L' + 1 + 1 + 1 + 1, oF') :: (L' + 1 + 1 + 1, oN) :: (L' + 1 + 1, oR) :: (L' + 1, oM) :: (I, oI) :: (SL, oSL) :: []) := news_at_set N15 (i := 8) rfl hs16 hgF ⟨offPK.2.2.2.2.2.2.2.1.symm, aDk.2.2.2.2.2.1, aSz.2.2.2.2.2.1, anA.2.2.2.2.2.1, lc.1, lc.2.1, lc.2.2.1, lc.2.2.2.1, lc.2.2.2.2.1, lc.2.2.2.2.2.1, lc.2.2.2.2.2.2.1, aI.2.2.2.2.2.1, aSL.2.2.2.2.2.1, trivial⟩
    clear N15 F15 hs16 hgF
    dsimp only at F16 N16 ⊢
    refine wpN_execs_cons (wpN_any ?_)
    have hMs := Ms_le hM
    have hrz : Builtin.Range.rangeSize 1 ((M + 1 : Nat) : Int) 1 = ((M : Nat) : Int) := by rw [rangeSize_one]; split <;> omega
    refine cpsA (fun R : Flow → Shared → Prop => ∀ (h : Heap) (tk : Nat) (D2 : Addr) (dkv2 : List Value), (IntsAre dkv2 (dkI M (f * c % (M + 1)))) → (Fr g L' h (fun z => if z = "deck" then some (.ref D2) else m12 z)) → (LCg.Off1 D2 ((PK, LCg.lst (strValues lp)) :: (Dk, LCg.lst dkv) :: (Sz, LCg.lst szv) :: (nA, { cls := .type "list", data := .seq (strValues ln8).toArray nn8 }) :: (140, { cls := .none, data := .fields pa3 }) :: (147, { cls := .none, data := .fields pb3 }) :: (L' + 1 + 1 + 1 + 1 + 1 + 1, o1') :: (L' + 1 + 1 + 1 + 1 + 1, o2') :: (L' + 1 + 1 + 1 + 1, oF') :: (L' + 1 + 1 + 1, oN) :: (L' + 1 + 1, oR) :: (L' + 1, oM) :: (I, oI) :: (SL, oSL) :: [])) → (News g L' h ((D2, LCg.lst dkv2) :: (PK, LCg.lst (strValues lp)) :: (Dk, LCg.lst dkv) :: (Sz, LCg.lst szv) :: (nA, { cls := .type "list", data := .seq (strValues ln8).toArray nn8 }) :: (140, { cls := .none, data := .fields pa3 }) :: (147, { cls := .none, data := .fields pb3 }) :: (L' + 1 + 1 + 1 + 1 + 1 + 1, o1') :: (L' + 1 + 1 + 1 + 1 + 1, o2') :: (L' + 1 + 1 + 1 + 1, oF') :: (L' + 1 + 1 + 1, oN) :: (L' + 1 + 1, oR) :: (L' + 1, oM) :: (I, oI) :: (SL, oSL) :: [])) → R .next ⟨h, g13, d13, tk, o13⟩) ?_ ?_
    · --OK
      intro R hR
      refine LCg.Assign_ListComp_U (F₀ := F16) rfl (by with_unfolding_all rfl) (by with_unfolding_all rfl) (by decide) (by rfl) (by decide) (by rfl) (by rfl) (by rfl) ?_
      repeat' (((fail_if_success with_reducible first | refine gdW ?_ | refine gdF ?_ | refine gdL ?_ | refine gdT ?_ | refine gdC ?_ | refine gdM (by decide) ?_ | show PySem.wpAt _ _ _ _ _ _ _); first | walk1 | (dsimp only; walk1)))
      all_goals (try k_data)
      with_reducible rename Fr _ _ _ _ => F18
      with_reducible rename News _ _ _ _ => N18
      with_reducible rename IsRange _ _ _ _ _ _ _ _ => R18
      refine LCg.CompSrc.range (A := A.deeper _) hh F18 N18 R18 (small_of (by omega) (by omega) (by omega) (by omega) (by omega) (by omega) hrz (by omega)) hrz (by rw [PySem.sizeLine_eq]; omega) (fun gg => ?_)
      refine kcg (fun i ys nw => nw = _ ∧ IntsAre ys ((List.range i).map fun k => ((f * c % (M + 1) * (k + 1) % (M + 1) : Nat) : Int))) ⟨rfl, .nil⟩ ?_ ?_
      · rintro i ys nw v IC oIC C oC Dl m2' h14 tk14 E' hi ⟨tv, rfl⟩ ⟨rfl, hys⟩ hoC hm2 F14 N14 off nes
        have PC := N14 _ (.tail _ (.head _))
        have hfl : f * c % (M + 1) < M + 1 := Nat.mod_lt _ (Nat.succ_pos _)
        refine mulmod (cF := L' + 1 + 1 + 1 + 1) (cR := L' + 1 + 1) (f := f * c % (M + 1)) (k := i + 1) (r := M + 1) (by rfl) (by rfl) (by rfl) ⟨_, (N14 _ (.tail _ (.tail _ (.tail _ (.tail _ (.tail _ (.tail _ (.tail _ (.tail _ (.tail _ (.tail _ (.tail _ (.head _))))))))))))).1, dF'⟩ (by rfl) (by rfl) ⟨_, (N14 _ (.tail _ (.tail _ (.tail _ (.tail _ (.tail _ (.tail _ (.tail _ (.tail _ (.tail _ (.tail _ (.tail _ (.tail _ (.tail _ (.head _))))))))))))))).1, dR⟩ (by omega) (by omega) (idx_local (by rfl) (by rfl) (by decide) (hoC.ns PC.1) (hm2.trans (congrArg (fun z => some (Value.int z tv)) (by push_cast; omega)))) (fun tk15 t15 => ?_)
        exact cend F14 N14 off trivial (fun _ _ e => e) ⟨rfl, dk_step rfl hys⟩
      · rintro ys nw ⟨rfl, hys⟩
        intro D h14 tk14 F14 N14 o14
        exact hR h14 tk14 D ys (by rw [dkI_eq]; exact hys) F14 o14 N14
    rintro h17 t17 D2 dkv2 hdk2 F17 offD2 N17
    dsimp only
    clear F16 N16
    have hfl : f * c % (M + 1) < M + 1 := Nat.mod_lt _ (Nat.succ_pos _)
    have hgf := unit_ok hMq hg1
    generalize hf' : f * c % (M + 1) = f' at hdk2 hfl hgf hlp dF'
    have hM20 := hMs.2
    have hdl2 : dkv2.length = M := by rw [hdk2.length, dkI, List.length_map, dk_len]
    have hlpl : lp.length = M := by
      have := congrArg List.length hlp
      simpa [pks, dk_len] using this
    have hlnl : ln8.length = M + 1 := by
      have := congrArg List.length hln
      simpa [nms_len] using this
    refine wpN_execs_cons (wpN_any ?_)
    refine cpsA (fun R : Flow → Shared → Prop => ∀ (h : Heap) (tk : Nat), (Fr g L' h (fun z => if z = "deck" then some (.ref D2) else m12 z)) → (News g L' h ((D2, LCg.lst dkv2) :: (PK, LCg.lst (strValues lp)) :: (Dk, LCg.lst dkv) :: (Sz, LCg.lst szv) :: (nA, { cls := .type "list", data := .seq (strValues ln8).toArray nn8 }) :: (140, { cls := .none, data := .fields pa3 }) :: (147, { cls := .none, data := .fields pb3 }) :: (L' + 1 + 1 + 1 + 1 + 1 + 1, o1') :: (L' + 1 + 1 + 1 + 1 + 1, o2') :: (L' + 1 + 1 + 1 + 1, oF') :: (L' + 1 + 1 + 1, oN) :: (L' + 1 + 1, oR) :: (L' + 1, oM) :: (I, oI) :: (SL, oSL) :: [])) → R .next ⟨h, g13, d13, tk, o13⟩) ?_ ?_
    · --OK
      intro R hR
      repeat' (((fail_if_success with_reducible first | refine gdW ?_ | refine gdF ?_ | refine gdL ?_ | refine gdT ?_ | refine gdC ?_ | refine gdM (by decide) ?_ | show PySem.wpAt _ _ _ _ _ _ _); first | walk1 | (dsimp only; walk1)))
      all_goals (try k_data)
      refine LCg.ListComp_U (F₀ := F17) (by with_unfolding_all rfl) (by decide) (by rfl) (by decide) (by rfl) ?_
      repeat' (((fail_if_success with_reducible first | refine gdW ?_ | refine gdF ?_ | refine gdL ?_ | refine gdT ?_ | refine gdC ?_ | refine gdM (by decide) ?_ | show PySem.wpAt _ _ _ _ _ _ _); first | walk1 | (dsimp only; walk1)))
      all_goals (try k_data)
      with_reducible rename Fr _ _ _ _ => F18
      with_reducible rename News _ _ _ _ => N18
      refine LCg.CompSrc.ledger (A := A.deeper _) hh F18 N18 (.head _) (by rw [PySem.sizeLine_eq]; simp [hdl2]; omega) (fun gg => ?_)
      refine kcg (fun i ys nw => nw = _ ∧ ∃ l : List (Str × Tok), ys = strValues l ∧ l.map (·.1) = (List.range i).map fun k => (nms M).getD (f' * (k + 1) % (M + 1)) (Str.ofString "")) ⟨rfl, [], rfl, rfl⟩ ?_ ?_
      · rintro i ys nw v IC oIC C oC Dl m2' h14 tk14 E' hi hv ⟨rfl, l, rfl, hl⟩ hoC hm2 F14 N14 off nes
        have hi' : i < M := by simpa [hdl2] using hi
        refine hideG (fun Gz hGz => ?_)
        obtain ⟨y, ty, hy1, hy2⟩ := hdk2.at i dkv2[i] (List.getElem?_eq_getElem (by omega))
        obtain rfl : v = dkv2[i] := by
          have hv' : dkv2.toArray[i]? = some v := hv
          rw [List.getElem?_toArray, List.getElem?_eq_getElem (by omega)] at hv'
          exact (Option.some.inj hv').symm
        rw [dkI_eq, List.getElem?_map, List.getElem?_range hi'] at hy2
        obtain rfl := Option.some.inj hy2
        refine hGz ?_
        clear hGz Gz
        have hlt : f' * (i + 1) % (M + 1) < M + 1 := Nat.mod_lt _ (Nat.succ_pos _)
        have PC := N14 _ (.tail _ (.head _))
        refine cell_sub (cP := L' + 1 + 1 + 1) (PK := nA) (lp := ln8) (n := nn8) (k := f' * (i + 1) % (M + 1)) (by rfl) (by rfl) (by rfl) (by decide) ⟨_, (N14 _ (.tail _ (.tail _ (.tail _ (.tail _ (.tail _ (.tail _ (.tail _ (.tail _ (.tail _ (.tail _ (.tail _ (.tail _ (.tail _ (.head _))))))))))))))).1, dN⟩ (N14 _ (.tail _ (.tail _ (.tail _ (.tail _ (.tail _ (.tail _ (.tail _ (.head _))))))))).1 (by omega) (by omega) (idx_local (by rfl) (by rfl) (by decide) (hoC.ns PC.1) (hm2.trans (congrArg some hy1))) (fun tk15 t15 => ?_)
        exact cend F14 N14 off (.inr ⟨_, .head _, rfl, _, rfl⟩) (fun _ _ e => e) ⟨rfl, _, str_snoc _ _ _, names_step hln hl⟩
      · rintro ys nw ⟨rfl, l, rfl, hl⟩
        intro D h14 tk14 F14 N14 o14
        refine ne_strs (l1 := lp) (l2 := l) ⟨_, (N14 _ (.tail _ (.tail _ (.head _)))).1, rfl, _, rfl⟩ ⟨_, (N14 _ (.head _)).1, rfl, _, rfl⟩ (names_all (by rw [List.size_toArray]; exact hdl2) hlp hl) (by show A.units + 3 < 9900; omega) ?_
        repeat' (((fail_if_success with_reducible first | refine gdW ?_ | refine gdF ?_ | refine gdL ?_ | refine gdT ?_ | refine gdC ?_ | refine gdM (by decide) ?_ | show PySem.wpAt _ _ _ _ _ _ _); first | walk1 | (dsimp only; walk1)))
        all_goals (try k_data)
        exact hR _ _ F14 (fun p hp => N14 p (.tail _ hp))
    rintro h18 t18 F18 N18
    dsimp only
    clear F17 N17
    have hrz1 : Builtin.Range.rangeSize 1 ((M : Nat) : Int) 1 = ((M - 1 : Nat) : Int) := by rw [rangeSize_one]; split <;> omega
    have hrz0 : Builtin.Range.rangeSize 0 ((M : Nat) : Int) 1 = ((M : Nat) : Int) := by rw [rangeSize_one]; split <;> omega
    refine wpN_execs_cons (wpN_any ?_)
    refine cpsA (fun R : Flow → Shared → Prop => ∀ (h : Heap) (tk : Nat) (St : Addr) (stv : List Value), (IntsAre stv (stepsOf M f')) → (Fr g L' h (fun z => if z = "steps" then some (.ref St) else if z = "deck" then some (.ref D2) else m12 z)) → (LCg.Off1 St ((D2, LCg.lst dkv2) :: (PK, LCg.lst (strValues lp)) :: (Dk, LCg.lst dkv) :: (Sz, LCg.lst szv) :: (nA, { cls := .type "list", data := .seq (strValues ln8).toArray nn8 }) :: (140, { cls := .none, data := .fields pa3 }) :: (147, { cls := .none, data := .fields pb3 }) :: (L' + 1 + 1 + 1 + 1 + 1 + 1, o1') :: (L' + 1 + 1 + 1 + 1 + 1, o2') :: (L' + 1 + 1 + 1 + 1, oF') :: (L' + 1 + 1 + 1, oN) :: (L' + 1 + 1, oR) :: (L' + 1, oM) :: (I, oI) :: (SL, oSL) :: [])) → (News g L' h ((St, LCg.lst stv) :: (D2, LCg.lst dkv2) :: (PK, LCg.lst (strValues lp)) :: (Dk, LCg.lst dkv) :: (Sz, LCg.lst szv) :: (nA, { cls := .type "list", data := .seq (strValues ln8).toArray nn8 }) :: (140, { cls := .none, data := .fields pa3 }) :: (147, { cls := .none, data := .fields pb3 }) :: (L' + 1 + 1 + 1 + 1 + 1 + 1, o1') :: (L' + 1 + 1 + 1 + 1 + 1, o2') :: (L' + 1 + 1 + 1 + 1, oF') :: (L' + 1 + 1 + 1, oN) :: (L' + 1 + 1, oR) :: (L' + 1, oM) :: (I, oI) :: (SL, oSL) :: [])) → R .next ⟨h, g13, d13, tk, o13⟩) ?_ ?_
    · --OK
      intro R hR
      refine LCg.Assign_ListComp_U (F₀ := F18) rfl (by with_unfolding_all rfl) (by with_unfolding_all rfl) (by decide) (by rfl) (by decide) (by rfl) (by rfl) (by rfl) ?_
      repeat' (((fail_if_success with_reducible first | refine gdW ?_ | refine gdF ?_ | refine gdL ?_ | refine gdT ?_ | refine gdC ?_ | refine gdM (by decide) ?_ | show PySem.wpAt _ _ _ _ _ _ _); first | walk1 | (dsimp only; walk1)))
      all_goals (try k_data)
      with_reducible rename Fr _ _ _ _ => F19
      with_reducible rename News _ _ _ _ => N19
      with_reducible rename IsRange _ _ _ _ _ _ _ _ => R19
      refine LCg.CompSrc.range (A := A.deeper _) hh F19 N19 R19 (small_of (by omega) (by omega) (by omega) (by omega) (by omega) (by omega) hrz1 (by omega)) hrz1 (by rw [PySem.sizeLine_eq]; omega) (fun gg => ?_)
      refine kcg (fun i ys nw => nw = _ ∧ IntsAre ys ((List.range i).map fun p => strcollI ((pks M f').getD p (Str.ofString "")) ((pks M f').getD (p + 1) (Str.ofString "")))) ⟨rfl, .nil⟩ ?_ ?_
      · rintro i ys nw v IC oIC C oC Dl m2' h14 tk14 E' hi ⟨tv, rfl⟩ ⟨rfl, hys⟩ hoC hm2 F14 N14 off nes
        have PC := N14 _ (.tail _ (.head _))
        have O14 : Ok w mg mb h14 := ok_news X' T' M4 F14 (news_two N14 (by repeat' (first | exact List.Mem.head _ | refine List.Mem.tail _ ?_)) (by repeat' (first | exact List.Mem.head _ | refine List.Mem.tail _ ?_)) : News g L' _ [(140, { cls := .none, data := .fields pa3 }), (147, { cls := .none, data := .fields pb3 })]) tA3 tB3
        refine step_elt (cP := L' + 1 + 1 + 1 + 1 + 1 + 1) (PK := PK) (lp := lp) (k := i) (by exact O14) (by show A.depth + 1 + 1 < _; omega) (by rfl) (by rfl) (by rfl) (by rfl) (by rfl) (by rfl) ⟨_, (N14 _ (.tail _ (.tail _ (.tail _ (.tail _ (.tail _ (.tail _ (.tail _ (.tail _ (.tail _ (.tail _ (.head _)))))))))))).1, d1'⟩ (N14 _ (.tail _ (.tail _ (.tail _ (.tail _ (.head _)))))).1 (by omega) (by omega) (hoC.ns PC.1) (hm2.trans (congrArg (fun z => some (Value.int z tv)) (by push_cast; omega))) (fun s Q h => wpAny_Constant_int (h _ _)) (fun h15 tk15 t15 k15 => ?_)
        refine cend F14 N14 off trivial k15 ⟨rfl, ?_⟩
        rw [List.range_succ, List.map_append, hlp]
        exact IntsAre.append hys (.cons _ t15 .nil)
      · rintro ys nw ⟨rfl, hys⟩
        intro D h14 tk14 F14 N14 o14
        exact hR h14 tk14 D ys hys F14 o14 N14
    rintro h19 t19 St stv hst F19 offSt N19
    dsimp only
    clear F18 N18
    refine wpN_execs_cons (wpN_any ?_)
    refine cpsA (fun R : Flow → Shared → Prop => ∀ (h : Heap) (tk : Nat) (Co : Addr) (cov : List Value), (IntsAre cov (costsOf M f')) → (Fr g L' h (fun z => if z = "costs" then some (.ref Co) else if z = "steps" then some (.ref St) else if z = "deck" then some (.ref D2) else m12 z)) → (LCg.Off1 Co ((St, LCg.lst stv) :: (D2, LCg.lst dkv2) :: (PK, LCg.lst (strValues lp)) :: (Dk, LCg.lst dkv) :: (Sz, LCg.lst szv) :: (nA, { cls := .type "list", data := .seq (strValues ln8).toArray nn8 }) :: (140, { cls := .none, data := .fields pa3 }) :: (147, { cls := .none, data := .fields pb3 }) :: (L' + 1 + 1 + 1 + 1 + 1 + 1, o1') :: (L' + 1 + 1 + 1 + 1 + 1, o2') :: (L' + 1 + 1 + 1 + 1, oF') :: (L' + 1 + 1 + 1, oN) :: (L' + 1 + 1, oR) :: (L' + 1, oM) :: (I, oI) :: (SL, oSL) :: [])) → (News g L' h ((Co, LCg.lst cov) :: (St, LCg.lst stv) :: (D2, LCg.lst dkv2) :: (PK, LCg.lst (strValues lp)) :: (Dk, LCg.lst dkv) :: (Sz, LCg.lst szv) :: (nA, { cls := .type "list", data := .seq (strValues ln8).toArray nn8 }) :: (140, { cls := .none, data := .fields pa3 }) :: (147, { cls := .none, data := .fields pb3 }) :: (L' + 1 + 1 + 1 + 1 + 1 + 1, o1') :: (L' + 1 + 1 + 1 + 1 + 1, o2') :: (L' + 1 + 1 + 1 + 1, oF') :: (L' + 1 + 1 + 1, oN) :: (L' + 1 + 1, oR) :: (L' + 1, oM) :: (I, oI) :: (SL, oSL) :: [])) → R .next ⟨h, g13, d13, tk, o13⟩) ?_ ?_
    · --OK
      intro R hR
      refine LCg.Assign_ListComp_U (F₀ := F19) rfl (by with_unfolding_all rfl) (by with_unfolding_all rfl) (by decide) (by rfl) (by decide) (by rfl) (by rfl) (by rfl) ?_
      repeat' (((fail_if_success with_reducible first | refine gdW ?_ | refine gdF ?_ | refine gdL ?_ | refine gdT ?_ | refine gdC ?_ | refine gdM (by decide) ?_ | show PySem.wpAt _ _ _ _ _ _ _); first | walk1 | (dsimp only; walk1)))
      all_goals (try k_data)
      with_reducible rename Fr _ _ _ _ => F20
      with_reducible rename News _ _ _ _ => N20
      with_reducible rename IsRange _ _ _ _ _ _ _ _ => R20
      refine LCg.CompSrc.range (A := A.deeper _) hh F20 N20 R20 (small_of (by omega) (by omega) (by omega) (by omega) (by omega) (by omega) hrz0 (by omega)) hrz0 (by rw [PySem.sizeLine_eq]; omega) (fun gg => ?_)
      refine kcg (fun i ys nw => nw = _ ∧ IntsAre ys ((List.range i).map fun p => substI ((nms M).getD (p + 1) (Str.ofString "")) ((pks M f').getD p (Str.ofString "")))) ⟨rfl, .nil⟩ ?_ ?_
      · rintro i ys nw v IC oIC C oC Dl m2' h14 tk14 E' hi ⟨tv, rfl⟩ ⟨rfl, hys⟩ hoC hm2 F14 N14 off nes
        have PC := N14 _ (.tail _ (.head _))
        have O14 : Ok w mg mb h14 := ok_news X' T' M4 F14 (news_two N14 (by repeat' (first | exact List.Mem.head _ | refine List.Mem.tail _ ?_)) (by repeat' (first | exact List.Mem.head _ | refine List.Mem.tail _ ?_)) : News g L' _ [(140, { cls := .none, data := .fields pa3 }), (147, { cls := .none, data := .fields pb3 })]) tA3 tB3
        refine cost_elt (cP := L' + 1 + 1 + 1 + 1 + 1 + 1) (PK := PK) (lp := lp) (cN := L' + 1 + 1 + 1) (NA := nA) (ln := ln8) (n2 := nn8) (k := i) (by exact O14) (by show A.depth + 1 + 1 < _; omega) (by rfl) (by rfl) (by rfl) (by rfl) (by rfl) (by rfl) (by rfl) (by rfl) ⟨_, (N14 _ (.tail _ (.tail _ (.tail _ (.tail _ (.tail _ (.tail _ (.tail _ (.tail _ (.tail _ (.tail _ (.tail _ (.head _))))))))))))).1, d1'⟩ (N14 _ (.tail _ (.tail _ (.tail _ (.tail _ (.tail _ (.head _))))))).1 ⟨_, (N14 _ (.tail _ (.tail _ (.tail _ (.tail _ (.tail _ (.tail _ (.tail _ (.tail _ (.tail _ (.tail _ (.tail _ (.tail _ (.tail _ (.tail _ (.head _)))))))))))))))).1, dN⟩ (N14 _ (.tail _ (.tail _ (.tail _ (.tail _ (.tail _ (.tail _ (.tail _ (.tail _ (.head _)))))))))).1 (by omega) (by omega) (by omega) (by omega) (fun x hx => pks_len hM (hlp ▸ hx)) (fun x hx => nms_len6 hM (hln ▸ hx)) (hoC.ns PC.1) (hm2.trans (congrArg (fun z => some (Value.int z tv)) (by omega))) (fun s Q h => wpAny_Constant_int (h _ _)) (fun h15 tk15 t15 k15 => ?_)
        refine cend F14 N14 off trivial k15 ⟨rfl, ?_⟩
        rw [List.range_succ, List.map_append, hlp, hln]
        exact IntsAre.append hys (.cons _ t15 .nil)
      · rintro ys nw ⟨rfl, hys⟩
        intro D h14 tk14 F14 N14 o14
        exact hR h14 tk14 D ys hys F14 o14 N14
    rintro h20 t20 Co cov hco F20 offCo N20
    dsimp only
    clear F19 N19
    have hsl : stv.length = M - 1 := by rw [hst.length, stepsOf, List.length_map, List.length_range]
    have hcl : cov.length = M := by rw [hco.length, costsOf, List.length_map, List.length_range]
    refine wpN_execs_cons (wpN_any ?_)
    refine cpsA (fun R : Flow → Shared → Prop => ∀ (h : Heap) (tk : Nat), (Fr g L' h (fun z => if z = "costs" then some (.ref Co) else if z = "steps" then some (.ref St) else if z = "deck" then some (.ref D2) else m12 z)) → (News g L' h ((Co, LCg.lst cov) :: (St, LCg.lst stv) :: (D2, LCg.lst dkv2) :: (PK, LCg.lst (strValues lp)) :: (Dk, LCg.lst dkv) :: (Sz, LCg.lst szv) :: (nA, { cls := .type "list", data := .seq (strValues ln8).toArray nn8 }) :: (140, { cls := .none, data := .fields pa3 }) :: (147, { cls := .none, data := .fields pb3 }) :: (L' + 1 + 1 + 1 + 1 + 1 + 1, o1') :: (L' + 1 + 1 + 1 + 1 + 1, o2') :: (L' + 1 + 1 + 1 + 1, oF') :: (L' + 1 + 1 + 1, oN) :: (L' + 1 + 1, oR) :: (L' + 1, oM) :: (I, oI) :: (SL, oSL) :: [])) → R .next ⟨h, g13, d13, tk, o13⟩) ?_ ?_
    · --OK
      intro R hR
      repeat' (((fail_if_success with_reducible first | refine gdN ?_ | refine gdI ?_ | refine gdB ?_ | show wpAny _ _ (getMethod (.ref _) (Str.ofString "count") _) _ _ _ | show LCg.CompSrc _ _ _ _ _ _ _ _ _ _ _ _ _ _); ((fail_if_success with_reducible first | refine gdW ?_ | refine gdF ?_ | refine gdL ?_ | refine gdT ?_ | refine gdC ?_ | refine gdM (by decide) ?_ | show PySem.wpAt _ _ _ _ _ _ _); first | walk1 | (dsimp only; walk1))))
      all_goals (try k_data)
      refine LCg.ListComp_U (F₀ := F20) (by with_unfolding_all rfl) (by decide) (by rfl) (by decide) (by rfl) ?_
      repeat' (((fail_if_success with_reducible first | refine gdN ?_ | refine gdI ?_ | refine gdB ?_ | show wpAny _ _ (getMethod (.ref _) (Str.ofString "count") _) _ _ _ | show LCg.CompSrc _ _ _ _ _ _ _ _ _ _ _ _ _ _); ((fail_if_success with_reducible first | refine gdW ?_ | refine gdF ?_ | refine gdL ?_ | refine gdT ?_ | refine gdC ?_ | refine gdM (by decide) ?_ | show PySem.wpAt _ _ _ _ _ _ _); first | walk1 | (dsimp only; walk1))))
      all_goals (try k_data)
      with_reducible rename Fr _ _ _ _ => F21
      with_reducible rename News _ _ _ _ => N21
      refine LCg.CompSrc.ledger (A := A.deeper _) hh F21 N21 (.head _) (by rw [PySem.sizeLine_eq]; simp [hsl, hcl]; omega) (fun gg => ?_)
      refine kcg (fun i ys nw => nw = _ ∧ ys = List.replicate i (Value.type "int")) ⟨rfl, rfl⟩ ?_ ?_
      · rintro i ys nw v IC oIC C oC Dl m2' h14 tk14 E' hi hv ⟨rfl, rfl⟩ hoC hm2 F14 N14 off nes
        refine hideG (fun Gz hGz => ?_)
        obtain ⟨z2, t2, rfl⟩ := ints_at2 hst hco (by simp) hv
        refine hGz ?_
        clear hGz Gz
        have PC := N14 _ (.tail _ (.head _))
        have O14 : Ok w mg mb h14 := ok_news X' T' M4 F14 (news_two N14 (by repeat' (first | exact List.Mem.head _ | refine List.Mem.tail _ ?_)) (by repeat' (first | exact List.Mem.head _ | refine List.Mem.tail _ ?_)) : News g L' _ [(140, { cls := .none, data := .fields pa3 }), (147, { cls := .none, data := .fields pb3 })]) tA3 tB3
        refine type_elt (A := A.deeper _) (by exact O14) (by rfl) (by rfl) (by rfl) (by decide) (by rfl) (by rfl) (hoC.ns PC.1) hm2 ?_
        exact cend F14 N14 off (.inr ⟨_, .head _, rfl, _, rfl⟩) (fun _ _ e => e) ⟨rfl, (rep_int i).symm⟩
      · rintro ys nw ⟨rfl, rfl⟩
        intro D h14 tk14 F14 N14 o14
        repeat' (((fail_if_success with_reducible first | refine gdN ?_ | refine gdI ?_ | refine gdB ?_ | show wpAny _ _ (getMethod (.ref _) (Str.ofString "count") _) _ _ _ | show LCg.CompSrc _ _ _ _ _ _ _ _ _ _ _ _ _ _); ((fail_if_success with_reducible first | refine gdW ?_ | refine gdF ?_ | refine gdL ?_ | refine gdT ?_ | refine gdC ?_ | refine gdM (by decide) ?_ | show PySem.wpAt _ _ _ _ _ _ _); first | walk1 | (dsimp only; walk1))))
        all_goals (try k_data)
        with_reducible rename Fr _ _ _ _ => F15
        with_reducible rename News _ _ _ _ => N15
        refine ne_types (T := "int") (m := (2 * (M : Int) - 1).toNat) ⟨_, (N15 _ (.tail _ (.tail _ (.head _)))).1, rfl, _, rfl⟩ ⟨_, (N15 _ (.head _)).1, rfl, _, rep_data⟩ (rep_size (by simp) hsl hcl hMs.1) (units_ok hu) ?_
        repeat' (((fail_if_success with_reducible first | refine gdN ?_ | refine gdI ?_ | refine gdB ?_ | show wpAny _ _ (getMethod (.ref _) (Str.ofString "count") _) _ _ _ | show LCg.CompSrc _ _ _ _ _ _ _ _ _ _ _ _ _ _); ((fail_if_success with_reducible first | refine gdW ?_ | refine gdF ?_ | refine gdL ?_ | refine gdT ?_ | refine gdC ?_ | refine gdM (by decide) ?_ | show PySem.wpAt _ _ _ _ _ _ _); first | walk1 | (dsimp only; walk1))))
        all_goals (try k_data)
        exact hR _ _ F15 (fun p hp => N15 p (.tail _ (.tail _ (.tail _ (.tail _ hp)))))
    rintro h21 t21 F21 N21
    dsimp only
    clear F20 N20
    have hcnt := counts_ok M hM f' hfl hgf
    refine wpN_execs_cons (wpN_any ?_)
    refine cpsA (fun R : Flow → Shared → Prop => ∀ (h : Heap) (tk : Nat), (Fr g L' h (fun z => if z = "costs" then some (.ref Co) else if z = "steps" then some (.ref St) else if z = "deck" then some (.ref D2) else m12 z)) → (News g L' h ((Co, LCg.lst cov) :: (St, LCg.lst stv) :: (D2, LCg.lst dkv2) :: (PK, LCg.lst (strValues lp)) :: (Dk, LCg.lst dkv) :: (Sz, LCg.lst szv) :: (nA, { cls := .type "list", data := .seq (strValues ln8).toArray nn8 }) :: (140, { cls := .none, data := .fields pa3 }) :: (147, { cls := .none, data := .fields pb3 }) :: (L' + 1 + 1 + 1 + 1 + 1 + 1, o1') :: (L' + 1 + 1 + 1 + 1 + 1, o2') :: (L' + 1 + 1 + 1 + 1, oF') :: (L' + 1 + 1 + 1, oN) :: (L' + 1 + 1, oR) :: (L' + 1, oM) :: (I, oI) :: (SL, oSL) :: [])) → R .next ⟨h, g13, d13, tk, o13⟩) ?_ ?_
    · --OK
      intro R hR
      repeat' (((fail_if_success with_reducible first | refine gdN ?_ | refine gdI ?_ | refine gdB ?_ | show wpAny _ _ (getMethod (.ref _) (Str.ofString "count") _) _ _ _ | show LCg.CompSrc _ _ _ _ _ _ _ _ _ _ _ _ _ _); ((fail_if_success with_reducible first | refine gdW ?_ | refine gdF ?_ | refine gdL ?_ | refine gdT ?_ | refine gdC ?_ | refine gdM (by decide) ?_ | show PySem.wpAt _ _ _ _ _ _ _); first | walk1 | (dsimp only; walk1))))
      all_goals (try k_data)
      refine getMethod_list_of PySem.F.slot_list_count PySem.F.type_list_count ⟨_, (N21 _ (.tail _ (.head _))).1, rfl, _, rfl⟩ ⟨_, (N21 _ (.tail _ (.head _))).1, rfl⟩ ?_
      repeat' (((fail_if_success with_reducible first | refine gdN ?_ | refine gdI ?_ | refine gdB ?_ | show wpAny _ _ (getMethod (.ref _) (Str.ofString "count") _) _ _ _ | show LCg.CompSrc _ _ _ _ _ _ _ _ _ _ _ _ _ _); ((fail_if_success with_reducible first | refine gdW ?_ | refine gdF ?_ | refine gdL ?_ | refine gdT ?_ | refine gdC ?_ | refine gdM (by decide) ?_ | show PySem.wpAt _ _ _ _ _ _ _); first | walk1 | (dsimp only; walk1))))
      all_goals (try k_data)
      refine count_list_ints (vs := stv) (ns := stepsOf M f') ⟨_, (N21 _ (.tail _ (.head _))).1, rfl, _, rfl⟩ hst ?_
      repeat' (((fail_if_success with_reducible first | refine gdN ?_ | refine gdI ?_ | refine gdB ?_ | show wpAny _ _ (getMethod (.ref _) (Str.ofString "count") _) _ _ _ | show LCg.CompSrc _ _ _ _ _ _ _ _ _ _ _ _ _ _); ((fail_if_success with_reducible first | refine gdW ?_ | refine gdF ?_ | refine gdL ?_ | refine gdT ?_ | refine gdC ?_ | refine gdM (by decide) ?_ | show PySem.wpAt _ _ _ _ _ _ _); first | walk1 | (dsimp only; walk1))))
      all_goals (try k_data)
      refine ne_int_f (cnt1 hcnt.1 (unit_pos hMs.1 hgf)) ?_
      repeat' (((fail_if_success with_reducible first | refine gdN ?_ | refine gdI ?_ | refine gdB ?_ | show wpAny _ _ (getMethod (.ref _) (Str.ofString "count") _) _ _ _ | show LCg.CompSrc _ _ _ _ _ _ _ _ _ _ _ _ _ _); ((fail_if_success with_reducible first | refine gdW ?_ | refine gdF ?_ | refine gdL ?_ | refine gdT ?_ | refine gdC ?_ | refine gdM (by decide) ?_ | show PySem.wpAt _ _ _ _ _ _ _); first | walk1 | (dsimp only; walk1))))
      all_goals (try k_data)
      refine getMethod_list_of PySem.F.slot_list_count PySem.F.type_list_count ⟨_, (N21 _ (.tail _ (.head _))).1, rfl, _, rfl⟩ ⟨_, (N21 _ (.tail _ (.head _))).1, rfl⟩ ?_
      repeat' (((fail_if_success with_reducible first | refine gdN ?_ | refine gdI ?_ | refine gdB ?_ | show wpAny _ _ (getMethod (.ref _) (Str.ofString "count") _) _ _ _ | show LCg.CompSrc _ _ _ _ _ _ _ _ _ _ _ _ _ _); ((fail_if_success with_reducible first | refine gdW ?_ | refine gdF ?_ | refine gdL ?_ | refine gdT ?_ | refine gdC ?_ | refine gdM (by decide) ?_ | show PySem.wpAt _ _ _ _ _ _ _); first | walk1 | (dsimp only; walk1))))
      all_goals (try k_data)
      refine count_list_ints (vs := stv) (ns := stepsOf M f') ⟨_, (N21 _ (.tail _ (.head _))).1, rfl, _, rfl⟩ hst ?_
      repeat' (((fail_if_success with_reducible first | refine gdN ?_ | refine gdI ?_ | refine gdB ?_ | show wpAny _ _ (getMethod (.ref _) (Str.ofString "count") _) _ _ _ | show LCg.CompSrc _ _ _ _ _ _ _ _ _ _ _ _ _ _); ((fail_if_success with_reducible first | refine gdW ?_ | refine gdF ?_ | refine gdL ?_ | refine gdT ?_ | refine gdC ?_ | refine gdM (by decide) ?_ | show PySem.wpAt _ _ _ _ _ _ _); first | walk1 | (dsimp only; walk1))))
      all_goals (try k_data)
      refine ne_int_f (cnt2 hcnt.2 hfl) ?_
      repeat' (((fail_if_success with_reducible first | refine gdN ?_ | refine gdI ?_ | refine gdB ?_ | show wpAny _ _ (getMethod (.ref _) (Str.ofString "count") _) _ _ _ | show LCg.CompSrc _ _ _ _ _ _ _ _ _ _ _ _ _ _); ((fail_if_success with_reducible first | refine gdW ?_ | refine gdF ?_ | refine gdL ?_ | refine gdT ?_ | refine gdC ?_ | refine gdM (by decide) ?_ | show PySem.wpAt _ _ _ _ _ _ _); first | walk1 | (dsimp only; walk1))))
      all_goals (try k_data)
      exact hR _ _ F21 N21
    rintro h22 t22 F22 N22
    dsimp only
    clear F21 N21
    obtain ⟨f0, hf0⟩ := unit_pos hMs.1 hgf
    have hdd : A.depth + 1 + 1 < recursionLimit := by omega
    --B13
    have O22 := (ok_news X' T' M4 F22 (news_two N22 (by repeat' (first | exact List.Mem.head _ | refine List.Mem.tail _ ?_)) (by repeat' (first | exact List.Mem.head _ | refine List.Mem.tail _ ?_)) : News g L' _ [(140, { cls := .none, data := .fields pa3 }), (147, { cls := .none, data := .fields pb3 })]) tA3 tB3 : Ok w mg mb h22)
    refine wpN_execs_cons (wpN_Assign (wpN_any ?_))
    refine wpAny_BinOp (shared_elt (A := A.deeper _) (cR := L' + 1 + 1) (k := f0) (r := M + 1) (by exact O22) hdd hh (by rfl) (by rfl) (by rfl) (by rfl) (by rfl) ⟨_, (N22 _ (.tail _ (.tail _ (.tail _ (.tail _ (.tail _ (.tail _ (.tail _ (.tail _ (.tail _ (.tail _ (.tail _ (.tail _ (.tail _ (.head _))))))))))))))).1, dR⟩ (csub1 (by rfl) (by rfl) (by rfl) (by decide) ⟨_, (N22 _ (.tail _ (.tail _ (.tail _ (.tail _ (.tail _ (.tail _ (.tail _ (.tail _ (.tail _ (.tail _ (.tail _ (.head _))))))))))))).1, by rw [dF', hf0]⟩ (fun s Q h => wpAny_Constant_int (h _ _))) (fun h23 tk23 t23 k23 => wpAny_Constant_int (sub_int ?_)))
    have F23 := fr_kept F22 k23
    have N23 := news_kept N22 k23
    clear F22 N22 O22
    refine wpAny_storeName_local (by rfl) F23.ns (fun h24 hn24 hs24 => ?_) (by rfl)
    have F24 := fr_store F23 hn24 hs24
    have N24 := news_store N23 hs24
    clear F23 N23 hn24 hs24 k23
    dsimp only at F24 N24 ⊢
    have O24 := (ok_news X' T' M4 F24 (news_two N24 (by repeat' (first | exact List.Mem.head _ | refine List.Mem.tail _ ?_)) (by repeat' (first | exact List.Mem.head _ | refine List.Mem.tail _ ?_)) : News g L' _ [(140, { cls := .none, data := .fields pa3 }), (147, { cls := .none, data := .fields pb3 })]) tA3 tB3 : Ok w mg mb h24)
    refine wpN_execs_cons (wpN_Assign (wpN_any ?_))
    refine wpAny_BinOp (shared_elt (A := A.deeper _) (cR := L' + 1 + 1) (k := f' + 1) (r := M + 1) (by exact O24) hdd hh (by rfl) (by rfl) (by rfl) (by rfl) (by rfl) ⟨_, (N24 _ (.tail _ (.tail _ (.tail _ (.tail _ (.tail _ (.tail _ (.tail _ (.tail _ (.tail _ (.tail _ (.tail _ (.tail _ (.tail _ (.head _))))))))))))))).1, dR⟩ (cadd1 (by rfl) (by rfl) (by rfl) (by decide) ⟨_, (N24 _ (.tail _ (.tail _ (.tail _ (.tail _ (.tail _ (.tail _ (.tail _ (.tail _ (.tail _ (.tail _ (.tail _ (.head _))))))))))))).1, dF'⟩ (fun s Q h => wpAny_Constant_int (h _ _))) (fun h25 tk25 t25 k25 => wpAny_Constant_int (sub_int ?_)))
    have F25 := fr_kept F24 k25
    have N25 := news_kept N24 k25
    clear F24 N24 O24
    refine wpAny_storeName_local (by rfl) F25.ns (fun h26 hn26 hs26 => ?_) (by rfl)
    have F26 := fr_store F25 hn26 hs26
    have N26 := news_store N25 hs26
    clear F25 N25 hn26 hs26 k25
    dsimp only at F26 N26 ⊢
    have O26 := (ok_news X' T' M4 F26 (news_two N26 (by repeat' (first | exact List.Mem.head _ | refine List.Mem.tail _ ?_)) (by repeat' (first | exact List.Mem.head _ | refine List.Mem.tail _ ?_)) : News g L' _ [(140, { cls := .none, data := .fields pa3 }), (147, { cls := .none, data := .fields pb3 })]) tA3 tB3 : Ok w mg mb h26)
    refine wpN_execs_cons (wpN_any (wpAny_If (wpAny_isTrue_Compare1 ?_)))
    refine sum_elt (A := A.deeper _) (by exact O26) hh (by rfl) (by rfl) (by rfl) (by decide) (by rfl) (by rfl) F26.ns (by rfl) ⟨_, (N26 _ (.head _)).1, rfl, _, rfl⟩ hco (fun h27 tk27 t27 k27 => ?_)
    have F27 := fr_kept F26 k27
    have N27 := news_kept N26 k27
    clear F26 N26 O26 k27
    refine rhs_elt (cM := L' + 1) (by rfl) (by rfl) (by rfl) (by rfl) (by rfl) ⟨_, (N27 _ (.tail _ (.tail _ (.tail _ (.tail _ (.tail _ (.tail _ (.tail _ (.tail _ (.tail _ (.tail _ (.tail _ (.tail _ (.tail _ (.tail _ (.head _)))))))))))))))).1, dM⟩ F27.ns (by rfl) (by rfl) (fun tk28 t28 => ?_)
    refine ne_int_f (costs_eq hM hfl hgf hf0) ?_
    refine wpAny_truthy_bool ?_
    dsimp only
    rw [if_neg Bool.false_ne_true]
    refine wpAny_execs_nil ?_
    dsimp only
    refine wpN_any (wpAny_execs_nil ?_)
    refine hideG (fun Gz hGz => ?_)
    obtain ⟨-, -, -, -, a140, a147, a6, a5, a4, a3, a2, a1, aI', aSL', -⟩ := offD2
    refine hGz ?_
    clear hGz Gz
    refine hR0 _ ⟨⟨f', t16, _, D2, dkv2, o1', o2', oF', _, _, pa3, pb3, oI, F27, (if_neg (by decide)).trans ((if_neg (by decide)).trans ((if_neg (by decide)).trans ((if_neg (by decide)).trans ((if_neg (by decide)).trans (eb2'))))), (if_neg (by decide)).trans ((if_neg (by decide)).trans ((if_neg (by decide)).trans ((if_neg (by decide)).trans ((if_neg (by decide)).trans (er2'))))), (if_neg (by decide)).trans ((if_neg (by decide)).trans ((if_neg (by decide)).trans ((if_neg (by decide)).trans ((if_neg (by decide)).trans (es2'))))), rfl, news_sub N27 (.cons _ (.cons _ (.cons_cons _ (.cons _ (.cons _ (.cons_cons _ (.cons_cons _ (.cons_cons _ (.cons_cons _ (.cons_cons _ (.cons_cons _ (.cons_cons _ (.cons_cons _ (.cons_cons _ (.cons_cons _ (.cons _ (.cons _ .slnil))))))))))))))))), d1', d2', dF', hdk2, hgf, hfl, ⟨a140.symm, a147.symm, a1.symm, a2.symm, a3.symm, a4.symm, a5.symm, a6.symm⟩, ⟨aI'.symm, aSL'.symm⟩, tA3, tB3, hA3, hB3, hg3, ho3⟩, ⟨oI, (N27 _ (.tail _ (.tail _ (.tail _ (.tail _ (.tail _ (.tail _ (.tail _ (.tail _ (.tail _ (.tail _ (.tail _ (.tail _ (.tail _ (.tail _ (.tail _ (.head _))))))))))))))))).1, gI2⟩, oSL, (N27 _ (.tail _ (.tail _ (.tail _ (.tail _ (.tail _ (.tail _ (.tail _ (.tail _ (.tail _ (.tail _ (.tail _ (.tail _ (.tail _ (.tail _ (.tail _ (.tail _ (.head _)))))))))))))))))).1, gS2⟩
  · rintro s8 h9 tk9 ⟨f, tF, m, Dk9, dkv9, o1, o2, oF, x1, x2, pa2, pb2, oI0, F, eb, er, es, ed, N, d1, d2, dF, hdk9, hg1, hf, aDk9, nDk9, tA, tB, hA, hB, hgens, hos⟩ k9
    unfold Apart at aI
    have F9 := fr_wr F k9 (by simpa using hI1.symm) (by simpa using hI0)
    have N9 := news_wr (news_sub N (l' := [(140, { cls := .none, data := .fields pa2 }), (147, { cls := .none, data := .fields pb2 })]) (.cons _ (.cons _ (.cons _ (.cons_cons _ (.cons_cons _ (.cons _ (.cons _ (.cons _ (.cons _ (.cons _ (.cons _ .slnil)))))))))))) k9 (al1 (nin1 aI.1.symm) (al1 (nin1 aI.2.1.symm) al0))
    have T140 : ∀ ps, s.heap.get? 140 = some { cls := .none, data := .fields ps } → ps = pa := fun ps e => by
      have e1 := (hk _ _ e).symm.trans ea1
      simp only [Option.some.injEq, Obj.mk.injEq, Data.fields.injEq, true_and, and_true] at e1
      exact e1
    have T147 : ∀ ps, s.heap.get? 147 = some { cls := .none, data := .fields ps } → ps = pb := fun ps e => by
      have e1 := (hk _ _ e).symm.trans eb1
      simp only [Option.some.injEq, Obj.mk.injEq, Data.fields.injEq, true_and, and_true] at e1
      exact e1
    dsimp only
    refine wpN_any (wpAny_execs_cons (wpAny_Return_some (wpAny_Constant_bool ?_)))
    refine hQ _ ⟨fun b o _ hb e => F9.keep b o (by rw [hg]; exact hideAll_get _ e hb), al1 (fun ps e => ?_) (al1 (fun ps e => ?_) al0), hgens, hos⟩
    · obtain ⟨more, hA⟩ := hA
      refine ⟨more, ?_, ?_⟩
      · rw [T140 _ e.1, ← hA]
        exact (N9 _ (.head _)).1
      · rw [T140 _ e.1, ← hA]
        exact tA
    · obtain ⟨more, hB⟩ := hB
      refine ⟨more, ?_, ?_⟩
      · rw [T147 _ e.1, ← hB]
        exact (N9 _ (.tail _ (.head _))).1
      · rw [T147 _ e.1, ← hB]
        exact tB
end


theorem k39 (P : Params) : (Mine.hd.heap_1 P).map (fun p => (Mine.hd.heap_223 P).lookup p.1) = (Mine.hd.heap_1 P).map (fun p => some p.2) := by kernel_rfl
theorem in39 {P : Params} {h : Heap} (X : (Mine.hd.heap_223 P).In h) : (Mine.hd.heap_1 P).In h := by
  intro a o e
  obtain ⟨l1, l2, h1, -⟩ := List.lookup_eq_some_iff.mp e
  have hm : (a, o) ∈ Mine.hd.heap_1 P := by rw [h1]; simp
  exact X a o (List.map_inj_left.mp (k39 P) _ hm)
theorem g_law {w : World} : nsIn (Mine.hd.heap_1 w.params) mainGlobals "law" = some (some (.ref 239)) := by k_is
theorem old_of {P : Params} {s s' : Shared} (X : (Mine.hd.heap_223 P).In s.heap) (hT : Tabs s.heap) (y : Ext [] s s') : OldK s.heap s'.heap := by
  have c144 : isCodeTable s.heap 140 := ⟨144, _, _, X 144 _ rfl, rfl, rfl, rfl⟩
  have c151 : isCodeTable s.heap 147 := ⟨151, _, _, X 151 _ rfl, rfl, rfl, rfl⟩
  obtain ⟨⟨pa, ea⟩, pb, eb⟩ := hT
  refine ⟨fun b o e => ?_, fun b o e => ?_⟩
  · by_cases h1 : b = 140
    · subst h1
      obtain ⟨m, e2, -⟩ := y.tab 140 (by simp [tabs]) pa ea
      obtain rfl : o = _ := Option.some.inj (e.symm.trans ea.1)
      exact .inr (.inl ⟨c144, rfl, pa, m, rfl, e2⟩)
    · by_cases h2 : b = 147
      · subst h2
        obtain ⟨m, e2, -⟩ := y.tab 147 (by simp [tabs]) pb eb
        obtain rfl : o = _ := Option.some.inj (e.symm.trans eb.1)
        exact .inr (.inl ⟨c151, rfl, pb, m, rfl, e2⟩)
      · exact .inl (y.keep b o (by simp) (by simp [tabs, h1, h2]) e)
  · by_cases h1 : b = 140
    · subst h1
      obtain ⟨m, e2, -⟩ := y.tab 140 (by simp [tabs]) pa ea
      exact ⟨_, e2⟩
    · by_cases h2 : b = 147
      · subst h2
        obtain ⟨m, e2, -⟩ := y.tab 147 (by simp [tabs]) pb eb
        exact ⟨_, e2⟩
      · exact ⟨o, y.keep b o (by simp) (by simp [tabs, h1, h2]) e⟩
theorem ok_of {w : World} {mg mb : Str → Option Value} {h : Heap} (X : (Mine.hd.heap_223 w.params).In h) (T : Top0 mg mb h) : Ok w mg mb h :=
  ⟨in39 X, T, ⟨⟨_, X 140 _ rfl, trivial⟩, ⟨_, X 147 _ rfl, trivial⟩⟩, X 4 _ rfl⟩
set_option maxHeartbeats 8000000 in
theorem rowHolds : PySem.Challenge.rw_xo0030_01.row.Holds := by
  refine Mine.hd ?_
  intro w s₀ s₁ mg mb G Y fa o pm cd doc dV kV ho hd hcd hD hmg hg args vals as L hpre hlay hrd hwl hlo
  have KX : (Mine.hd.heap_223 w.params).In s₁.heap := Frag.In.keeps (PySem.W.X.z_facts (K := Mine.hd.heap_223) (fun _ => by rfl) Y).2.1 L.keeps
  refine Ground.open G ?_
  intro T B D TE TW
  have T' := topRead_of T
  clear B D TE TW hD hd ho hcd
  have O : Ok w mg mb s₁.heap := ok_of KX T'
  wrow_args hpre hlay hrd hwl hlo
  rename_i xs _ _ _ _ _ _ _ sc vs _ hls _ _ _ hI _ hc _
  have hz : xs.length ≤ 63 := by omega
  have hfa : mg "law" = some (.ref 239) := mg_of O.frag O.T.g g_law
  obtain rfl : fa = 239 := by
    have e : some (Value.ref fa) = some (.ref 239) := hmg.symm.trans hfa
    exact Value.ref.inj (Option.some.inj e)
  have hgens : AllBare s₁.gens := by rw [hg]; exact AllBare.empty
  show wpN true (model PySem.Challenge.pw_xo0030_01 w) callerA (call (.ref 239) [.ref sc]) _ _ s₁
  refine law_wp (A := callerA) O (by decide) rfl (by decide) hls hI hz (fun s' y => ?_)
  exact ⟨.inl ⟨_, .bool true, [], rfl, fun _ => rfl, ReadsW.bool true, (by first | rfl | wrow_post), fun _ => ⟨List.nodup_nil, fun _ hm => nomatch hm⟩⟩, old_of KX O.P y, y.os, y.gens hgens⟩
theorem lawHolds : PySem.Challenge.rw_xo0030_01.Holds := holds_law (said_of rowHolds.1) fun _ => rowHolds


end Mine
theorem PySem.Challenge.cw_xo0030_01_holds : PySem.Challenge.rw_xo0030_01.Holds := by
  exact Mine.lawHolds
