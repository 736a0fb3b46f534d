import PyProof.Rows.All
import Wide.All
import OpenK.AllK
import Wide.FinOn
import PySem.Challenge.RW_ae5040_01
set_option Elab.async false
set_option linter.unusedVariables false

/- part G1 -/
section
open PySem PySem.W PyProof.Rows PySem.W.X
set_option maxRecDepth 100000
namespace Mine

section
variable {prog : Program} {w : World} {A : Around} {c : Code} {fs : List Frame} {P : End → Shared → Prop} {s : Shared} {env : Env}
  {K : Flow → Sem Fin} {H : Value → Sem Fin} {gd : Bool → Bool} {lv : List Value → List Value}

theorem sx_wrap {α : Type} {m : Sem α} {K : α → Sem Fin} {H : Value → Sem Fin} {gd : Bool → Bool} {lv : List Value → List Value}
    (h : wpAny (model prog w) (A.over c fs) m (fun a s' => SegX (model prog w) A c (K a) fs s' P) (fun x s' => SegX (model prog w) A c (H x) fs s' P) s) :
    SegX (model prog w) A c (m.wrap K H gd lv) fs s P := by
  rintro Γ p rfl hΓ
  obtain ⟨e, s', hr, hq⟩ := runs_wrap_of_wp (Φ := fun e s' => e.quiet = true ∧ P e s') K H gd lv m (h (Γ.over fs) p (hΓ.over fs)) (fun a p' s' h' => h' Γ p' rfl hΓ) (fun x p' s' h' => h' Γ p' rfl hΓ)
  exact ⟨e, s', hr, hq⟩

theorem sx_bind {α : Type} {m : Sem α} {K : α → Sem Fin}
    (h : wpAny (model prog w) (A.over c fs) m (fun a s' => SegX (model prog w) A c (K a) fs s' P) (fun x s' => SegX (model prog w) A c (.raise x) fs s' P) s) :
    SegX (model prog w) A c (m >>= K) fs s P := by
  rw [Sem.bind_eq_wrap']; exact sx_wrap h

theorem sx_at {p' : Pos} {k : Unit → Sem Fin} (h : SegX (model prog w) A c (k ()) fs s P) : SegX (model prog w) A c (.at p' k) fs s P :=
  sx_wrap (m := standAt p') (K := k) (H := .raise) (gd := id) (lv := id) (wpAny_standAt h)
theorem sx_point {l : List Value} {k : Unit → Sem Fin} (h : SegX (model prog w) A c (k ()) fs s P) : SegX (model prog w) A c (.point l k) fs s P :=
  sx_wrap (m := point) (K := k) (H := .raise) (gd := id) (lv := fun _ => l) (wpAny_point h)

theorem sx_execs_nil (h : SegX (model prog w) A c (K .next) fs s P) : SegX (model prog w) A c ((execs [] env).wrap K H gd lv) fs s P := h
theorem sx_execs_cons {st : Stmt} {rest : List Stmt}
    (h : SegX (model prog w) A c ((exec st env).wrap (fun f => match f with | .next => (execs rest env).wrap K H gd lv | f => K f) H gd lv) fs s P) :
    SegX (model prog w) A c ((execs (st :: rest) env).wrap K H gd lv) fs s P := by rw [execs_cons_wrap]; exact h

theorem sx_yield {v : Value} {g : Bool} {l : List Value} {k : Resume → Sem Fin} (hfs : splitAtGen fs = none) (hg : g = false) (hfg : fs.any Frame.guarded = false)
    (x : ∀ p, P (.susp v false l k c p fs) s) : SegX (model prog w) A c (.yield v g l k) fs s P := by
  subst hg
  exact s_yield prog w A c fs P s v l k hfs hfg x

/-- a statement that does not yield -/
theorem sx_stmt {st : Stmt} {K : Flow → Sem Fin}
    (h : wpAny (model prog w) (A.over c fs) (exec st env) (fun f s' => SegX (model prog w) A c (K f) fs s' P) (fun x s' => SegX (model prog w) A c (H x) fs s' P) s) :
    SegX (model prog w) A c ((exec st env).wrap K H gd lv) fs s P := sx_wrap h

theorem sx_If {test : Expr} {body orelse : List Stmt} {pos : Pos}
    (h : wpAny (model prog w) (A.over c fs) (isTrue test env (eval test env))
      (fun b s' => if b = true then SegX (model prog w) A c ((execs body env).wrap K H gd lv) fs s' P else SegX (model prog w) A c ((execs orelse env).wrap K H gd lv) fs s' P)
      (fun x s' => SegX (model prog w) A c (H x) fs s' P) s) :
    SegX (model prog w) A c ((exec (.If test body orelse pos) env).wrap K H gd lv) fs s P := by
  rw [exec_If]
  show SegX _ A c (.at pos fun _ => (isTrue test env (eval test env) >>= fun b => if b then execs body env else execs orelse env).wrap K H gd lv) fs s P
  refine sx_at ?_
  rw [Sem.bind_eq_wrap', Sem.wrap_wrap]
  refine sx_wrap (wpAny_mono h (fun b s' hb => ?_) fun _ _ x => x)
  cases b
  · exact hb
  · exact hb

theorem sx_Yield {e : Expr} {ypos pos : Pos} (hfs : splitAtGen fs = none) (hgd : gd false = false) (hfg : fs.any Frame.guarded = false)
    (h : wpAny (model prog w) (A.over c fs) (eval e env) (fun v s' => ∀ p l (k : Resume → Sem Fin), (∀ x s'' P', (match x with | .ref _ => False | _ => SegX (model prog w) A c (K .next) fs s'' P') → SegX (model prog w) A c (k (.send x)) fs s'' P') →
        P (.susp v false l k c p fs) s')
      (fun x s' => SegX (model prog w) A c (H x) fs s' P) s) (hco : env.scope.isCoroutine = false := by rfl) (hi : interactive env = false := by rfl) :
    SegX (model prog w) A c ((exec (.Expr (.Yield (some e) ypos) pos) env).wrap K H gd lv) fs s P := by
  rw [exec_Expr env _ pos hi rfl]
  show SegX _ A c (.at pos fun _ => ((eval e env >>= fun v => (standAt ypos >>= fun _ => yieldOut env v)) >>= fun x =>
    dropValue (.Yield (some e) ypos) pos x).wrap K H gd lv) fs s P
  have hy : ∀ v, yieldOut env v = yieldValue v := fun v => by simp only [yieldOut, hco, Bool.false_eq_true, if_false]
  simp only [hy]
  refine sx_at ?_
  rw [Sem.bind_eq_wrap', Sem.bind_eq_wrap', Sem.wrap_wrap, Sem.wrap_wrap]
  refine sx_wrap (wpAny_mono h (fun v s' h' => ?_) fun _ _ x => x)
  refine sx_at ?_
  refine sx_yield hfs hgd hfg (fun p => h' p _ _ fun x s'' P' hx => ?_)
  cases x <;> first | exact hx | exact hx.elim

theorem sx_For {target iter : Expr} {body orelse : List Stmt} {pos : Pos}
    (h : wpAny (model prog w) (A.over c fs) (eval iter env) (fun x s₁ => wpAny (model prog w) (A.over c fs) (pyIter x) (fun it s₂ =>
      ∀ p, SegX (model prog w) A (.forLoop target it body orelse env) (denote table (.forLoop target it body orelse env))
        (.ret (fun r => ((match r with | .ok f => (.pure f : Sem Flow) | .error e => .raise e).onRaise fun (x : Value) => do
          if (← field x 1) == Value.none then unsupported "frame.own-activation:exception-without-traceback"
          setFlight x env.frame).wrap K H gd lv) none (gd false) (lv []) c p [] :: fs) s₂ P)
      (fun x s' => SegX (model prog w) A c (H x) fs s' P) s₁) (fun x s' => SegX (model prog w) A c (H x) fs s' P) s)
    (hs : ∀ x, foldedSetIterable iter env x = pure x := by intro _; rfl) :
    SegX (model prog w) A c ((exec (.For target iter body orelse pos) env).wrap K H gd lv) fs s P := by
  rw [exec_For]
  show SegX _ A c (.at pos fun _ => ((eval iter env >>= fun x => foldedSetIterable iter env x >>= fun x => standAt iter.pos >>= fun _ =>
    (holding [x] (pyIter x)) >>= fun it => runOwn (.forLoop target it body orelse env) env)).wrap K H gd lv) fs s P
  refine sx_at ?_
  simp only [hs]
  rw [Sem.bind_eq_wrap', Sem.wrap_wrap]
  refine sx_wrap (wpAny_mono h (fun x s₁ h₁ => ?_) fun _ _ x => x)
  show SegX _ A c (.at iter.pos fun _ => ((holding [x] (pyIter x)) >>= fun it => runOwn (.forLoop target it body orelse env) env).wrap K H gd lv) fs s₁ P
  refine sx_at ?_
  rw [Sem.bind_eq_wrap', Sem.wrap_wrap]
  refine sx_wrap (wpAny_holding (wpAny_mono h₁ (fun it s₂ h₂ => ?_) fun _ _ x => x))
  exact s_call prog w A c fs P s₂ _ _ _ _ _ h₂

/-- what a for's turn hands on -/
def forK (c : Code) : Flow → Sem Fin
  | .next | .cont => .pure (.again c)
  | .brk => .pure (.done .next)
  | .ret v => .pure (.done (.ret v))
def forH (env : Env) (e : Value) : Sem Fin := (do noteFrame e env; theTreesLotGoes e : Sem Unit).wrap (fun _ => .raise e) .raise id id

theorem sx_forLoop {x : Str} {px : Pos} {it : Value} {body : List Stmt}
    (h : wpAny (model prog w) (A.over (.forLoop (.Name x px) it body [] env) fs) (pyNext it) (fun r s₁ => match r with
        | none => SegX (model prog w) A (.block [] env) (.pure (.done .next)) fs s₁ P
        | some v => wpAny (model prog w) (A.over (.forLoop (.Name x px) it body [] env) fs) (storeName env x v)
            (fun _ s₂ => SegX (model prog w) A (.forLoop (.Name x px) it body [] env) ((execs body env).wrap (forK (.forLoop (.Name x px) it body [] env)) (forH env) id id) fs s₂ P)
            (fun e s' => SegX (model prog w) A (.forLoop (.Name x px) it body [] env) (forH env e) fs s' P) s₁)
      (fun e s' => SegX (model prog w) A (.forLoop (.Name x px) it body [] env) (forH env e) fs s' P) s) :
    SegX (model prog w) A (.forLoop (.Name x px) it body [] env) (denote table (.forLoop (.Name x px) it body [] env)) fs s P := by
  show SegX _ A _ ((forTurn (.Name x px) it body [] env).onRaise (fun x => do noteFrame x env; theTreesLotGoes x)) fs s P
  have hH : (fun e => ((fun x => do noteFrame x env; theTreesLotGoes x : Value → Sem Unit) e).bind fun _ => (Sem.raise e : Sem Fin)) = forH env := by
    funext e
    unfold forH
    rw [Sem.bind_eq_wrap]
  have e0 : forTurn (.Name x px) it body [] env = (standAt (PySem.Expr.Name x px).pos >>= fun _ => (pyNext it).onRaise (fun _ => standAt { (PySem.Expr.Name x px).pos with line := 0 }) >>= fun r => match r with
    | none => again (.block [] env)
    | some v => (standAt px >>= fun _ => bindName env x v) >>= fun _ => execs body env >>= fun f => match f with
        | .next | .cont => again (.forLoop (.Name x px) it body [] env)
        | .brk => pure (.done .next)
        | .ret v => pure (.done (.ret v))) := by
    unfold forTurn
    refine congrArg _ (funext fun _ => congrArg _ (funext fun r => ?_))
    cases r <;> rfl
  rw [e0, Sem.onRaise_eq_wrap, hH, Sem.bind_eq_wrap', Sem.wrap_wrap]
  refine sx_wrap (wpAny_standAt ?_)
  rw [Sem.bind_eq_wrap', Sem.wrap_wrap]
  refine sx_wrap (wpAny_onRaise (wpAny_mono h (fun r s₁ h₁ => ?_) fun e s' h' => wpAny_standAt h'))
  cases r with
  | none =>
    refine s_again prog w A _ fs P s₁ _ rfl ?_
    exact h₁
  | some v =>
    show SegX _ A _ (Sem.wrap _ _ _ _ ((standAt px >>= fun _ => bindName env x v) >>= fun _ => (execs body env >>= _))) fs s₁ P
    rw [Sem.bind_eq_wrap', Sem.wrap_wrap]
    refine sx_wrap (wpAny_bind (wpAny_standAt (wpAny_bindName (wpAny_mono h₁ (fun _ s₂ h₂ => ?_) fun _ _ x => x))))
    rw [Sem.bind_eq_wrap', Sem.wrap_wrap]
    exact s_eq prog w A _ fs P s₂ _ _ (Sem.wrap_congr (execs body env) _ _ (fun f => by cases f <;> rfl) (fun _ => rfl)) h₂

/-- the head of a generator def's body -/
def funK : Flow → Sem Fin := fun f => .pure (.done (.ret (match f with | .ret v => v | _ => .none)))
def funH (env : Env) (e : Value) : Sem Fin := (leaving env e).wrap (fun _ => .raise e) .raise id id
theorem sx_func {body : List Stmt}
    (h : SegX (model prog w) A (.func body env) ((execs body env).wrap funK (funH env) id id) fs s P) :
    SegX (model prog w) A (.func body env) (denote table (.func body env)) fs s P := by
  show SegX _ A _ (.point [] fun _ => ((execs body env).onRaise (leaving env)) >>= _) fs s P
  refine sx_point ?_
  rw [Sem.onRaise_eq_wrap, Sem.bind_eq_wrap', Sem.wrap_wrap]
  rw [Sem.wrap_congr (execs body env) _ _ (K' := funK) (H' := funH env) (fun f => by cases f <;> rfl)
    (fun e => by rw [Sem.bind_eq_wrap, Sem.wrap_wrap]; rfl)]
  exact h
end
end Mine
end

/- part G2 -/
section
open PySem PySem.W PyProof.Rows PySem.W.X
set_option maxRecDepth 100000
namespace Mine

section
variable {prog : Program} {w : World} {A : Around} {P : End → Shared → Prop} {s : Shared} {E : Value → Shared → Prop}

/-- a generator's state, woken by a plain next -/
def Wake (prog : Program) (w : World) (A : Around) (gs : GenState) (s : Shared) (P : End → Shared → Prop) : Prop :=
  match gs with
  | .fresh c => SegX (model prog w) A c (denote table c) [] s P
  | .suspended k _ c _ fs _ => SegX (model prog w) A c (k (.send .none)) fs s P
  | _ => False

theorem Wake.mono {gs : GenState} {P P' : End → Shared → Prop} (x : Wake prog w A gs s P) (h : ∀ e s', e.quiet = true → P e s' → P' e s') : Wake prog w A gs s P' := by
  have key : ∀ {c : Code} {t : Sem Fin} {fs : List Frame}, SegX (model prog w) A c t fs s P → SegX (model prog w) A c t fs s P' := fun x Γ p hc hΓ => let ⟨e, s', hr, hq, hp⟩ := x Γ p hc hΓ; ⟨e, s', hr, hq, h e s' hq hp⟩
  cases gs <;> first | exact key x | exact x.elim

theorem wpAny_resume_wake {g : Nat} {gs : GenState} {l : List Value} {α : Type} {k : GenResult → Sem α} {Q : α → Shared → Prop} (hg : s.gens[g]? = some gs)
    (hgo : Wake prog w A gs (s.setGen g .running) (fun e s₁ => wpAny (model prog w) A (k e.result) Q E (s₁.setGen g e.genState))) :
    wpAny (model prog w) A (.resume g (.send .none) l k) Q E s := by
  intro Γ p hΓ
  cases gs with
  | fresh c => exact wake_any _ prog w hg (.inl ⟨rfl, rfl, rfl, rfl⟩) (fun Γ => Γ.In A) (fun _ h => h) (SegX.mono hgo fun e s' h Γ p hΓ => h Γ p hΓ) Γ p hΓ
  | suspended k₀ l₀ c₀ p₀ fs₀ cl => exact wake_any _ prog w hg (.inr ⟨k₀, l₀, p₀, cl, rfl, rfl⟩) (fun Γ => Γ.In A) (fun _ h => h) (SegX.mono hgo fun e s' h Γ p hΓ => h Γ p hΓ) Γ p hΓ
  | running => exact hgo.elim
  | finished => exact hgo.elim

/-- what a pyNext of a generator makes of the segment's end -/
def NextPost (a g : Nat) (Q : Option Value → Shared → Prop) (E : Value → Shared → Prop) : End → Shared → Prop
  | .susp v gd l k c p fs, s₁ => Q (some v) (s₁.setGen g (End.susp v gd l k c p fs).genState)
  | .ret (.ok (.ret .none)), s₁ => ∀ h', (∀ b o, s₁.heap.get? b = some o → h'.get? b = some o) → Q none { s₁.setGen g .finished with heap := h' }
  | .ret (.error (.ref x)), s₁ => (∃ o X, s₁.heap.get? x = some o ∧ o.cls = .type X ∧ isSubtype (.type X) (.type "StopIteration") = pure false) ∧ s₁.heap.IsGen a g ∧ E (.ref x) (s₁.setGen g .finished)
  | _, _ => False

theorem wpAny_pyNext_wake {a : Addr} {g : Nat} {gs : GenState} {Q : Option Value → Shared → Prop} (hh : A.handled = none)
    (hl : s.heap.NoLimit) (hroom : A.depth < recursionLimit) (hg : s.heap.IsGen a g) (hgs : s.gens[g]? = some gs)
    (hgo : Wake prog w A.in1 gs (s.setGen g .running) (NextPost a g Q E)) : wpAny (model prog w) A (pyNext (.ref a)) Q E s := by
  unfold pyNext
  refine wpAny_bind (wpAny_attempt (wpAny_callSpecial?_slot (name := Str.ofString "__next__") hg.typeIs slot_gen_next
    (wpAny_call_entry slot_gen_next hg.typeIs entry_gen_next ?_ (args_gen_next _))))
  show wpAny _ A.in1 (Builtin.Generator.genWake (.ref a) (.send .none)) _ _ s
  unfold Builtin.Generator.genWake
  refine wpAny_bind (wpAny_holding (wpAny_genNumber hg (wpAny_bind (wpAny_genState hgs ?_))))
  cases gs with
  | running => exact hgo.elim
  | finished => exact hgo.elim
  | _ =>
    refine wpAny_bind (wpAny_roomToWake hl hroom ?_)
    show wpAny _ A.in1 (.resume g (.send .none) [] _) _ _ s
    refine wpAny_resume_wake hgs (hgo.mono fun e s₁ _ he => ?_)
    match e, he with
    | .susp v gd l k c p fs, he => exact wpAny_pure ⟨v, rfl, wpAny_pure he⟩
    | .ret (.ok (.ret .none)), he =>
      show wpAny _ A.in1 (newExc (.type "StopIteration") [] >>= _) _ _ _
      refine wpAny_bind ?_
      simp only [newExc, newTuple]
      refine wpAny_bind (wpAny_newObj_type ?_ (by size_fits))
      refine wpAny_bind (m := firstArgMember _ _) (wpAny_of_eq (a := Value.none) (by first | rfl | (simp only [firstArgMember]; rfl)) ?_)
      refine wpAny_newObj_type ?_ (by size_fits)
      simp only [raiseNew]
      refine wpAny_bind (wpAny_bind (wpAny_handled ?_))
      rw [show A.in1.handled = none from hh]
      refine wpAny_throw ?_
      refine wpAny_bind (wpAny_isInstance (T := "StopIteration") (b := true) ⟨_, Heap.get?_push_size _ rfl, rfl⟩ isSubtype_stop ?_)
      exact wpAny_pure (he _ fun b o hb => Heap.get?_push_of_some _ (Heap.get?_push_of_some _ hb))
    | .ret (.error (.ref x)), he =>
      obtain ⟨⟨o, X, ho, hc, hs⟩, hga, hE⟩ := he
      show wpAny _ A.in1 (Builtin.Generator.genLeft (.ref a) (.ref x)) _ _ _
      unfold Builtin.Generator.genLeft Builtin.Generator.madeByALambda
      obtain ⟨og, nm, qn, hog, hgc, hgd, hgs'⟩ := hga
      refine wpAny_bind (wpAny_bind (wpAny_load hog ?_))
      rw [hgc, hgd]
      refine wpAny_pure ?_
      refine wpAny_bind (wpAny_isInstance (T := X) (b := false) ⟨o, ho, hc⟩ hs ?_)
      rw [Bool.and_false, if_neg Bool.false_ne_true]
      show wpAny _ A.in1 (Builtin.Generator.genEscaped (.ref x)) _ _ _
      unfold Builtin.Generator.genEscaped
      refine wpAny_bind (wpAny_isInstance (T := X) (b := false) ⟨o, ho, hc⟩ hs ?_)
      refine wpAny_throw ?_
      refine wpAny_bind (wpAny_isInstance (T := X) (b := false) ⟨o, ho, hc⟩ hs ?_)
      exact wpAny_throw hE
end
end Mine
end

/- part X1 -/
section
open PySem PySem.W PyProof.Rows PySem.W.X
set_option maxRecDepth 100000
namespace Mine
section
variable {prog : Program} {w : World} {A : Around} {E : Value → Shared → Prop} {s : Shared} {Q : Value → Shared → Prop}

theorem mem_keep {h₀ h : Heap} {news : List (Addr × Obj)} (D : Mem h₀ h [] news) : ∀ b o, h₀.get? b = some o → h.get? b = some o :=
  fun b o e => D.keep b o e (by simp [away])

/-- a value handed back; what was, is as it was -/
def Back (s : Shared) (v : Value) (Q : Value → Shared → Prop) : Prop := ∀ h' tk, (∀ b o, s.heap.get? b = some o → h'.get? b = some o) → Q v { s with heap := h', toks := tk }
theorem Back.use {v : Value} {h' : Heap} {tk : Nat} (b : Back s v Q) (k : ∀ b o, s.heap.get? b = some o → h'.get? b = some o) : Q v { s with heap := h', toks := tk } := b h' tk k

local macro_rules | `(tactic| x_close) => `(tactic| first | exact Back.use (by assumption) (mem_keep (by assumption)) | exact Back.use (by assumption) fun _ _ e => e)

abbrev clsObj (d : Option Addr) (cd : ClassData) (sl : Array (Option Value)) : Obj := ⟨.type "type", d, .cls cd, sl⟩
abbrev lsObj (its : Array Value) (n : Nat) : Obj := ⟨.type "list", none, .seq its n, #[]⟩

set_option maxHeartbeats 0

theorem isi_int_ref {i : Int} {t : Tok} {aR : Addr} {dR : Option Addr} {cdR : ClassData} {slR : Array (Option Value)} (hR : s.heap.get? aR = some ⟨.type "type", dR, .cls cdR, slR⟩)
    (h : Back s (.bool false) Q) : wpAny (model prog w) A (call (.builtin "isinstance") [.int i t, .ref aR]) Q E s := by x_run
theorem isi_int_str {i : Int} {t : Tok} (h : Back s (.bool false) Q) : wpAny (model prog w) A (call (.builtin "isinstance") [.int i t, .type "str"]) Q E s := by x_run
theorem isi_int_bool {i : Int} {t : Tok} (h : Back s (.bool false) Q) : wpAny (model prog w) A (call (.builtin "isinstance") [.int i t, .type "bool"]) Q E s := by x_run
theorem isi_int_int {i : Int} {t : Tok} (h : Back s (.bool true) Q) : wpAny (model prog w) A (call (.builtin "isinstance") [.int i t, .type "int"]) Q E s := by x_run
theorem isi_lst_ref {l aR : Addr} {its : Array Value} {n : Nat} {dR : Option Addr} {cdR : ClassData} {slR : Array (Option Value)} (hl : s.heap.get? l = some ⟨.type "list", none, .seq its n, #[]⟩) (hR : s.heap.get? aR = some ⟨.type "type", dR, .cls cdR, slR⟩)
    (h : Back s (.bool false) Q) : wpAny (model prog w) A (call (.builtin "isinstance") [.ref l, .ref aR]) Q E s := by x_run
theorem isi_lst_str {l : Addr} {its : Array Value} {n : Nat} (hl : s.heap.get? l = some ⟨.type "list", none, .seq its n, #[]⟩)
    (h : Back s (.bool false) Q) : wpAny (model prog w) A (call (.builtin "isinstance") [.ref l, .type "str"]) Q E s := by x_run
theorem isi_lst_bool {l : Addr} {its : Array Value} {n : Nat} (hl : s.heap.get? l = some ⟨.type "list", none, .seq its n, #[]⟩)
    (h : Back s (.bool false) Q) : wpAny (model prog w) A (call (.builtin "isinstance") [.ref l, .type "bool"]) Q E s := by x_run
theorem isi_lst_int {l : Addr} {its : Array Value} {n : Nat} (hl : s.heap.get? l = some ⟨.type "list", none, .seq its n, #[]⟩)
    (h : Back s (.bool false) Q) : wpAny (model prog w) A (call (.builtin "isinstance") [.ref l, .type "int"]) Q E s := by x_run
theorem isi_lst_list {l : Addr} {its : Array Value} {n : Nat} (hl : s.heap.get? l = some ⟨.type "list", none, .seq its n, #[]⟩)
    (h : Back s (.bool true) Q) : wpAny (model prog w) A (call (.builtin "isinstance") [.ref l, .type "list"]) Q E s := by x_run
end
end Mine
end

/- part G3 -/
section
open PySem PySem.W PyProof.Rows PySem.W.X
set_option maxRecDepth 100000
namespace Mine
def nthS (k : Nat) (l : List Stmt) : Stmt := l.getD k (.Pass default)
def bodyS : Stmt → List Stmt
  | .FunctionDef _ _ b .. => b
  | .ClassDef _ _ _ b .. => b
  | .If _ b _ _ => b
  | .For _ _ b _ _ => b
  | .While _ b _ _ => b
  | .Try b _ _ _ _ => b
  | _ => []
def scopeS : Stmt → Scope
  | .FunctionDef _ _ _ _ _ _ sc _ _ _ => sc
  | _ => default
def argsS : Stmt → Arguments
  | .FunctionDef _ a .. => a
  | _ => default
def topB : List Stmt := PySem.Challenge.pw_ae5040_01.main.body
def mkDef : Stmt := nthS 17 topB
def intDef : Stmt := nthS 2 (bodyS mkDef)
def listDef : Stmt := nthS 3 (bodyS mkDef)
def iterDef : Stmt := nthS 6 (bodyS mkDef)
def openDef : Stmt := nthS 13 topB
def textDef : Stmt := nthS 20 topB
def lawDef : Stmt := nthS 21 topB

section
variable {prog : Program} {w : World} {A : Around} {E : Value → Shared → Prop} {s : Shared} {env : Env}

/-- a call of a built-in by its name, plain arguments -/
theorem call_b {x : Str} {np pos : Pos} {e₁ : Expr} {es : List Expr} {id : String} {Q : Value → Shared → Prop}
    (h : wpAny (model prog w) A (eval (.Name x np) env) (fun f s₁ => f = .builtin id ∧ wpAny (model prog w) A (spliced (backTo pos (starEach (e₁ :: es) env))) (fun vs s₂ => wpAny (model prog w) A (call (.builtin id) vs) Q E s₂) E s₁) E s)
    (h₁ : starEach (e₁ :: es) env = (false, eval e₁ env) :: starEach es env := by rfl) (h₂ : ((false, eval e₁ env) :: backTo pos (starEach es env)).any (·.1) = false := by rfl) : wpAny (model prog w) A (eval (.Call (.Name x np) (e₁ :: es) [] pos) env) Q E s := by
  refine wpAny_Call_ofName (wpAny_mono h (fun f s₁ hf => ?_) fun _ _ x => x)
  obtain ⟨rfl, hc⟩ := hf
  rw [h₁] at hc ⊢
  exact Calls.callWith_builtin h₂ (Calls.evalArgs_plain hc)

/-- a call of a def by its name, plain arguments -/
theorem call_f {x : Str} {np pos : Pos} {e₁ : Expr} {es : List Expr} {a : Addr} {o : Obj} {fd : FuncData} {Q : Value → Shared → Prop}
    (h : wpAny (model prog w) A (eval (.Name x np) env) (fun f s₁ => f = .ref a ∧ wpAny (model prog w) A (spliced (backTo pos (starEach (e₁ :: es) env))) (fun vs s₂ => (s₂.heap.get? a = some o ∧ o.data = .func fd) ∧ wpAny (model prog w) A (call (.ref a) vs) Q E s₂) E s₁) E s)
    (h₁ : starEach (e₁ :: es) env = (false, eval e₁ env) :: starEach es env := by rfl) : wpAny (model prog w) A (eval (.Call (.Name x np) (e₁ :: es) [] pos) env) Q E s := by
  refine wpAny_Call_ofName (wpAny_mono h (fun f s₁ hf => ?_) fun _ _ x => x)
  obtain ⟨rfl, hc⟩ := hf
  rw [h₁] at hc ⊢
  exact Calls.callWith_function (o := o) (fd := fd) (Calls.evalArgs_plain hc)

theorem args1 {pos : Pos} {e₁ : Expr} {Q : List Value → Shared → Prop} (h : wpAny (model prog w) A (eval e₁ env) (fun v s₁ => Q [v] s₁) E s)
    (h₁ : starEach [e₁] env = [(false, eval e₁ env)] := by rfl) : wpAny (model prog w) A (spliced (backTo pos (starEach [e₁] env))) Q E s :=
  wpAny_items_cons (wpAny_mono h (fun _ _ h₂ => wpAny_items_nil h₂) fun _ _ x => x) h₁
theorem args2 {pos : Pos} {e₁ e₂ : Expr} {Q : List Value → Shared → Prop} (h : wpAny (model prog w) A (eval e₁ env) (fun v s₁ => wpAny (model prog w) A (eval e₂ env) (fun v₂ s₂ => Q [v, v₂] s₂) E s₁) E s)
    (h₁ : starEach [e₁, e₂] env = (false, eval e₁ env) :: starEach [e₂] env := by rfl) (h₂ : starEach [e₂] env = [(false, eval e₂ env)] := by rfl) : wpAny (model prog w) A (spliced (backTo pos (starEach [e₁, e₂] env))) Q E s :=
  wpAny_items_cons (wpAny_mono h (fun _ _ h₃ => wpAny_items_cons (wpAny_mono h₃ (fun _ _ h₄ => wpAny_items_nil h₄) fun _ _ x => x) h₂) fun _ _ x => x) h₁
end

section
variable {M : Model} {A : Around} {E : Value → Shared → Prop} {s : Shared} {B : Heap} {L a : Addr} {m mg mb : Str → Option Value} {cn : Str} {cs : Scope} {ccd : Value} {cl : List (Str × Addr)}
  {x : Str} {pos : Pos} {v : Value} {Q : Value → Shared → Prop} {c : Addr}
theorem nm_F (F : Fr B L s.heap m) (hc : cl.lookup x = some c) (hv : B.IsCell c (some v)) (h : Q v s)
    (hk : cs.kind = .function := by rfl) (hx : (envX cn cs L a ccd cl).kindOf x = some .free := by rfl) (hb : (x == ("__debug__" : Str)) = false := by decide) (hn : (x == ("__classdict__" : Str)) = false := by decide) :
    wpAny M A (eval (.Name x pos) (envX cn cs L a ccd cl)) Q E s := wpAny_Name (wpAny_loadName_free hk hx hc (hv.keeps F.keep) h hn) hb
theorem nm_G (F : Fr B L s.heap m) (g : B.Ns mainGlobals mg) (e : mg x = some v) (h : Q v s)
    (hk : cs.kind = .function := by rfl) (hx : (envX cn cs L a ccd cl).kindOf x = some .globalImplicit := by rfl) (hd : (x == ("__debug__" : Str)) = false := by decide) :
    wpAny M A (eval (.Name x pos) (envX cn cs L a ccd cl)) Q E s := Calls.Name_function_global hk hx (Calls.loadGlobal_global (env := envX cn cs L a ccd cl) (g.keeps F.keep) e h) hd
theorem nm_B (F : Fr B L s.heap m) (g : B.Ns mainGlobals mg) (e : mg x = none) (b : B.Ns builtinsNs mb) (hv : mb x = some v) (h : Q v s)
    (hk : cs.kind = .function := by rfl) (hx : (envX cn cs L a ccd cl).kindOf x = some .globalImplicit := by rfl) (hd : (x == ("__debug__" : Str)) = false := by decide) :
    wpAny M A (eval (.Name x pos) (envX cn cs L a ccd cl)) Q E s := Calls.Name_function_global hk hx (Calls.loadGlobal_builtin (env := envX cn cs L a ccd cl) (g.keeps F.keep) e (b.keeps F.keep) hv h) hd
end
end Mine
end

/- part G4 -/
section
open PySem PySem.W PyProof.Rows PySem.W.X
set_option maxRecDepth 100000
namespace Mine
section
variable {prog : Program} {w : World} {A : Around} {E : Value → Shared → Prop} {s : Shared} {Q : Value → Shared → Prop}

theorem Fr_lt {h₀ h : Heap} {L : Addr} {m : Str → Option Value} (F : Fr h₀ L h m) : L < h.objs.size := let ⟨_, _, _, e, _⟩ := F.ns; Heap.lt_size e

abbrev openFd (pm cd doc : Value) : FuncData := Calls.docDef "is_open" (argsS openDef) (bodyS openDef) (scopeS openDef) pm cd doc

theorem call_is_open {aO M l : Addr} {o : Obj} {pm cd doc : Value} {ms : List Addr} {n : Nat} (hh : A.handled = none)
    (hroom : A.depth < recursionLimit) (ho : s.heap.get? aO = some o) (hd : o.data = .func (openFd pm cd doc)) (hlim : s.heap.NoLimit) (hcd : s.heap.CodeRec cd "is_open")
    (hM : s.heap.get? M = some (lsObj (ms.map Value.ref).toArray n)) (hms : ∀ x ∈ ms, ∃ its k, s.heap.get? x = some (lsObj its k)) (hl : ∃ its k, s.heap.get? l = some (lsObj its k))
    (h : Back s (.bool (decide (l ∈ ms))) Q) : wpAny (model prog w) A (call (.ref aO) [.ref M, .ref l]) Q E s := by
  refine wpAny_call (call_pos_ret hroom ho hd hlim hcd rfl (locs (by kernel_rfl)) (fun h₁ F => ?_) rfl rfl rfl (by decide +kernel))
  refine wpAny_execs_cons ?_
  refine wpAny_For ?_
  refine ld F (v := .ref M) (by kernel_rfl) ?_
  refine wpAny_pyIter_list (items := (ms.map Value.ref).toArray) ⟨_, F.keep _ _ hM, rfl, _, rfl⟩ ?_
  have hit₀ : s.heap.objs.size < h₁.objs.size := Fr_lt F
  generalize hL : s.heap.objs.size = L at F hit₀ ⊢
  generalize hI : h₁.objs.size = it at hit₀ ⊢
  refine codeAny_forLoop (fun k s' => ∃ i h' tk m', s' = ⟨h', s.gens, s.drawn, tk, s.os⟩ ∧ k = ms.length - i ∧ i ≤ ms.length ∧ Fr s.heap L h' m' ∧ m' "obj" = some (.ref l) ∧
    h'.IsListIter it M i ∧ l ∉ ms.take i) ?_ ms.length ⟨0, _, _, _, rfl, rfl, Nat.zero_le _, F.push _, by kernel_rfl, ?_, by simp⟩
  · rintro k _ ⟨i, h', tk, m', rfl, rfl, hi, F, hobj, hit, hno⟩
    by_cases hlt : i < ms.length
    · have hx : (ms.map Value.ref).toArray[i]? = some (.ref ms[i]) := by simp [hlt]
      refine wpAny_pyNext_list_item hit (items := (ms.map Value.ref).toArray) ⟨_, F.keep _ _ hM, rfl, _, rfl⟩ hx fun h₂ hit₂ hs₂ => ?_
      have F₂ := F.sameNew hit₀ hs₂
      refine wpAny_assign_Name (wpAny_storeName_local (by rfl) F₂.ns fun h₃ hn₃ hs₃ => ?_)
      have F₃ := F₂.set hn₃ hs₃
      have hit₃ : h₃.IsListIter it M (i + 1) := hit₂.extBut hs₃.extBut (Nat.ne_of_gt hit₀)
      refine wpAny_execs_cons (wpAny_If (wpAny_isTrue_Compare1 ?_))
      refine ld F₃ (v := .ref ms[i]) (by rfl) ?_
      refine ld F₃ (v := .ref l) (by rw [if_neg (by decide)]; exact hobj) ?_
      obtain ⟨its, k, hx'⟩ := hms ms[i] (List.getElem_mem hlt)
      obtain ⟨itl, kl, hl'⟩ := hl
      by_cases e : ms[i] = l
      · rw [e]
        refine wpAny_is_ref_self (wpAny_truthy_bool ?_)
        rw [if_pos rfl]
        refine wpAny_execs_cons (wpAny_Return_some (wpAny_Constant_bool ?_))
        have hin : decide (l ∈ ms) = true := decide_eq_true (e ▸ List.getElem_mem hlt)
        rw [hin] at h
        exact h.use F₃.keep
      · refine wpAny_is_ref_other e (F₃.keep _ _ hx') (F₃.keep _ _ hl') (by show (Value.type "list") ≠ .type "tuple"; decide) (wpAny_truthy_bool ?_)
        rw [if_neg Bool.false_ne_true]
        refine wpAny_execs_nil (wpAny_execs_nil ⟨ms.length - (i + 1), by omega, i + 1, h₃, tk + 1, _, rfl, rfl, hlt, F₃, ?_, hit₃, ?_⟩)
        · rw [if_neg (by decide)]; exact hobj
        · rw [List.take_succ_eq_append_getElem hlt, List.mem_append, List.mem_singleton]
          rintro (q | q)
          · exact hno q
          · exact e q.symm
    · have hi' : i = ms.length := by omega
      subst hi'
      refine wpAny_pyNext_list_end (items := (ms.map Value.ref).toArray) hh hit ⟨_, F.keep _ _ hM, rfl, _, rfl⟩ (by simp) fun h₂ hx₂ => ?_
      refine wpAny_execs_nil ?_
      refine wpAny_execs_cons (wpAny_Return_some (wpAny_Constant_bool ?_))
      rw [List.take_length] at hno
      have hin : decide (l ∈ ms) = false := decide_eq_false hno
      rw [hin] at h
      exact h.use fun b o e => hx₂ b o (Nat.ne_of_lt (Nat.lt_trans (Nat.lt_of_lt_of_le (Heap.lt_size e) F.above) hit₀)) (F.keep _ _ e)
  · exact hI ▸ ⟨_, Heap.get?_push_size _ rfl, rfl, rfl⟩
end
end Mine
end

/- part G5 -/
section
open PySem PySem.W PyProof.Rows PySem.W.X
set_option maxRecDepth 100000
namespace Mine
section
variable {prog : Program} {w : World} {A : Around} {E : Value → Shared → Prop} {s : Shared} {Q : Value → Shared → Prop}

/-- what the encoder's defs lean on, in a part of the heap that stays -/
structure EncD where
  mg : Str → Option Value
  mb : Str → Option Value
  fI : Addr
  cdI : Value
  clI : List (Str × Addr)
  qI : Str
  fL : Addr
  cdL : Value
  clL : List (Str × Addr)
  qL : Str
  fT : Addr
  cdT : Value
  clT : List (Str × Addr)
  qT : Str
  aO : Addr
  aR : Addr
  marks : Value

structure EncD.In (D : EncD) (B : Heap) : Prop where
  g : B.Ns mainGlobals D.mg
  b : B.Ns builtinsNs D.mb
  bt : ∀ x : Str, x ≠ "__name__" → D.mb x = bootBuiltins x
  nolimit : B.NoLimit
  nG : ∀ x ∈ (["isinstance", "str", "bool", "int", "list", "ValueError"] : List Str), D.mg x = none
  gO : D.mg "is_open" = some (.ref D.aO)
  gR : D.mg "RawJSON" = some (.ref D.aR)
  gS : D.mg "string_types" = some (.type "str")
  gT : D.mg "integer_types" = some (.type "int")
  raw : ∃ d cd sl, B.get? D.aR = some (clsObj d cd sl)
  isOpen : ∃ o pm cd doc, B.get? D.aO = some o ∧ o.data = .func (openFd pm cd doc) ∧ B.CodeRec cd "is_open"
  fnI : ∃ o doc pm ct, B.get? D.fI = some o ∧ o.data = .func (fnX "_encode_int" D.qI (argsS intDef) (bodyS intDef) (scopeS intDef) D.clI .none .none doc pm none D.cdI ct)
  recI : B.CodeRec D.cdI D.qI
  bitsI : ∃ c, D.clI.lookup ("_int_as_string_bitcount" : Str) = some c ∧ B.IsCell c (some .none)
  fnL : ∃ o doc pm ct, B.get? D.fL = some o ∧ o.data = .func (fnX "_iterencode_list" D.qL (argsS listDef) (bodyS listDef) (scopeS listDef) D.clL .none .none doc pm none D.cdL ct)
  recL : B.CodeRec D.cdL D.qL
  markL : ∃ c, D.clL.lookup ("markers" : Str) = some c ∧ B.IsCell c (some D.marks)
  indL : ∃ c, D.clL.lookup ("_indent" : Str) = some c ∧ B.IsCell c (some .none)
  sepL : ∃ c t, D.clL.lookup ("_item_separator" : Str) = some c ∧ B.IsCell c (some (.str ", " t))
  intL : ∃ c, D.clL.lookup ("_encode_int" : Str) = some c ∧ B.IsCell c (some (.ref D.fI))
  lstL : ∃ c, D.clL.lookup ("_iterencode_list" : Str) = some c ∧ B.IsCell c (some (.ref D.fL))
  fnT : ∃ o doc pm ct, B.get? D.fT = some o ∧ o.data = .func (fnX "_iterencode" D.qT (argsS iterDef) (bodyS iterDef) (scopeS iterDef) D.clT .none .none doc pm none D.cdT ct)
  recT : B.CodeRec D.cdT D.qT
  lstT : ∃ c, D.clT.lookup ("_iterencode_list" : Str) = some c ∧ B.IsCell c (some (.ref D.fL))

theorem EncD.In.boot {D : EncD} {B : Heap} (I : D.In B) {x : Str} {v : Value} (hx : x ∈ (["isinstance", "str", "bool", "int", "list", "ValueError"] : List Str)) (hv : bootBuiltins x = some v) : D.mg x = none ∧ D.mb x = some v :=
  ⟨I.nG x hx, (I.bt x (by intro e; subst e; revert hx; decide)).trans hv⟩

theorem ite_t {b : Bool} {P R : Prop} (hb : b = true) (h : P) : if b = true then P else R := by rw [if_pos hb]; exact h
theorem ite_f {b : Bool} {P R : Prop} (hb : b = false) (h : R) : if b = true then P else R := by rw [if_neg (by rw [hb]; exact Bool.false_ne_true)]; exact h

theorem call_encode_int {D : EncD} {B : Heap} {i : Int} {t : Tok} (I : D.In B) (hB : ∀ b o, B.get? b = some o → s.heap.get? b = some o) (hsz : B.objs.size ≤ s.heap.objs.size) (hroom : A.depth < recursionLimit) (hi : i.natAbs.log2 < 1920)
    (h : ∀ h' tk tk', (∀ b o, s.heap.get? b = some o → h'.get? b = some o) → Q (.str (Str.ofString (toString i)) tk) { s with heap := h', toks := tk' }) :
    wpAny (model prog w) A (call (.ref D.fI) [.int i t]) Q E s := by
  obtain ⟨o, doc, pm, ct, ho, hd⟩ := I.fnI
  obtain ⟨c, hc, hcell⟩ := I.bitsI
  refine wpAny_call (codeAny_call_def hroom (hB _ _ ho) hd (I.nolimit.keeps hB) (I.recI.keeps hB) rfl (BindsTo.of_eq rfl) (show ∀ x ∈ (scopeS intDef).names, x.2 ≠ .cell from by decide +kernel) (locs (by kernel_rfl)) (fun h₀ hns hk => ?_))
  have hlt : ∀ b o, s.heap.get? b = some o → b ≠ s.heap.objs.size := fun b o e => Nat.ne_of_lt (Heap.lt_size e)
  have F : Fr B s.heap.objs.size h₀ (fun x => List.lookup x [("value", Value.int i t)]) := ⟨hns, fun b o e => hk b o (hB b o e), hsz⟩
  show wpAny _ (A.deeper (envX D.qI (scopeS intDef) s.heap.objs.size D.fI D.cdI D.clI)) (execs (bodyS intDef) (envX D.qI (scopeS intDef) s.heap.objs.size D.fI D.cdI D.clI)) _ _ _
  refine wpAny_execs_cons (wpAny_Assign_Name (wpAny_Or2 (wpAny_Compare1 (nm_F F hc hcell (wpAny_Constant_none (is_none (wpAny_truthy_bool ?_)))))))
  refine ite_t rfl ?_
  refine wpAny_storeName_local (by rfl) F.ns fun h₁ hn₁ hs₁ => ?_
  have F₁ := F.set hn₁ hs₁
  refine wpAny_execs_cons (wpAny_If (wpAny_isTrue_BoolOp (wpAny_allTrue_Or_cons (wpAny_isTrue_value (nameX_L F₁ (by rfl) (wpAny_truthy_bool ?_))))))
  refine ite_t rfl (ite_t rfl ?_)
  obtain ⟨b1, b2⟩ := I.boot (x := "str") (v := .type "str") (by decide) (by decide +kernel)
  refine wpAny_execs_cons (wpAny_Return_some (wpAny_Call_ofName (nm_B F₁ I.g b1 I.b b2 ?_)))
  refine callWith_excType (T := "str") rfl (Calls.evalArgs_plain (Calls.spliced_cons (nameX_L F₁ (v := .int i t) (by rfl) (Calls.spliced_nil ?_))))
  refine P.str_of_int hi ?_
  exact h _ _ _ fun b o e => (hs₁.2 b (hlt b o e)).trans (hk b o e)
end
end Mine
end

/- part G6 -/
section
open PySem PySem.W PyProof.Rows PySem.W.X
set_option maxRecDepth 100000
namespace Mine

/-- the state of the generator of a list, as a road -/
inductive GSt where
  | fresh (p : Nat)
  | atInt (p : Nat)
  | atSep (p k : Nat)
  | inside (p k : Nat) (σ : GSt)
  | atEmpty (p : Nat)
  | atClose (p : Nat)

inductive Out where
  | yield (x : Str) (σ : GSt) (μ : List Nat)
  | fin (μ : List Nat)
  | raise

/-- the web: where each list lies, and its row behind its number (none: the empty list) -/
structure Web where
  n : Nat
  addr : Nat → Addr
  tok : Nat → Tok
  row : Nat → Option (List Nat)

def Web.items (W : Web) (p : Nat) : Array Value := match W.row p with
  | none => #[]
  | some ts => (Value.int p (W.tok p) :: ts.map fun q => Value.ref (W.addr q)).toArray

def headOut (W : Web) (p k : Nat) (μ : List Nat) : Out := match W.row p with
  | none => .raise
  | some ts => if k ≤ ts.length then .yield ", " (.atSep p k) μ else .yield "]" (.atClose p) μ

def freshOut (W : Web) (chk : Bool) (p : Nat) (μ : List Nat) : Out := match W.row p with
  | none => .yield "[]" (.atEmpty p) μ
  | some _ => if (chk && decide (p ∈ μ)) = true then .raise else .yield (Str.ofString "[" ++ Str.ofString (toString (p : Int))) (.atInt p) (if chk then μ ++ [p] else μ)

def Out.lift (W : Web) (p k : Nat) : Out → Out
  | .yield x σ μ => .yield x (.inside p k σ) μ
  | .fin μ => headOut W p (k + 1) μ
  | .raise => .raise

def step (W : Web) (chk : Bool) : GSt → List Nat → Out
  | .fresh p, μ => freshOut W chk p μ
  | .atInt p, μ => headOut W p 1 μ
  | .atSep p k, μ => (freshOut W chk (((W.row p).getD []).getD (k - 1) 0) μ).lift W p k
  | .inside p k σ, μ => (step W chk σ μ).lift W p k
  | .atEmpty _, μ => .fin μ
  | .atClose _, μ => .fin (if chk then μ.dropLast else μ)

structure WebIn (W : Web) (B : Heap) : Prop where
  here : ∀ p, p < W.n → ∃ k, B.get? (W.addr p) = some (lsObj (W.items p) k)
  inn : ∀ p ts, p < W.n → W.row p = some ts → ∀ q ∈ ts, q < W.n
  len : ∀ p ts, p < W.n → W.row p = some ts → ts.length ≤ 1000
  inj : ∀ p q, p < W.n → q < W.n → W.addr p = W.addr q → p = q
  small : W.n ≤ 1000

/-- the markers' list: none without a look for circles -/
def MarkOk (W : Web) (mkA : Option Addr) (μ : List Nat) (h : Heap) : Prop := match mkA with
  | none => True
  | some M => (∃ k, h.get? M = some (lsObj (μ.map fun p => Value.ref (W.addr p)).toArray k)) ∧ ∀ p ∈ μ, p < W.n

structure Rely (B : Heap) (mkA : Option Addr) (l : List Env) (b g : Nat) (s s' : Shared) : Prop where
  frs : s'.heap.FunFrames B l
  keep : ∀ (a : Nat) o, b ≤ a → s.heap.get? a = some o → s'.heap.get? a = some o
  base : ∀ a o, B.get? a = some o → s'.heap.get? a = some o
  mark : ∀ M, mkA = some M → s'.heap.get? M = s.heap.get? M
  gens : ∀ j gs, g < j → s.gens[j]? = some gs → s'.gens[j]? = some gs

structure Guar (B : Heap) (mkA : Option Addr) (l : List Env) (b g : Nat) (s s' : Shared) : Prop where
  frs : s'.heap.FunFrames B l
  keep : ∀ (a : Nat) o, a < b + 2 → a ≠ b → mkA ≠ some a → s.heap.get? a = some o → s'.heap.get? a = some o
  gens : ∀ j, j ≤ g → s'.gens[j]? = s.gens[j]?
  os : s'.os = s.os
  drawn : s'.drawn = s.drawn
  bare : AllBare s.gens → AllBare s'.gens

/-- an exception has come up: whatever stood below is there, up to the frames' slots -/
def Raised (B : Heap) (mkA : Option Addr) (b g : Nat) (l : List Env) (s₀ : Shared) (x : Addr) (s : Shared) : Prop :=
  (∃ base a0, (∀ (a : Nat) o, B.get? a = some o → base.get? a = some o) ∧ (∀ (a : Nat) o, a < b + 2 → a ≠ b → mkA ≠ some a → a ∉ l.filterMap (·.frame) → s₀.heap.get? a = some o → base.get? a = some o) ∧ Heap.FlyingW base l x (.type "ValueError") a0 s.heap) ∧
  (∀ f ∈ l.filterMap (·.frame), ∀ o, s₀.heap.get? f = some o → ∃ sl, s.heap.get? f = some { o with slots := sl }) ∧
  (∀ j, j ≤ g → s.gens[j]? = s₀.gens[j]?) ∧ s.os = s₀.os ∧ s.drawn = s₀.drawn ∧ (AllBare s₀.gens → AllBare s.gens)

section
variable (prog : Program) (w : World) (B : Heap) (W : Web) (mkA : Option Addr)

def PostOf (R : GSt → List Nat → Around → List Env → Nat → Nat → GenState → Shared → Prop) (A : Around) (l : List Env) (b g : Nat) (s₀ : Shared) : Out → End → Shared → Prop
  | .yield x σ μ, e, s => ∃ tok li k c p fs, e = .susp (.str x tok) false li k c p fs ∧ Guar B mkA l b g s₀ s ∧ MarkOk W mkA μ s.heap ∧ R σ μ A l b g e.genState (s.setGen g e.genState)
  | .fin μ, e, s => e = .ret (.ok (.ret .none)) ∧ Guar B mkA l b g s₀ s ∧ MarkOk W mkA μ s.heap
  | .raise, e, s => ∃ x, e = .ret (.error (.ref x)) ∧ Raised B mkA b g l s₀ x s

/-- n turns of the generator go as the road goes -/
def Rep : Nat → GSt → List Nat → Around → List Env → Nat → Nat → GenState → Shared → Prop
  | 0 => fun _ _ _ _ _ _ _ _ => True
  | n + 1 => fun σ μ A l b g gs s => ∀ s', Rely B mkA l b g s s' → s'.gens[g]? = some gs → MarkOk W mkA μ s'.heap →
      Wake prog w A gs (s'.setGen g .running) (PostOf B W mkA (Rep n) A l b g (s'.setGen g .running) (step W mkA.isSome σ μ))
end
end Mine
end

/- part G7 -/
section
open PySem PySem.W PyProof.Rows PySem.W.X
set_option maxRecDepth 100000
namespace Mine

structure Aok (A : Around) (l : List Env) (d : Nat) : Prop where
  handled : A.handled = none
  frames : A.frames = some l
  depth : A.depth ≤ d

theorem Aok.in1 {A : Around} {l : List Env} {d : Nat} (x : Aok A l d) : Aok A.in1 l d := ⟨x.handled, x.frames, x.depth⟩
theorem Aok.le {A : Around} {l : List Env} {d d' : Nat} (x : Aok A l d) (h : d ≤ d') : Aok A l d' := ⟨x.handled, x.frames, Nat.le_trans x.depth h⟩

section
variable {A : Around} {l : List Env} {d : Nat} {env : Env} {body : List Stmt}
theorem weight_func : (Code.func body env).weight = 1 := by rfl
theorem weight_for {t : Expr} {it : Value} {b o : List Stmt} : (Code.forLoop t it b o env).weight = 0 := by rfl
theorem aok_func (x : Aok A l d) : Aok (A.over (.func body env) []) (env :: l) (d + 1) := by
  refine ⟨x.handled, ?_, ?_⟩
  · show pushEnvs [env] (pushEnvs [] A.frames) = some (env :: l)
    rw [x.frames]; rfl
  · show A.depth + 0 + 1 ≤ d + 1
    have := x.depth; omega
theorem aok_for {t : Expr} {it : Value} {b o : List Stmt} {k gd lv p kp} (x : Aok A l d) : Aok (A.over (.forLoop t it b o env) [.ret k none gd lv (.func body env) p kp]) (env :: l) (d + 1) := by
  refine ⟨x.handled, ?_, ?_⟩
  · show pushEnvs [] (pushEnvs [env] A.frames) = some (env :: l)
    rw [x.frames]; rfl
  · show A.depth + (1 + 0) + 0 ≤ d + 1
    have := x.depth; omega
theorem aok_for2 {t t' : Expr} {it it' : Value} {b b' o o' : List Stmt} {k gd lv p kp k' gd' lv' p' kp'} (x : Aok A l d) :
    Aok (A.over (.forLoop t it b o env) [.ret k none gd lv (.forLoop t' it' b' o' env) p kp, .ret k' none gd' lv' (.func body env) p' kp']) (env :: l) (d + 1) := by
  refine ⟨x.handled, ?_, ?_⟩
  · show pushEnvs [] (pushEnvs [env] A.frames) = some (env :: l)
    rw [x.frames]; rfl
  · show A.depth + (0 + (1 + 0)) + 0 ≤ d + 1
    have := x.depth; omega
end

/-- where the generator of a list stands: its frame, its own object, what was, the markers -/
structure Now (B : Heap) (W : Web) (mkA : Option Addr) (l : List Env) (b g : Nat) (s₀ s : Shared) (m : Str → Option Value) (μ : List Nat) : Prop where
  fr : Fr B b s.heap m
  gob : s.heap.IsGen (b + 1) g
  keep : ∀ (a : Nat) o, a < b + 2 → a ≠ b → mkA ≠ some a → s₀.heap.get? a = some o → s.heap.get? a = some o
  mark : MarkOk W mkA μ s.heap
  gens : ∀ j, j ≤ g → s.gens[j]? = s₀.gens[j]?
  os : s.os = s₀.os
  drawn : s.drawn = s₀.drawn
  mb : ∀ (M : Nat), mkA = some M → M < b ∧ B.get? M = none
  gg : g < s.gens.size
  bare : AllBare s₀.gens → AllBare s.gens
  frs : s.heap.FunFrames B l
  low : ∀ (f : Nat), f ∈ l.filterMap (·.frame) → f < b ∧ mkA ≠ some f

theorem AllBare.setG {gs : Array GenState} {i : Nat} {c : GenState} (h : AllBare gs) (hc : c.bare = true) : AllBare (gs.setIfInBounds i c) := fun y hy => by
  rcases Array.mem_or_eq_of_mem_setIfInBounds hy with h' | rfl
  · exact h y h'
  · exact hc

section
variable {B : Heap} {W : Web} {mkA : Option Addr} {l : List Env} {b g : Nat} {s₀ s : Shared} {m : Str → Option Value} {μ : List Nat}

theorem frs_mono {h h' base : Heap} : ∀ {l : List Env}, (∀ f ∈ l.filterMap (·.frame), ∀ o, h.get? f = some o → (∀ vs, o.data ≠ .fields vs) → ∃ o', h'.get? f = some o' ∧ ∀ vs, o'.data ≠ .fields vs) → h.FunFrames base l → h'.FunFrames base l
  | [], _, _ => trivial
  | env :: rest, k, ⟨hk, ⟨L, o, hf, hb, ho, hn⟩, hr⟩ => by
    obtain ⟨o', ho', hn'⟩ := k L (List.mem_filterMap.mpr ⟨env, List.mem_cons_self .., hf⟩) o ho hn
    refine ⟨hk, ⟨L, o', hf, hb, ho', hn'⟩, frs_mono (fun f hm => k f ?_) hr⟩
    obtain ⟨e, he, hef⟩ := List.mem_filterMap.mp hm
    exact List.mem_filterMap.mpr ⟨e, List.mem_cons_of_mem _ he, hef⟩
theorem frs_keeps {h h' base : Heap} {l : List Env} (k : ∀ f ∈ l.filterMap (·.frame), ∀ o, h.get? f = some o → h'.get? f = some o) (x : h.FunFrames base l) : h'.FunFrames base l :=
  frs_mono (fun f hf o ho hn => ⟨o, k f hf o ho, hn⟩) x

theorem MarkOk.keeps {h h' : Heap} (x : MarkOk W mkA μ h) (hk : ∀ M, mkA = some M → ∀ o, h.get? M = some o → h'.get? M = some o) : MarkOk W mkA μ h' := by
  cases mkA with
  | none => trivial
  | some M => exact ⟨let ⟨k, e⟩ := x.1; ⟨k, hk M rfl _ e⟩, x.2⟩

theorem Now.lt (x : Now B W mkA l b g s₀ s m μ) : b + 1 < s.heap.objs.size := let ⟨_, _, _, e, _⟩ := x.gob; Heap.lt_size e
theorem Now.guar (x : Now B W mkA l b g s₀ s m μ) : Guar B mkA l b g s₀ s := ⟨x.frs, x.keep, x.gens, x.os, x.drawn, x.bare⟩

/-- the heap has grown -/
theorem Now.grow (x : Now B W mkA l b g s₀ s m μ) {h' : Heap} {tk : Nat} (k : ∀ a o, s.heap.get? a = some o → h'.get? a = some o) : Now B W mkA l b g s₀ { s with heap := h', toks := tk } m μ :=
  ⟨x.fr.keeps k, x.gob.keeps k, fun a o h1 h2 h3 e => k a o (x.keep a o h1 h2 h3 e), x.mark.keeps fun M _ o e => k M o e, x.gens, x.os, x.drawn, x.mb, x.gg, x.bare, frs_keeps (fun _ _ _ e => k _ _ e) x.frs, x.low⟩
/-- a local is stored -/
theorem Now.store (x : Now B W mkA l b g s₀ s m μ) {h' : Heap} {tk : Nat} {m' : Str → Option Value} (hn : h'.Ns b m') (hs : Heap.SameBut b s.heap h') : Now B W mkA l b g s₀ { s with heap := h', toks := tk } m' μ :=
  ⟨x.fr.set hn hs, x.gob.sameBut hs (by refine neN ?_; omega), fun a o h1 h2 h3 e => (hs.2 a h2).trans (x.keep a o h1 h2 h3 e),
   x.mark.keeps fun M hM o e => (hs.2 M (by have := (x.mb M hM).1; refine neN ?_; omega)).trans e, x.gens, x.os, x.drawn, x.mb, x.gg, x.bare, frs_keeps (fun f hf o e => (hs.2 f (by have := (x.low f hf).1; refine neN (a := f) (b := b) ?_; omega)).trans e) x.frs, x.low⟩
/-- an object of the turn's own turns -/
theorem Now.own (x : Now B W mkA l b g s₀ s m μ) {h' : Heap} {tk : Nat} {a : Nat} (ha : b + 2 ≤ a) (hs : Heap.SameBut a s.heap h') : Now B W mkA l b g s₀ { s with heap := h', toks := tk } m μ :=
  ⟨x.fr.sameNew (by refine ltN ?_; omega) hs, x.gob.sameBut hs (by refine neN ?_; omega), fun c o h1 h2 h3 e => (hs.2 c (by refine neN ?_; omega)).trans (x.keep c o h1 h2 h3 e),
   x.mark.keeps fun M hM o e => (hs.2 M (by have := (x.mb M hM).1; refine neN ?_; omega)).trans e, x.gens, x.os, x.drawn, x.mb, x.gg, x.bare, frs_keeps (fun f hf o e => (hs.2 f (by have := (x.low f hf).1; refine neN (a := f) (b := a) ?_; omega)).trans e) x.frs, x.low⟩
theorem Now.ownExt (x : Now B W mkA l b g s₀ s m μ) {h' : Heap} {tk : Nat} {a : Nat} (ha : b + 2 ≤ a) (hs : Heap.ExtBut a s.heap h') : Now B W mkA l b g s₀ { s with heap := h', toks := tk } m μ := by
  refine ⟨⟨x.fr.ns.extBut hs (by refine neN ?_; omega), fun c o e => hs c o ?_ (x.fr.keep c o e), x.fr.above⟩, x.gob.extBut hs (by refine neN ?_; omega), fun c o h1 h2 h3 e => hs c o (by refine neN ?_; omega) (x.keep c o h1 h2 h3 e),
   x.mark.keeps fun M hM o e => hs M o (by have := (x.mb M hM).1; refine neN ?_; omega) e, x.gens, x.os, x.drawn, x.mb, x.gg, x.bare, frs_keeps (fun f hf o e => hs f o (by have := (x.low f hf).1; refine neN (a := f) (b := a) ?_; omega) e) x.frs, x.low⟩
  have h1 : @LT.lt Nat _ c B.objs.size := Heap.lt_size e
  have h2 : @LE.le Nat _ B.objs.size b := x.fr.above
  refine neN ?_
  omega
theorem Now.mono (x : Now B W mkA l b g s₀ s m μ) {m' : Str → Option Value} (h : m' = m) : Now B W mkA l b g s₀ s m' μ := h ▸ x
end
end Mine
end

/- part G8 -/
section
open PySem PySem.W PyProof.Rows PySem.W.X
set_option maxRecDepth 100000
namespace Mine

section
variable {prog : Program} {w : World} {A : Around} {E : Value → Shared → Prop} {s : Shared} {env : Env}
theorem wpAny_ExprAny {e : Expr} {pos : Pos} {Q : Flow → Shared → Prop} (h : wpAny (model prog w) A (eval e env) (fun _ s' => Q .next s') E s)
    (hi : interactive env = false := by rfl) (hs : swapsWith e none pos.line env = pure false := by rfl) :
    wpAny (model prog w) A (exec (.Expr e pos) env) Q E s := by
  rw [exec_Expr env e pos hi hs]
  exact wpAny_bind (wpAny_standAt (wpAny_bind (wpAny_mono h (fun v s' h' => wpAny_dropValue h') fun _ _ x => x)))
end

abbrev envL (D : EncD) (b : Addr) : Env := envX D.qL (scopeS listDef) b D.fL D.cdL D.clL
def tailL (D : EncD) (b : Addr) : Sem Fin := (execs ((bodyS listDef).drop 6) (envL D b)).wrap funK (funH (envL D b)) id id

section
variable {prog : Program} {w : World} {D : EncD} {B : Heap} {W : Web} {mkA : Option Addr} {A : Around} {l : List Env} {d b g : Nat} {s₀ s : Shared} {m : Str → Option Value} {μ : List Nat}

theorem Now.wake (x : Now B W mkA l b g s₀ s m μ) {gs : GenState} {s' : Shared} {μ' : List Nat} (r : Rely B mkA l b g (s.setGen g gs) s') (hg : s'.gens[g]? = some gs) (hm : MarkOk W mkA μ' s'.heap) :
    Now B W mkA l b g (s'.setGen g .running) (s'.setGen g .running) m μ' := by
  obtain ⟨oL, es, ep, hL, r1⟩ := x.fr.ns
  obtain ⟨oG, nm, qn, hG, r2⟩ := x.gob
  exact ⟨⟨⟨oL, es, ep, r.keep b oL (Nat.le_refl _) hL, r1⟩, r.base, x.fr.above⟩, ⟨oG, nm, qn, r.keep (b + 1) oG (Nat.le_succ _) hG, r2⟩, fun _ _ _ _ _ e => e, hm, fun _ _ => rfl, rfl, rfl, x.mb,
    by show g < (s'.gens.setIfInBounds g .running).size; rw [Array.size_setIfInBounds]; exact (Array.getElem?_eq_some_iff.mp hg).1, fun h => h, r.frs, x.low⟩

theorem Now.bNew (x : Now B W mkA l b g s₀ s m μ) : B.get? b = none := by
  cases e : B.get? b with
  | none => rfl
  | some o => exact absurd (Heap.lt_size e) (Nat.not_lt.mpr x.fr.above)
theorem kindL : (envL D b).scope.kind ≠ .module := by
  show (scopeS listDef).kind ≠ .module
  decide
theorem Now.frsIn (x : Now B W mkA l b g s₀ s m μ) : s.heap.FunFrames B (envL D b :: l) := Heap.FunFrames.cons kindL rfl x.fr.ns x.bNew x.frs

theorem Now.lowIn (x : Now B W mkA l b g s₀ s m μ) {b' : Nat} (h : b < b') : ∀ (f : Nat), f ∈ (envL D b :: l).filterMap (·.frame) → f < b' ∧ mkA ≠ some f := fun f hf => by
  rw [List.filterMap_cons_some (b := b) (by rfl), List.mem_cons] at hf
  rcases hf with rfl | hf
  · exact ⟨h, fun e => by
      have := (x.mb f e).1
      omega⟩
  · exact ⟨Nat.lt_trans (x.low f hf).1 h, (x.low f hf).2⟩

theorem erase_last {α β : Type} (f : β → α) (a : α) : ∀ xs : List β, (xs.map f ++ [a]).eraseIdx xs.length = xs.map f
  | [] => rfl
  | x :: xs => by simp [erase_last f a xs]

theorem mapSeq_ls (f : Array Value → Array Value) (its : Array Value) (k : Nat) : Obj.mapSeq f (lsObj its k) = lsObj (f its) (if ((f its).size == its.size) = true then k else k + 1) := rfl

/-- the last statement: the markers' list lets the last one go -/
theorem seg_pop {n : Nat} (I : D.In B) (hD : D.marks = match mkA with | none => .none | some M => .ref M) (x : Now B W mkA l b g s₀ s m μ) (hμ : mkA.isSome = true → μ ≠ []) (hlen : μ.length ≤ 1000) (hA : Aok A l d) :
    SegX (model prog w) A (.func (bodyS listDef) (envL D b)) ((execs ((bodyS listDef).drop 8) (envL D b)).wrap funK (funH (envL D b)) id id) [] s
      (PostOf B W mkA (Rep prog w B W mkA n) A l b g s₀ (.fin (if mkA.isSome then μ.dropLast else μ))) := by
  obtain ⟨c, hc, hcell⟩ := I.markL
  refine sx_execs_cons (sx_If (wpAny_isTrue_Compare1 (nm_F x.fr hc hcell (wpAny_Constant_none (isNot_none (wpAny_truthy_bool ?_))))))
  cases mkA with
  | none =>
    rw [hD]
    refine ite_f (by rfl) (sx_execs_nil (sx_execs_nil ?_))
    exact s_end prog w A _ _ s (.ok (.ret .none)) _ rfl ⟨rfl, x.guar, x.mark⟩
  | some M =>
    rw [hD]
    refine ite_t (by rfl) (sx_execs_cons (sx_stmt (wpAny_ExprAny ?_)))
    obtain ⟨⟨k, hM⟩, hp⟩ := x.mark
    refine wpAny_Call_method (T := "list") (id := "list.pop") (by rfl) (by rfl) (by rfl) F.plainAttrs_list F.slot_list_pop (by rfl) ?_
    refine nm_F x.fr hc (v := .ref M) (by have := hcell; rw [hD] at this; exact this) ?_
    refine ⟨⟨_, hM, rfl⟩, fun a e => by cases e; exact ⟨_, hM, rfl⟩, ?_⟩
    have hne : μ ≠ [] := hμ rfl
    obtain ⟨ys, y, rfl⟩ : ∃ ys y, μ = ys ++ [y] := by
      obtain ⟨ys, y, e⟩ := (List.eq_nil_or_concat μ).resolve_left hne
      exact ⟨ys, y, by rw [e, List.concat_eq_append]⟩
    refine P.pop_list (y := .ref (W.addr y)) hM (by simp) ?_ (by have : (1000 : Nat) ≤ sizeLine := by rw [sizeLine_eq]; decide
                                                                 simp at hlen ⊢; omega)
    have hs : Heap.SameBut M s.heap (s.heap.update M (Obj.mapSeq fun xs => xs.eraseIdxIfInBounds (((ys ++ [y]).map fun p => Value.ref (W.addr p)).toArray.size - 1))) := Heap.SameBut.update ..
    obtain ⟨hMb, hMB⟩ := x.mb M rfl
    refine sx_execs_nil (sx_execs_nil ?_)
    have e1 : (if (some M).isSome = true then (ys ++ [y]).dropLast else ys ++ [y]) = ys := by simp
    rw [e1]
    refine s_end prog w A _ _ _ (.ok (.ret .none)) _ rfl ⟨rfl, ⟨frs_mono (fun f _ o ho hn => ?_) x.frs, fun a o h1 h2 h3 e => ?_, x.gens, x.os, x.drawn, x.bare⟩, ?_, fun p hp' => hp p (List.mem_append_left _ hp')⟩
    · by_cases e : f = M
      · subst e
        exact ⟨_, Heap.get?_update_self _ hM rfl, fun vs hv => by rw [mapSeq_ls] at hv; cases hv⟩
      · exact ⟨o, (hs.2 f e).trans ho, hn⟩
    · exact (hs.2 a fun e' => h3 (by rw [e'])).trans (x.keep a o h1 h2 h3 e)
    · have e2 : (((ys ++ [y]).map fun p => Value.ref (W.addr p)).toArray.eraseIdxIfInBounds (((ys ++ [y]).map fun p => Value.ref (W.addr p)).toArray.size - 1)) = (ys.map fun p => Value.ref (W.addr p)).toArray := by
        simp [Array.eraseIdxIfInBounds, erase_last]
      exact ⟨_, (Heap.get?_update_self _ hM rfl).trans (congrArg some (Eq.trans (mapSeq_ls _ _ _) (congrArg (fun z => lsObj z _) e2)))⟩

/-- behind the loop: the text's end is told -/
theorem seg_close {n p : Nat} (I : D.In B) (hD : D.marks = match mkA with | none => .none | some M => .ref M) (x : Now B W mkA l b g s₀ s m μ) (hni : m "newline_indent" = some .none)
    (hμ : mkA.isSome = true → μ ≠ []) (hlen : μ.length ≤ 1000) (hA : Aok A l d) :
    SegX (model prog w) A (.func (bodyS listDef) (envL D b)) (tailL D b) [] s
      (PostOf B W mkA (Rep prog w B W mkA n) A l b g s₀ (.yield "]" (.atClose p) μ)) := by
  unfold tailL
  refine sx_execs_cons (sx_If (wpAny_isTrue_Compare1 (nameX_L x.fr hni (wpAny_Constant_none (isNot_none (wpAny_truthy_bool ?_))))))
  refine ite_f (by rfl) (sx_execs_nil (sx_execs_cons (sx_Yield rfl rfl rfl (wpAny_Constant_str fun pz lz k hk => ?_))))
  have x1 : Now B W mkA l b g s₀ { s with toks := s.toks + 1 } m μ := x.grow fun _ _ e => e
  refine ⟨_, _, _, _, _, _, rfl, x1.guar, x1.mark, ?_⟩
  cases n with
  | zero => trivial
  | succ n =>
    intro s' r hg hm
    refine hk .none _ _ ?_
    exact seg_pop I hD (x1.wake r hg hm) hμ hlen hA
end
end Mine
end

/- part G9 -/
section
open PySem PySem.W PyProof.Rows PySem.W.X
set_option maxRecDepth 100000
namespace Mine

/-- the lists that are begun and not yet ended -/
def road : GSt → List Nat
  | .fresh _ => []
  | .atInt p => [p]
  | .atSep p _ => [p]
  | .inside p _ σ => p :: road σ
  | .atEmpty _ => []
  | .atClose p => [p]

def Bal (chk : Bool) (μ₀ : List Nat) (σ : GSt) (μ : List Nat) : Prop := μ = if chk then μ₀ ++ road σ else μ₀

theorem bal_head {W : Web} {chk : Bool} {μ₀ μ : List Nat} {p k : Nat} (h : μ = if chk then μ₀ ++ [p] else μ₀) :
    match headOut W p k μ with | .yield _ σ' μ' => Bal chk μ₀ σ' μ' ∧ μ'.length ≤ μ.length + 1 | .fin _ => False | .raise => True := by
  unfold headOut
  cases hr : W.row p with
  | none => trivial
  | some ts =>
    dsimp only
    by_cases hk : k ≤ ts.length
    · rw [if_pos hk]; exact ⟨h, Nat.le_succ _⟩
    · rw [if_neg hk]; exact ⟨h, Nat.le_succ _⟩
theorem bal_fresh {W : Web} {chk : Bool} {μ₀ : List Nat} {p : Nat} :
    match freshOut W chk p μ₀ with | .yield _ σ' μ' => Bal chk μ₀ σ' μ' ∧ μ'.length ≤ μ₀.length + 1 | .fin _ => False | .raise => True := by
  unfold freshOut
  cases hr : W.row p with
  | none => exact ⟨by unfold Bal road; cases chk <;> simp, Nat.le_succ _⟩
  | some ts =>
    dsimp only
    by_cases hk : (chk && decide (p ∈ μ₀)) = true
    · rw [if_pos hk]; trivial
    · rw [if_neg hk]; exact ⟨by unfold Bal road; cases chk <;> simp, by cases chk <;> simp⟩
theorem bal_lift {W : Web} {chk : Bool} {μ₀ μ : List Nat} {p k : Nat} {o : Out}
    (ho : match o with | .yield _ σ' μ' => Bal chk (if chk then μ₀ ++ [p] else μ₀) σ' μ' ∧ μ'.length ≤ μ.length + 1 | .fin μ' => μ' = (if chk then μ₀ ++ [p] else μ₀) ∧ μ'.length ≤ μ.length | .raise => True) :
    match o.lift W p k with | .yield _ σ' μ' => Bal chk μ₀ σ' μ' ∧ μ'.length ≤ μ.length + 1 | .fin _ => False | .raise => True := by
  cases o with
  | yield x σ' μ' =>
    refine ⟨?_, ho.2⟩
    have := ho.1
    unfold Bal at this ⊢
    rw [this]
    cases chk <;> simp [road]
  | fin μ' =>
    show match headOut W p (k + 1) μ' with | .yield _ σ' μ'' => Bal chk μ₀ σ' μ'' ∧ μ''.length ≤ μ.length + 1 | .fin _ => False | .raise => True
    have := bal_head (W := W) (k := k + 1) ho.1
    revert this
    cases headOut W p (k + 1) μ' with
    | yield x σ' μ'' => exact fun h => ⟨h.1, Nat.le_trans h.2 (Nat.succ_le_succ ho.2)⟩
    | fin => exact id
    | raise => exact id
  | raise => trivial
theorem bal_step {W : Web} {chk : Bool} : ∀ {σ : GSt} {μ₀ μ : List Nat}, Bal chk μ₀ σ μ →
    match step W chk σ μ with | .yield _ σ' μ' => Bal chk μ₀ σ' μ' ∧ μ'.length ≤ μ.length + 1 | .fin μ' => μ' = μ₀ ∧ μ'.length ≤ μ.length | .raise => True
  | .fresh p, μ₀, μ, h => by
    have e : μ = μ₀ := by rw [h]; cases chk <;> simp [road]
    subst e
    have := bal_fresh (W := W) (chk := chk) (μ₀ := μ) (p := p)
    unfold step
    revert this
    cases freshOut W chk p μ with
    | yield => exact id
    | fin => exact fun h => h.elim
    | raise => exact id
  | .atInt p, μ₀, μ, h => by
    have := bal_head (W := W) (k := 1) (p := p) (μ₀ := μ₀) h
    unfold step
    revert this
    cases headOut W p 1 μ with
    | yield => exact id
    | fin => exact fun h => h.elim
    | raise => exact id
  | .atSep p k, μ₀, μ, h => by
    have hb := bal_fresh (W := W) (chk := chk) (μ₀ := μ) (p := ((W.row p).getD []).getD (k - 1) 0)
    have e : μ = if chk then μ₀ ++ [p] else μ₀ := h
    have := bal_lift (W := W) (chk := chk) (μ₀ := μ₀) (μ := μ) (p := p) (k := k) (o := freshOut W chk (((W.row p).getD []).getD (k - 1) 0) μ) (by
      revert hb
      cases freshOut W chk (((W.row p).getD []).getD (k - 1) 0) μ with
      | yield => rw [← e]; exact id
      | fin => exact fun h => h.elim
      | raise => exact id)
    unfold step
    revert this
    cases (freshOut W chk (((W.row p).getD []).getD (k - 1) 0) μ).lift W p k with
    | yield => exact id
    | fin => exact fun h => h.elim
    | raise => exact id
  | .inside p k σ, μ₀, μ, h => by
    have hb := bal_step (σ := σ) (μ₀ := if chk then μ₀ ++ [p] else μ₀) (μ := μ) (W := W) (chk := chk) (by
      unfold Bal at h ⊢
      rw [h]
      cases chk <;> simp [road])
    have := bal_lift (W := W) (chk := chk) (μ₀ := μ₀) (μ := μ) (p := p) (k := k) (o := step W chk σ μ) (by
      revert hb
      cases step W chk σ μ with
      | yield => exact id
      | fin => exact id
      | raise => exact id)
    unfold step
    revert this
    cases (step W chk σ μ).lift W p k with
    | yield => exact id
    | fin => exact fun h => h.elim
    | raise => exact id
  | .atEmpty p, μ₀, μ, h => by
    have e : μ = μ₀ := by rw [h]; cases chk <;> simp [road]
    exact ⟨e, Nat.le_refl _⟩
  | .atClose p, μ₀, μ, h => by
    have e : μ = if chk then μ₀ ++ [p] else μ₀ := h
    unfold step
    subst e
    cases chk <;> simp

end Mine
end

/- part G10 -/
section
open PySem PySem.W PyProof.Rows PySem.W.X
set_option maxRecDepth 100000
namespace Mine

def elseS : Stmt → List Stmt
  | .If _ _ o _ => o
  | _ => []
def forCode (st : Stmt) (it : Value) (env : Env) : Code := match st with
  | .For t _ b o _ => .forLoop t it b o env
  | _ => default
def bodyFor : List Stmt := bodyS (nthS 5 (bodyS listDef))
def chainElse : List Stmt := elseS (nthS 0 (elseS (nthS 0 (elseS (nthS 0 (elseS (nthS 0 (elseS (nthS 1 bodyFor)))))))))
abbrev loopL (D : EncD) (b it : Addr) : Code := forCode (nthS 5 (bodyS listDef)) (.ref it) (envL D b)
abbrev chunkL (D : EncD) (b a : Addr) : Code := forCode (nthS 2 chainElse) (.ref a) (envL D b)
def cameK (env : Env) (K : Flow → Sem Fin) (H : Value → Sem Fin) : Result → Sem Fin := fun r =>
  ((match r with | .ok f => (.pure f : Sem Flow) | .error e => .raise e).onRaise fun (x : Value) => do
    if (← field x 1) == Value.none then unsupported "frame.own-activation:exception-without-traceback"
    setFlight x env.frame).wrap K H id id
def kontL (D : EncD) (b : Addr) : Result → Sem Fin := cameK (envL D b) (fun f => match f with | .next => tailL D b | f => funK f) (funH (envL D b))
abbrev fsL (D : EncD) (b : Addr) (p : Pos) : List Frame := [.ret (kontL D b) none false [] (.func (bodyS listDef) (envL D b)) p []]
abbrev fsC (D : EncD) (b it : Addr) (K : Flow → Sem Fin) (p p2 : Pos) : List Frame := .ret (cameK (envL D b) K (forH (envL D b))) none false [] (loopL D b it) p2 [] :: fsL D b p
abbrev aroundC (A : Around) (D : EncD) (b it a : Addr) (K : Flow → Sem Fin) (p p2 : Pos) : Around := (A.over (chunkL D b a) (fsC D b it K p p2)).in1

/-- the locals between the loop's turns -/
structure LocL (m : Str → Option Value) : Prop where
  lvl : ∃ i t, m "_current_indent_level" = some (.int i t)
  sep : ∃ t, m "separator" = some (.str ", " t)
  first : m "first" = some (.bool false)
  ni : m "newline_indent" = some .none

theorem LocL.set {m : Str → Option Value} (x : LocL m) {y : Str} {v : Value} (hy : (["_current_indent_level", "separator", "first", "newline_indent"] : List Str).contains y = false) :
    LocL (fun z => if z = y then some v else m z) := by
  have ne : ∀ z ∈ (["_current_indent_level", "separator", "first", "newline_indent"] : List Str), z ≠ y := fun z hz e => by
    subst e
    rw [List.contains_iff_mem.mpr hz] at hy; cases hy
  refine ⟨?_, ?_, ?_, ?_⟩
  · rw [if_neg (ne _ (by decide))]; exact x.lvl
  · rw [if_neg (ne _ (by decide))]; exact x.sep
  · rw [if_neg (ne _ (by decide))]; exact x.first
  · rw [if_neg (ne _ (by decide))]; exact x.ni

theorem Web.item (W : Web) {p k : Nat} {ts : List Nat} (hr : W.row p = some ts) (hk : 1 ≤ k) (hk' : k ≤ ts.length) : (W.items p)[k]? = some (.ref (W.addr (ts.getD (k - 1) 0))) := by
  obtain ⟨j, rfl⟩ : ∃ j, k = j + 1 := ⟨k - 1, by omega⟩
  have hj : j < ts.length := by omega
  unfold Web.items
  rw [hr]
  simp [hj]
theorem Web.itemEnd (W : Web) {p k : Nat} {ts : List Nat} (hr : W.row p = some ts) (hk : ts.length + 1 ≤ k) : (W.items p)[k]? = none := by
  unfold Web.items
  rw [hr]
  simp; omega

section
variable (prog : Program) (w : World) (D : EncD) (B : Heap) (W : Web) (mkA : Option Addr)

def HeadN (n : Nat) : Prop := ∀ {A : Around} {l : List Env} {d b g : Nat} {s₀ s : Shared} {m : Str → Option Value} {μ₀ μ : List Nat} {p k it : Nat} {ts : List Nat} {pp : Pos},
  p < W.n → W.row p = some ts → 1 ≤ k → Now B W mkA l b g s₀ s m μ → LocL m → s.heap.IsListIter it (W.addr p) k → b + 2 ≤ it → μ = (if mkA.isSome then μ₀ ++ [p] else μ₀) →
  Aok A l d → d + n + 2 ≤ 900 → μ.length + n ≤ 1000 →
  SegX (model prog w) A (loopL D b it) (denote table (loopL D b it)) (fsL D b pp) s (PostOf B W mkA (Rep prog w B W mkA n) A l b g s₀ (headOut W p k μ))

def FreshN (n : Nat) : Prop := ∀ {A : Around} {l : List Env} {d b g : Nat} {s₀ s : Shared} {m : Str → Option Value} {μ : List Nat} {p : Nat},
  p < W.n → Now B W mkA l b g s₀ s m μ → m "lst" = some (.ref (W.addr p)) → (∃ i t, m "_current_indent_level" = some (.int i t)) →
  Aok A l d → d + n + 1 ≤ 900 → μ.length + n ≤ 1000 →
  SegX (model prog w) A (.func (bodyS listDef) (envL D b)) (denote table (.func (bodyS listDef) (envL D b))) [] s (PostOf B W mkA (Rep prog w B W mkA n) A l b g s₀ (freshOut W mkA.isSome p μ))

def InnerN (n : Nat) : Prop := ∀ {A : Around} {l : List Env} {d b g : Nat} {s₀ s : Shared} {m : Str → Option Value} {μ₀ μ : List Nat} {p k it : Nat} {ts : List Nat} {pp p2 : Pos} {K : Flow → Sem Fin} {b' g' : Nat} {gs' : GenState} {σ : GSt},
  p < W.n → W.row p = some ts → 1 ≤ k → K .next = .pure (.again (loopL D b it)) → Now B W mkA l b g s₀ s m μ → LocL m → s.heap.IsListIter it (W.addr p) (k + 1) → b + 2 ≤ it →
  s.heap.IsGen (b' + 1) g' → it < b' → g < g' → s.gens[g']? = some gs' → Bal mkA.isSome (if mkA.isSome then μ₀ ++ [p] else μ₀) σ μ →
  Aok A l d → d + n + 2 ≤ 900 → μ.length + n ≤ 1000 →
  Wake prog w (aroundC A D b it (b' + 1) K pp p2) gs' (s.setGen g' .running)
    (PostOf B W mkA (Rep prog w B W mkA n) (aroundC A D b it (b' + 1) K pp p2) (envL D b :: l) b' g' (s.setGen g' .running) (step W mkA.isSome σ μ)) →
  SegX (model prog w) A (chunkL D b (b' + 1)) (denote table (chunkL D b (b' + 1))) (fsC D b it K pp p2) s (PostOf B W mkA (Rep prog w B W mkA n) A l b g s₀ ((step W mkA.isSome σ μ).lift W p k))

def SepN (n : Nat) : Prop := ∀ {A : Around} {l : List Env} {d b g : Nat} {s₀ s : Shared} {m : Str → Option Value} {μ₀ μ : List Nat} {p k it : Nat} {ts : List Nat} {pp : Pos} {K : Flow → Sem Fin},
  p < W.n → W.row p = some ts → 1 ≤ k → k ≤ ts.length → K .next = .pure (.again (loopL D b it)) → Now B W mkA l b g s₀ s m μ → LocL m → m "value" = some (.ref (W.addr (ts.getD (k - 1) 0))) → s.heap.IsListIter it (W.addr p) (k + 1) → b + 2 ≤ it →
  μ = (if mkA.isSome then μ₀ ++ [p] else μ₀) → Aok A l d → d + n + 2 ≤ 900 → μ.length + n ≤ 1000 →
  SegX (model prog w) A (loopL D b it) ((execs (chainElse.drop 1) (envL D b)).wrap K (forH (envL D b)) id id) (fsL D b pp) s
    (PostOf B W mkA (Rep prog w B W mkA n) A l b g s₀ ((freshOut W mkA.isSome (ts.getD (k - 1) 0) μ).lift W p k))
end

section
variable {prog : Program} {w : World} {D : EncD} {B : Heap} {W : Web} {mkA : Option Addr}

theorem IsListIter_keeps {h h' : Heap} {a l i : Nat} (x : h.IsListIter a l i) (k : ∀ b o, h.get? b = some o → h'.get? b = some o) : h'.IsListIter a l i :=
  let ⟨o, ho, r⟩ := x; ⟨o, k _ _ ho, r⟩

theorem Rely.iter {B : Heap} {mkA : Option Addr} {l : List Env} {b g a c i : Nat} {s s' : Shared} (r : Rely B mkA l b g s s') (x : s.heap.IsListIter a c i) (h : b ≤ a) : s'.heap.IsListIter a c i :=
  let ⟨o, ho, q⟩ := x; ⟨o, r.keep a o h ho, q⟩

theorem head_n (I : D.In B) (hD : D.marks = match mkA with | none => .none | some M => .ref M) (WI : WebIn W B) {n : Nat} (hsep : ∀ n', n = n' + 1 → SepN prog w D B W mkA n') : HeadN prog w D B W mkA n := by
  intro A l d b g s₀ s m μ₀ μ p k it ts pp hp hr hk₀ x lo hit hib hμ hA hd hlen
  obtain ⟨kp, hpB⟩ := WI.here p hp
  have hls : s.heap.IsList (W.addr p) (W.items p) := ⟨_, x.fr.keep _ _ hpB, rfl, _, rfl⟩
  unfold headOut
  rw [hr]
  dsimp only
  refine sx_forLoop ?_
  by_cases hle : k ≤ ts.length
  · rw [if_pos hle]
    refine wpAny_pyNext_list_item hit hls (W.item hr hk₀ hle) fun h₁ hit₁ hs₁ => ?_
    have x₁ := x.own (tk := s.toks) hib hs₁
    have hq : ts.getD (k - 1) 0 < W.n := WI.inn p ts hp hr _ (by
      have : k - 1 < ts.length := by omega
      simp [List.getD, this])
    generalize hq' : ts.getD (k - 1) 0 = q at hq ⊢
    refine wpAny_storeName_local (by rfl) x₁.fr.ns fun h₂ hn₂ hs₂ => ?_
    have x₂ := x₁.store (tk := s.toks + 1) hn₂ hs₂
    have hit₂ : h₂.IsListIter it (W.addr p) (k + 1) := hit₁.extBut hs₂.extBut (by refine neN (a := it) (b := b) ?_; omega)
    have lo₂ := lo.set (y := "value") (v := .ref (W.addr q)) (by decide)
    refine sx_execs_cons (sx_If (wpAny_isTrue_value (nameX_L x₂.fr (by rw [if_neg (by decide)]; exact lo.first) (wpAny_truthy_bool ?_))))
    obtain ⟨tsep, hsp⟩ := lo₂.sep
    refine ite_f rfl (sx_execs_cons (sx_stmt (wpAny_Assign_Name (nameX_L x₂.fr hsp (wpAny_storeName_local (by rfl) x₂.fr.ns fun h₃ hn₃ hs₃ => ?_)))))
    have x₃ := x₂.store (tk := s.toks + 1 + 1) hn₃ hs₃
    have hit₃ : h₃.IsListIter it (W.addr p) (k + 1) := hit₂.extBut hs₃.extBut (by refine neN (a := it) (b := b) ?_; omega)
    have lo₃ := lo₂.set (y := "buf") (v := .str ", " tsep) (by decide)
    refine sx_execs_nil ?_
    have x3 := x₃
    have hit3 := hit₃
    obtain ⟨kq, hqB⟩ := WI.here q hq
    obtain ⟨dR, cdR, slR, hR⟩ := I.raw
    have bi := I.boot (x := "isinstance") (v := .builtin "isinstance") (by decide) (by decide +kernel)
    have bs := I.boot (x := "str") (v := .type "str") (by decide) (by decide +kernel)
    have bb := I.boot (x := "bool") (v := .type "bool") (by decide) (by decide +kernel)
    have bn := I.boot (x := "int") (v := .type "int") (by decide) (by decide +kernel)
    have hv : (fun z => if z = ("buf" : Str) then some (Value.str ", " tsep) else if z = ("value" : Str) then some (Value.ref (W.addr q)) else m z) "value" = some (.ref (W.addr q)) := by rfl
    refine sx_execs_cons (sx_If (wpAny_isTrue_value (call_b (nm_B x3.fr I.g bi.1 I.b bi.2 ⟨rfl, args2 (nameX_L x3.fr hv (nm_B x3.fr I.g bs.1 I.b bs.2 ?_))⟩))))
    refine isi_lst_str (x3.fr.keep _ _ hqB) (fun h4 tk4 k4 => wpAny_truthy_bool (ite_f rfl ?_))
    have x4 := x3.grow (tk := tk4) k4
    have hit4 : h4.IsListIter it (W.addr p) (k + 1) := IsListIter_keeps hit3 k4
    refine sx_execs_cons (sx_If (wpAny_isTrue_value (call_b (nm_B x4.fr I.g bi.1 I.b bi.2 ⟨rfl, args2 (nameX_L x4.fr hv (nm_G x4.fr I.g I.gR ?_))⟩))))
    refine isi_lst_ref (x4.fr.keep _ _ hqB) (x4.fr.keep _ _ hR) (fun h5 tk5 k5 => wpAny_truthy_bool (ite_f rfl ?_))
    have x5 := x4.grow (tk := tk5) k5
    have hit5 : h5.IsListIter it (W.addr p) (k + 1) := IsListIter_keeps hit4 k5
    refine sx_execs_cons (sx_If (wpAny_isTrue_Compare1 (nameX_L x5.fr hv (wpAny_Constant_none (is_none (wpAny_truthy_bool (ite_f rfl ?_)))))))
    refine sx_execs_cons (sx_If (wpAny_isTrue_value (call_b (nm_B x5.fr I.g bi.1 I.b bi.2 ⟨rfl, args2 (nameX_L x5.fr hv (nm_B x5.fr I.g bb.1 I.b bb.2 ?_))⟩))))
    refine isi_lst_bool (x5.fr.keep _ _ hqB) (fun h6 tk6 k6 => wpAny_truthy_bool (ite_f rfl ?_))
    have x6 := x5.grow (tk := tk6) k6
    have hit6 : h6.IsListIter it (W.addr p) (k + 1) := IsListIter_keeps hit5 k6
    refine sx_execs_cons (sx_If (wpAny_isTrue_value (call_b (nm_B x6.fr I.g bi.1 I.b bi.2 ⟨rfl, args2 (nameX_L x6.fr hv (nm_B x6.fr I.g bn.1 I.b bn.2 ?_))⟩))))
    refine isi_lst_int (x6.fr.keep _ _ hqB) (fun h7 tk7 k7 => wpAny_truthy_bool (ite_f rfl ?_))
    have x7 := x6.grow (tk := tk7) k7
    have hit7 : h7.IsListIter it (W.addr p) (k + 1) := IsListIter_keeps hit6 k7
    refine sx_execs_cons (sx_Yield rfl rfl rfl (nameX_L x7.fr (v := .str ", " tsep) (by rfl) fun pz lz kz hk => ?_))
    refine ⟨_, _, _, _, _, _, rfl, x7.guar, x7.mark, ?_⟩
    cases n with
    | zero => trivial
    | succ n =>
      intro s' r hg hm
      refine hk .none _ _ ?_
      have e : step W mkA.isSome (.atSep p k) μ = (freshOut W mkA.isSome (ts.getD (k - 1) 0) μ).lift W p k := by unfold step; rw [hr]; rfl
      rw [e]
      exact hsep n rfl hp hr hk₀ hle rfl (x7.wake r hg hm) (lo₃) (by rw [hq']; rfl) (r.iter hit7 (by omega)) hib hμ hA (by omega) (by omega)
  · rw [if_neg hle]
    refine wpAny_pyNext_list_end (aok_for hA).handled hit hls (W.itemEnd hr (by omega)) fun h₁ hx₁ => ?_
    have x₁ := x.ownExt (tk := s.toks) hib hx₁
    refine s_pop prog w A _ _ _ _ (.ok .next) _ rfl _ _ _ _ _ _ _ ?_
    exact seg_close I hD x₁ lo.ni (fun e => by rw [hμ, e]; simp) (by omega) hA
end
end Mine
end

/- part R1 -/
section
open PySem PySem.W PyProof.Rows PySem.W.X
set_option maxRecDepth 100000
namespace Mine
section
variable {prog : Program} {w : World} {A : Around} {c : Code} {fs : List Frame} {P : End → Shared → Prop} {s : Shared} {E : Value → Shared → Prop} {env : Env} {base : Heap} {l : List Env} {x L : Addr} {cls a0 : Value}

theorem wpAny_setFlight_sameW {M : Model} {Q : Unit → Shared → Prop} (hh : Heap.HeldW base l x cls a0 L s.heap)
    (h : ∀ h', Heap.HeldW base l x cls a0 L h' → s.heap.UpToSlots h' → Q () { s with heap := h' }) :
    wpAny M A (setFlight (.ref x) (some L)) Q E s := by
  obtain ⟨hkb, hnb, hl, oe, vs, T, oT, ts, he, hcls, hd, h1, hnT, hTe, hT, hdT, h3⟩ := hh
  have hsz3 : 3 < ts.size := (Array.getElem?_eq_some_iff.mp h3).1
  have other : ∀ b, b ≠ T → (s.heap.update T (Obj.mapFields (·.setIfInBounds 3 ((some L : Option Addr).elim Value.none fun f => rawInt f)))).get? b = s.heap.get? b :=
    fun b hb => Heap.get?_update_other _ _ (Ne.symm hb)
  have noRecord : ∀ b o, s.heap.get? b = some o → (∀ vs, o.data ≠ .fields vs) → b ≠ T := fun b o hb hnf q => by
    rw [q, hT] at hb; injection hb with hb; subst hb; exact hnf ts hdT
  unfold setFlight
  refine wpAny_bind (wpAny_field he hd h1 ?_)
  rw [if_pos (show (Value.ref T != Value.none) = true from by simp)]
  refine wpAny_setField hT hdT hsz3 (h _ ⟨fun b o hbo => (other b fun q => by rw [q, hnT] at hbo; cases hbo).trans (hkb b o hbo), hnb,
    hl.of_keeps fun b o hb hnf => ⟨o, (other b (noRecord b o hb hnf)).trans hb, rfl⟩, ?_⟩ fun b o hb hnf => ⟨o.slots, (other b (noRecord b o hb hnf)).trans hb⟩)
  exact ⟨oe, vs, T, _, _, (other x (Ne.symm hTe)).trans he, hcls, hd, h1, hnT, hTe, Heap.get?_update_self _ hT (Obj.isFreed_of_fields (Obj.data_mapFields hdT _)), Obj.data_mapFields hdT _, by simp [hsz3]⟩

theorem sx_came {K : Flow → Sem Fin} {H : Value → Sem Fin} (hf : env.frame = some L) (hh : Heap.HeldW base l x cls a0 L s.heap)
    (h : ∀ h', Heap.HeldW base l x cls a0 L h' → s.heap.UpToSlots h' → SegX (model prog w) A c (H (.ref x)) fs { s with heap := h' } P) :
    SegX (model prog w) A c (cameK env K H (.error (.ref x))) fs s P := by
  unfold cameK
  refine sx_wrap (wpAny_onRaise (wpAny_throw ?_))
  obtain ⟨oe, vs, T, oT, ts, he, hcls, hd, h1, _⟩ := hh.2.2.2
  refine wpAny_bind (wpAny_field he hd h1 ?_)
  rw [if_neg (show ¬ ((Value.ref T == Value.none) = true) from by simp)]
  rw [hf]
  exact wpAny_setFlight_sameW hh h

/-- an exception comes up out of a for's turn -/
theorem sx_forH (hfr : (A.over c fs).frames = some (env :: l)) (hf : env.frame = some L) (hh : Heap.FlyingW base (env :: l) x cls a0 s.heap)
    (h : ∀ h', Heap.HeldW base (env :: l) x cls a0 L h' → s.heap.UpToSlots h' → SegX (model prog w) A c (.raise (.ref x)) fs { s with heap := h' } P) :
    SegX (model prog w) A c (forH env (.ref x)) fs s P := by
  unfold forH
  refine sx_wrap (wpAny_bind (wpAny_looks_onW hfr hf hh fun h' hh' hu => wpAny_theTreesLotGoes (h h' hh' hu)))

theorem sx_forH_again (hf : env.frame = some L) (hh : Heap.HeldW base l x cls a0 L s.heap)
    (h : SegX (model prog w) A c (.raise (.ref x)) fs s P) : SegX (model prog w) A c (forH env (.ref x)) fs s P := by
  unfold forH
  exact sx_wrap (wpAny_bind (wpAny_noteFrame_againW hf hh.2.2.2 (wpAny_theTreesLotGoes h)))

theorem wpAny_leaves_heldW' {M : Model} {Q : Unit → Shared → Prop} (hf : env.frame = some L)
    (hh : Heap.HeldW base (env :: l) x cls a0 L s.heap) (hQ : ∀ h', Heap.FlyingW base l x cls a0 h' → s.heap.UpToSlots h' → Q () { s with heap := h' }) : wpAny M A (leaving env (.ref x)) Q E s := by
  unfold leaving
  refine wpAny_bind (wpAny_noteFrame_againW hf hh.2.2.2 ?_)
  refine wpAny_landsW hh fun h' hfl hu => ?_
  obtain ⟨k1, k2, ⟨_, _, k3⟩, k4⟩ := hfl
  exact hQ h' ⟨k1, k2, k3, k4⟩ hu

theorem sx_funH_held (hf : env.frame = some L) (hh : Heap.HeldW base (env :: l) x cls a0 L s.heap)
    (h : ∀ h', Heap.FlyingW base l x cls a0 h' → s.heap.UpToSlots h' → SegX (model prog w) A c (.raise (.ref x)) fs { s with heap := h' } P) :
    SegX (model prog w) A c (funH env (.ref x)) fs s P := by
  unfold funH
  exact sx_wrap (wpAny_leaves_heldW' hf hh h)
end
end Mine
end

/- part G11 -/
section
open PySem PySem.W PyProof.Rows PySem.W.X
set_option maxRecDepth 100000
namespace Mine
section
variable {prog : Program} {w : World} {D : EncD} {B : Heap} {W : Web} {mkA : Option Addr} {env : Env} {l : List Env} {b g b' g' : Nat} {s₀ s s₁ : Shared} {m : Str → Option Value} {μ μ' : List Nat}

theorem Now.notM (x : Now B W mkA l b g s₀ s m μ) {a : Nat} (h : b ≤ a) : mkA ≠ some a := fun e => by
  have := (x.mb a e).1
  omega
theorem gens_set_ne {s : Shared} {j i : Nat} {gs : GenState} (h : j ≠ i) : (s.setGen i gs).gens[j]? = s.gens[j]? := by
  show (s.gens.setIfInBounds i gs)[j]? = s.gens[j]?
  rw [Array.getElem?_setIfInBounds_ne (Ne.symm h)]
theorem gens_set_eq {s : Shared} {i : Nat} {gs : GenState} (h : i < s.gens.size) : (s.setGen i gs).gens[i]? = some gs := by
  show (s.gens.setIfInBounds i gs)[i]? = some gs
  rw [Array.getElem?_setIfInBounds_self_of_lt h]

/-- behind a turn of the generator within -/
theorem Now.after (x : Now B W mkA l b g s₀ s m μ) (hb : b + 2 ≤ b') (hg : g < g') (G : Guar B mkA (env :: l) b' g' (s.setGen g' .running) s₁) (M' : MarkOk W mkA μ' s₁.heap) (gs : GenState) (hgsb : gs.bare = true) :
    Now B W mkA l b g s₀ (s₁.setGen g' gs) m μ' := by
  obtain ⟨oL, es, ep, hL, r1⟩ := x.fr.ns
  obtain ⟨oG, nm, qn, hG, r2⟩ := x.gob
  have hge : ∀ j, j ≤ g → (s₁.setGen g' gs).gens[j]? = s.gens[j]? := fun j hj => by
    rw [gens_set_ne (by omega), G.gens j (by omega), gens_set_ne (by omega)]
  refine ⟨⟨⟨oL, es, ep, G.keep b oL (by omega) (by omega) (x.notM (Nat.le_refl _)) hL, r1⟩, fun a o e => ?_, x.fr.above⟩, ⟨oG, nm, qn, G.keep (b + 1) oG (by omega) (by omega) (x.notM (by omega)) hG, r2⟩,
    fun a o h1 h2 h3 e => G.keep a o (by omega) (by omega) h3 (x.keep a o h1 h2 h3 e), M', fun j hj => (hge j hj).trans (x.gens j hj), G.os.trans x.os, G.drawn.trans x.drawn, x.mb, ?_, fun h => AllBare.setG (G.bare (AllBare.setG (x.bare h) rfl)) hgsb, G.frs.2.2, x.low⟩
  · have h1 : @LT.lt Nat _ a B.objs.size := Heap.lt_size e
    have h2 : @LE.le Nat _ B.objs.size b := x.fr.above
    refine G.keep a o (by omega) (by omega) (fun e' => ?_) (x.fr.keep a o e)
    have := (x.mb a e').2
    rw [e] at this; cases this
  · have h1 := hge g (Nat.le_refl _)
    rw [Array.getElem?_eq_getElem x.gg] at h1
    exact (Array.getElem?_eq_some_iff.mp h1).1
end

section
variable {prog : Program} {w : World} {D : EncD} {B : Heap} {W : Web} {mkA : Option Addr}

theorem inner_n (I : D.In B) (hD : D.marks = match mkA with | none => .none | some M => .ref M) (WI : WebIn W B) {n : Nat} (hhead : HeadN prog w D B W mkA n) (hin : ∀ n', n = n' + 1 → InnerN prog w D B W mkA n') : InnerN prog w D B W mkA n := by
  intro A l d b g s₀ s m μ₀ μ p k it ts pp p2 K b' g' gs' σ hp hr hk₀ hK x lo hit hib hgen hib' hgg hgs hbal hA hd hlen hW
  have hb2 : b + 2 ≤ b' := by omega
  have hb := bal_step (W := W) hbal
  have hA2 : Aok (A.over (chunkL D b (b' + 1)) (fsC D b it K pp p2)) (envL D b :: l) (d + 1) := aok_for2 hA
  refine sx_forLoop ?_
  refine wpAny_pyNext_wake (a := b' + 1) (g := g') hA2.handled (I.nolimit.keeps x.fr.keep) (Nat.lt_of_le_of_lt hA2.depth (by show d + 1 < 1000; omega)) hgen hgs (hW.mono fun e s₁ hq he => ?_)
  generalize step W mkA.isSome σ μ = out at hb he ⊢
  cases out with
  | yield t σ' μ' =>
    obtain ⟨tok, li, kk, c, pe, fz, rfl, G, M', R⟩ := he
    have x₁ := x.after hb2 hgg G M' (End.susp (.str t tok) false li kk c pe fz).genState (End.bare_of_quiet hq)
    have hit₁ : s₁.heap.IsListIter it (W.addr p) (k + 1) := let ⟨o, ho, q⟩ := hit; ⟨o, G.keep it o (by omega) (by omega) (x.notM (by omega)) ho, q⟩
    have hgen₁ : s₁.heap.IsGen (b' + 1) g' := let ⟨o, nm, qn, ho, q⟩ := hgen; ⟨o, nm, qn, G.keep (b' + 1) o (by omega) (by omega) (x.notM (by omega)) ho, q⟩
    have hgsz : g' < s₁.gens.size := by
      have h1 := G.gens g' (Nat.le_refl _)
      rw [gens_set_eq (Array.getElem?_eq_some_iff.mp hgs).1] at h1
      exact (Array.getElem?_eq_some_iff.mp h1).1
    show wpAny _ _ (storeName (envL D b) _ (.str t tok)) _ _ _
    refine wpAny_storeName_local (by rfl) x₁.fr.ns fun h₂ hn₂ hs₂ => ?_
    have x₂ := x₁.store (tk := s₁.toks + 1) hn₂ hs₂
    refine sx_execs_cons (sx_Yield rfl rfl rfl (nameX_L x₂.fr (v := .str t tok) (by rfl) fun pz lz kz hk => ?_))
    refine ⟨_, _, _, _, _, _, rfl, x₂.guar, x₂.mark, ?_⟩
    cases n with
    | zero => trivial
    | succ n =>
      intro s' r hg hm
      refine hk .none _ _ ?_
      refine s_again prog w A _ _ _ _ _ rfl ?_
      have hit₂ : h₂.IsListIter it (W.addr p) (k + 1) := hit₁.extBut hs₂.extBut (by refine neN (a := it) (b := b) ?_; omega)
      have hgen₂ : h₂.IsGen (b' + 1) g' := hgen₁.extBut hs₂.extBut (by refine neN (a := b' + 1) (b := b) ?_; omega)
      have hgs' : (s'.setGen g .running).gens[g']? = some (End.susp (.str t tok) false li kk c pe fz).genState := by
        rw [gens_set_ne (by omega)]
        refine r.gens g' _ hgg ?_
        rw [gens_set_ne (by omega)]
        exact gens_set_eq hgsz
      refine hin n rfl hp hr hk₀ hK (x₂.wake r hg hm) (lo.set (y := "chunk") (by decide)) (r.iter hit₂ (by omega)) hib (let ⟨o, nm, qn, ho, q⟩ := hgen₂; ⟨o, nm, qn, r.keep (b' + 1) o (by omega) ho, q⟩) hib' hgg hgs' hb.1 hA (by omega) (by have := hb.2; omega) ?_
      refine R (s'.setGen g .running) ⟨(x₂.wake r hg hm).frsIn, fun a o ha e => r.keep a o (by omega) ((hs₂.2 a (by refine neN (a := a) (b := b) ?_; omega)).trans e), r.base, fun M hM => (r.mark M hM).trans (hs₂.2 M (by have := (x.mb M hM).1; refine neN (a := M) (b := b) ?_; omega)), fun j gs hj e => ?_⟩ hgs' hm
      rw [gens_set_ne (by omega)]
      refine r.gens j gs (by omega) ?_
      rw [gens_set_ne (by omega)]
      exact e
  | fin μ' =>
    obtain ⟨rfl, G, M'⟩ := he
    intro h' hk'
    have x₁ := (x.after hb2 hgg G M' .finished rfl).grow (tk := s₁.toks) hk'
    have hit₁ : h'.IsListIter it (W.addr p) (k + 1) := let ⟨o, ho, q⟩ := hit; ⟨o, hk' _ _ (G.keep it o (by omega) (by omega) (x.notM (by omega)) ho), q⟩
    refine s_pop prog w A _ _ _ _ (.ok .next) _ rfl _ _ _ _ _ _ _ ?_
    show SegX _ A _ (K .next) _ _ _
    rw [hK]
    refine s_again prog w A _ _ _ _ _ rfl ?_
    exact hhead hp hr (by omega) x₁ lo hit₁ hib hb.1 hA hd (by have := hb.2; omega)
  | raise =>
    obtain ⟨ex, rfl, ⟨base, a0, hBb, hkb, hfly⟩, hfrm, hgn, hos, hdr, hbr⟩ := he
    obtain ⟨oe, heo, hec⟩ := hfly.there
    have hmem : ∀ (a : Nat), a ∈ (envL D b :: l).filterMap (·.frame) ↔ a = b ∨ a ∈ l.filterMap (·.frame) := fun a => by
      rw [List.filterMap_cons_some (b := b) (by rfl), List.mem_cons]
    have hst : ∀ (a : Nat) o, a < b' + 2 → a ≠ b' → a ≠ b → mkA ≠ some a → a ∉ l.filterMap (·.frame) → s.heap.get? a = some o → base.get? a = some o := fun a o h1 h2 h3 h4 h5 e =>
      hkb a o h1 h2 h4 (fun hm => ((hmem a).mp hm).elim h3 h5) e
    have hgen₁ : s₁.heap.IsGen (b' + 1) g' := let ⟨o, nm, qn, ho, q⟩ := hgen; ⟨o, nm, qn, hfly.1 _ _ (hst (b' + 1) o (by omega) (by omega) (by omega) (x.notM (by omega)) (fun hm => by have := (x.low _ hm).1; omega) ho), q⟩
    refine ⟨⟨oe, "ValueError", heo, hec, by rw [isSubtype_type]; kernel_rfl⟩, hgen₁, ?_⟩
    show SegX _ A (chunkL D b (b' + 1)) (forH (envL D b) (.ref ex)) (fsC D b it K pp p2) _ _
    refine sx_forH (s := s₁.setGen g' .finished) hA2.frames rfl hfly fun h₁ hh₁ u₁ => ?_
    refine s_pop prog w A _ _ _ _ (.error (.ref ex)) _ rfl _ _ _ _ _ _ _ ?_
    refine sx_came rfl hh₁ fun h₂ hh₂ u₂ => ?_
    refine sx_forH_again rfl hh₂ ?_
    refine s_pop prog w A _ _ _ _ (.error (.ref ex)) _ rfl _ _ _ _ _ _ _ ?_
    refine sx_came rfl hh₂ fun h₃ hh₃ u₃ => ?_
    refine sx_funH_held rfl hh₃ fun h₄ hf₄ u₄ => ?_
    refine s_end prog w A _ _ _ (.error (.ref ex)) _ rfl ⟨ex, rfl, ⟨base, a0, hBb, fun a o h1 h2 h3 h4 e => hst a o (by omega) (by omega) h2 h3 h4 (x.keep a o h1 h2 h3 e), hf₄⟩, fun f hf o e => ?_, fun j hj => ?_, hos.trans x.os, hdr.trans x.drawn, fun h => AllBare.setG (hbr (AllBare.setG (x.bare h) rfl)) rfl⟩
    · obtain ⟨o', ho', hn'⟩ := (x.frs.mem hf).2
      have e' := x.keep f o (by have := (x.low f hf).1; omega) (by have := (x.low f hf).1; omega) (x.low f hf).2 e
      rw [e'] at ho'
      obtain rfl := Option.some.inj ho'
      obtain ⟨sl₁, h1⟩ := hfrm f ((hmem f).mpr (.inr hf)) o e'
      obtain ⟨sl, h2⟩ := (((u₁.trans u₂).trans u₃).trans u₄) f _ h1 hn'
      exact ⟨sl, h2⟩
    · show (s₁.gens.setIfInBounds g' .finished)[j]? = _
      rw [Array.getElem?_setIfInBounds_ne (by omega), hgn j (by omega), gens_set_ne (by omega)]
      exact x.gens j hj
end
end Mine
end

/- part G12 -/
section
open PySem PySem.W PyProof.Rows PySem.W.X
set_option maxRecDepth 100000
namespace Mine
section
variable {B : Heap} {W : Web} {mkA : Option Addr} {l : List Env} {b g : Nat} {s₀ s : Shared} {m : Str → Option Value} {μ : List Nat}
/-- a generator has been made -/
theorem Now.made (x : Now B W mkA l b g s₀ s m μ) {h' : Heap} {tk : Nat} (k : ∀ a o, s.heap.get? a = some o → h'.get? a = some o) (c : GenState) (hc : c.bare = true) : Now B W mkA l b g s₀ { s with heap := h', gens := s.gens.push c, toks := tk } m μ := by
  have y := x.grow (tk := tk) k
  refine ⟨y.fr, y.gob, y.keep, y.mark, fun j hj => ?_, y.os, y.drawn, y.mb, by show g < (s.gens.push c).size; rw [Array.size_push]; have := x.gg; omega, fun h => (x.bare h).push hc, y.frs, y.low⟩
  have : j < s.gens.size := Nat.lt_of_le_of_lt hj x.gg
  show (s.gens.push c)[j]? = _
  rw [Array.getElem?_push_lt this, ← x.gens j hj, Array.getElem?_eq_getElem this]
end

section
variable {prog : Program} {w : World} {D : EncD} {B : Heap} {W : Web} {mkA : Option Addr}

theorem sep_n (I : D.In B) (WI : WebIn W B) {n : Nat} (hfresh : FreshN prog w D B W mkA n) (hinner : InnerN prog w D B W mkA n) : SepN prog w D B W mkA n := by
  intro A l d b g s₀ s m μ₀ μ p k it ts pp K hp hr hk₀ hle hK x lo hv hit hib hμ hA hd hlen
  have hq : ts.getD (k - 1) 0 < W.n := WI.inn p ts hp hr _ (by
    have : k - 1 < ts.length := by omega
    simp [List.getD, this])
  generalize hq' : ts.getD (k - 1) 0 = q at hq hv ⊢
  obtain ⟨kq, hqB⟩ := WI.here q hq
  obtain ⟨ilv, tlv, hlv⟩ := lo.lvl
  have bi := I.boot (x := "isinstance") (v := .builtin "isinstance") (by decide) (by decide +kernel)
  have bl := I.boot (x := "list") (v := .type "list") (by decide) (by decide +kernel)
  refine sx_execs_cons (sx_If (wpAny_isTrue_value (call_b (nm_B x.fr I.g bi.1 I.b bi.2 ⟨rfl, args2 (nameX_L x.fr hv (nm_B x.fr I.g bl.1 I.b bl.2 ?_))⟩))))
  refine isi_lst_list (x.fr.keep _ _ hqB) (fun h₁ tk₁ k₁ => wpAny_truthy_bool (ite_t rfl ?_))
  have x₁ := x.grow (tk := tk₁) k₁
  have hit₁ : h₁.IsListIter it (W.addr p) (k + 1) := IsListIter_keeps hit k₁
  have hA1 : Aok (A.over (loopL D b it) (fsL D b pp)) (envL D b :: l) (d + 1) := aok_for hA
  obtain ⟨oL, doc, pm, ct, hoL, hdL⟩ := I.fnL
  obtain ⟨cL, hcL, hcellL⟩ := I.lstL
  refine sx_execs_cons (sx_stmt (wpAny_Assign_Name (call_f (o := oL) (nm_F x₁.fr hcL hcellL ⟨rfl, args2 (nameX_L x₁.fr hv (nameX_L x₁.fr hlv ⟨⟨x₁.fr.keep _ _ hoL, hdL⟩, wpAny_call (codeAny_call_generator (Nat.lt_of_le_of_lt hA1.depth (by show d + 1 < 1000; omega)) (x₁.fr.keep _ _ hoL) hdL rfl rfl rfl (I.recL.keeps x₁.fr.keep) ?_)⟩))⟩))))
  refine BindsTo.of_eq (binds := [("lst", Value.ref (W.addr q)), ("_current_indent_level", Value.int ilv tlv)]) rfl _ _ _ _ ?_
  refine wpAny_newFunctionEnv (show ∀ x ∈ (scopeS listDef).names, x.2 ≠ .cell from by decide +kernel) (locs (by kernel_rfl)) (fun h₂ hn₂ hs₂ => ?_)
  have hb1 : b + 1 < h₁.objs.size := x₁.lt
  have hsz : h₂.objs.size = h₁.objs.size + 1 := hs₂.1.trans (Heap.size_push ..)
  have k₂ : ∀ a o, h₁.get? a = some o → h₂.get? a = some o := fun a o e => (hs₂.2 a (Nat.ne_of_lt (Heap.lt_size e))).trans (Heap.get?_push_of_some _ e)
  refine ⟨I.nolimit.keeps fun a o e => k₂ a o (x₁.fr.keep a o e), ?_⟩
  have x₃ := x₁.made (tk := tk₁ + 2 + 1 + 1) (fun a o e => Heap.get?_push_of_some { cls := .type "generator", data := .fields #[.int s.gens.size 0, .str "_iterencode_list" (tk₁ + 2), .str D.qL (tk₁ + 2 + 1)] } (k₂ a o e)) (.fresh (.func (bodyS listDef) (envL D h₁.objs.size))) rfl
  have hgen₃ : (h₂.push { cls := .type "generator", data := .fields #[.int s.gens.size 0, .str "_iterencode_list" (tk₁ + 2), .str D.qL (tk₁ + 2 + 1)] }).IsGen (h₁.objs.size + 1) s.gens.size := by
    rw [← hsz]
    exact ⟨_, _, _, Heap.get?_push_size _ rfl, rfl, rfl, rfl⟩
  have hns₃ : (h₂.push { cls := .type "generator", data := .fields #[.int s.gens.size 0, .str "_iterencode_list" (tk₁ + 2), .str D.qL (tk₁ + 2 + 1)] }).Ns h₁.objs.size _ := hn₂.push _
  generalize hh₃ : h₂.push { cls := .type "generator", data := .fields #[.int s.gens.size 0, .str "_iterencode_list" (tk₁ + 2), .str D.qL (tk₁ + 2 + 1)] } = h₃ at x₃ hgen₃ hns₃
  have hit₃ : h₃.IsListIter it (W.addr p) (k + 1) := by
    rw [← hh₃]
    exact IsListIter_keeps hit₁ fun a o e => Heap.get?_push_of_some _ (k₂ a o e)
  have hitlt : it < h₁.objs.size := let ⟨_, ho, _⟩ := hit₁; Heap.lt_size ho
  show wpAny _ (A.over (loopL D b it) (fsL D b pp)) (storeName (envL D b) _ (.ref h₂.objs.size)) _ _ _
  rw [hsz]
  generalize hbb : h₁.objs.size = b' at *
  refine wpAny_storeName_local (by rfl) x₃.fr.ns fun h₄ hn₄ hs₄ => ?_
  have x₄ := x₃.store (tk := tk₁ + 2 + 1 + 1 + 1) hn₄ hs₄
  have hne : b' ≠ b := by omega
  have hgen₄ : h₄.IsGen (b' + 1) s.gens.size := hgen₃.extBut hs₄.extBut (by refine neN (a := b' + 1) (b := b) ?_; omega)
  have hit₄ : h₄.IsListIter it (W.addr p) (k + 1) := hit₃.extBut hs₄.extBut (by refine neN (a := it) (b := b) ?_; omega)
  have hns₄ : h₄.Ns b' (fun y => List.lookup y ([(("lst" : Str), Value.ref (W.addr q)), ("_current_indent_level", Value.int ilv tlv)] : List (Str × Value)).reverse) := hns₃.sameBut hs₄ hne
  have hgs : (s.gens.push (.fresh (.func (bodyS listDef) (envL D b'))))[s.gens.size]? = some (.fresh (.func (bodyS listDef) (envL D b'))) := Array.getElem?_push_size ..
  refine sx_execs_nil (sx_execs_cons (sx_For (nameX_L x₄.fr (v := .ref (b' + 1)) (by rfl) (wpAny_pyIter_gen hgen₄ (fun p2 => ?_)))))
  refine hinner (K := fun f => match f with | .next => (execs [] (envL D b)).wrap K (forH (envL D b)) id id | f => K f) (σ := .fresh q) (b' := b') (g' := s.gens.size) (p2 := p2) hp hr hk₀ hK x₄ (lo.set (y := "chunks") (by decide)) hit₄ hib hgen₄ hitlt x.gg hgs
    (by unfold Bal; rw [← hμ]; cases mkA.isSome <;> simp [road]) hA hd hlen ?_
  refine hfresh hq ⟨⟨hns₄, x₄.fr.keep, Nat.le_trans x₄.fr.above (by refine (Nat.le_of_lt ?_ : @LE.le Nat _ b b'); omega)⟩, hgen₄, fun _ _ _ _ _ e => e, x₄.mark, fun _ _ => rfl, rfl, rfl, fun M hM => ⟨by have := (x.mb M hM).1; omega, (x.mb M hM).2⟩, ?_, fun h => h, x₄.frsIn, x.lowIn (by omega)⟩ (by rfl) ⟨ilv, tlv, by rfl⟩ (aok_for2 hA).in1 (by omega) hlen
  show s.gens.size < ((s.gens.push _).setIfInBounds _ _).size
  rw [Array.size_setIfInBounds, Array.size_push]
  exact Nat.lt_succ_self _
end
end Mine
end

/- part G13 -/
section
open PySem PySem.W PyProof.Rows PySem.W.X
set_option maxRecDepth 100000
namespace Mine
section
variable {prog : Program} {w : World} {D : EncD} {B : Heap} {W : Web} {mkA : Option Addr}

theorem Web.items_none {W : Web} {p : Nat} (h : W.row p = none) : W.items p = #[] := by unfold Web.items; rw [h]
theorem Web.items_some {W : Web} {p : Nat} {ts : List Nat} (h : W.row p = some ts) : W.items p = (Value.int p (W.tok p) :: ts.map fun q => Value.ref (W.addr q)).toArray := by unfold Web.items; rw [h]
theorem web_size {W : Web} {B : Heap} (WI : WebIn W B) {p : Nat} (hp : p < W.n) : (W.items p).size ≤ 1001 := by
  cases hr : W.row p with
  | none => rw [Web.items_none hr]; exact Nat.zero_le _
  | some ts => rw [Web.items_some hr]; have := WI.len p ts hp hr; simp; omega

/-- the first value's turn, behind `first = False` -/
theorem first_turn (I : D.In B) (hD : D.marks = match mkA with | none => .none | some M => .ref M) (WI : WebIn W B) {n : Nat} (hhead : ∀ n', n = n' + 1 → HeadN prog w D B W mkA n')
    {A : Around} {l : List Env} {d b g it : Nat} {s₀ s : Shared} {m8 : Str → Option Value} {μ₀ μ : List Nat} {p : Nat} {ts : List Nat} {pp : Pos} {tb : Tok} {K : Flow → Sem Fin}
    (hp : p < W.n) (hr : W.row p = some ts) (x8 : Now B W mkA l b g s₀ s m8 μ) (hv : m8 "value" = some (.int p (W.tok p))) (hbuf : m8 "buf" = some (.str "[" tb)) (lo : LocL m8)
    (hit8 : s.heap.IsListIter it (W.addr p) 1) (hib : b + 2 ≤ it) (hK : K .next = .pure (.again (loopL D b it)))
    (hμ : μ = (if mkA.isSome then μ₀ ++ [p] else μ₀)) (hA : Aok A l d) (hd : d + n + 1 ≤ 900) (hlen : μ.length + n ≤ 1001)
    {T : Str} (hT : ("[" : Str) ++ Str.ofString (toString (p : Int)) = T) :
    SegX (model prog w) A (loopL D b it) ((execs (bodyFor.drop 1) (envL D b)).wrap K (forH (envL D b)) id id) (fsL D b pp) s
      (PostOf B W mkA (Rep prog w B W mkA n) A l b g s₀ (.yield T (.atInt p) μ)) := by
  obtain ⟨dR, cdR, slR, hR⟩ := I.raw
  have bi := I.boot (x := "isinstance") (v := .builtin "isinstance") (by decide) (by decide +kernel)
  have bs := I.boot (x := "str") (v := .type "str") (by decide) (by decide +kernel)
  have bb := I.boot (x := "bool") (v := .type "bool") (by decide) (by decide +kernel)
  have bn := I.boot (x := "int") (v := .type "int") (by decide) (by decide +kernel)
  have fr8 := x8.fr
  refine sx_execs_cons (sx_If (wpAny_isTrue_value (call_b (nm_B x8.fr I.g bi.1 I.b bi.2 ⟨rfl, args2 (nameX_L x8.fr hv (nm_B x8.fr I.g bs.1 I.b bs.2 ?_))⟩))))
  refine isi_int_str (fun h9 tk9 k9 => wpAny_truthy_bool (ite_f rfl ?_))
  have x9 := x8.grow (tk := tk9) k9
  have hit9 : h9.IsListIter it (W.addr p) 1 := IsListIter_keeps hit8 k9
  refine sx_execs_cons (sx_If (wpAny_isTrue_value (call_b (nm_B x9.fr I.g bi.1 I.b bi.2 ⟨rfl, args2 (nameX_L x9.fr hv (nm_G x9.fr I.g I.gR ?_))⟩))))
  refine isi_int_ref (x9.fr.keep _ _ hR) (fun h10 tk10 k10 => wpAny_truthy_bool (ite_f rfl ?_))
  have x10 := x9.grow (tk := tk10) k10
  have hit10 : h10.IsListIter it (W.addr p) 1 := IsListIter_keeps hit9 k10
  refine sx_execs_cons (sx_If (wpAny_isTrue_Compare1 (nameX_L x10.fr hv (wpAny_Constant_none (is_none (wpAny_truthy_bool (ite_f rfl ?_)))))))
  refine sx_execs_cons (sx_If (wpAny_isTrue_value (call_b (nm_B x10.fr I.g bi.1 I.b bi.2 ⟨rfl, args2 (nameX_L x10.fr hv (nm_B x10.fr I.g bb.1 I.b bb.2 ?_))⟩))))
  refine isi_int_bool (fun h11 tk11 k11 => wpAny_truthy_bool (ite_f rfl ?_))
  have x11 := x10.grow (tk := tk11) k11
  have hit11 : h11.IsListIter it (W.addr p) 1 := IsListIter_keeps hit10 k11
  refine sx_execs_cons (sx_If (wpAny_isTrue_value (call_b (nm_B x11.fr I.g bi.1 I.b bi.2 ⟨rfl, args2 (nameX_L x11.fr hv (nm_B x11.fr I.g bn.1 I.b bn.2 ?_))⟩))))
  refine isi_int_int (fun h12 tk12 k12 => wpAny_truthy_bool (ite_t rfl ?_))
  have x12 := x11.grow (tk := tk12) k12
  have hit12 : h12.IsListIter it (W.addr p) 1 := IsListIter_keeps hit11 k12
  obtain ⟨cE, hcE, hcellE⟩ := I.intL
  obtain ⟨oE, docE, pmE, ctE, hoE, hdE⟩ := I.fnI
  have hA1 : Aok (A.over (loopL D b it) (fsL D b pp)) (envL D b :: l) (d + 1) := aok_for hA
  have hroom : (A.over (loopL D b it) (fsL D b pp)).depth < recursionLimit := Nat.lt_of_le_of_lt hA1.depth (by show d + 1 < 1000; omega)
  have hsm := WI.small
  have hlog : (p : Int).natAbs.log2 < 1920 := by
    have hpn : p < 1000 := Nat.lt_of_lt_of_le hp hsm
    have e1 : p.log2 ≤ (1000 : Nat).log2 := by
      by_cases h0 : p = 0
      · subst h0; decide
      · exact (Nat.le_log2 (by decide)).mpr (Nat.le_trans (Nat.log2_self_le h0) (Nat.le_of_lt hpn))
    exact Nat.lt_of_le_of_lt e1 (by decide)
  refine sx_execs_cons (sx_Yield rfl rfl rfl (wpAny_BinOp (nameX_L x12.fr (v := .str "[" tb) hbuf (call_f (o := oE) (nm_F x12.fr hcE hcellE ⟨rfl, args1 (nameX_L x12.fr hv ⟨⟨x12.fr.keep _ _ hoE, hdE⟩, call_encode_int I x12.fr.keep (Nat.le_trans x12.fr.above (Nat.le_of_lt (Fr_lt x12.fr))) hroom ?_ fun h13 tk13 tk13' k13 => ?_⟩)⟩)))))
  · exact hlog
  · have x13 := x12.grow (tk := tk13') k13
    have hit13 : h13.IsListIter it (W.addr p) 1 := IsListIter_keeps hit12 k13
    refine add_str (fun t' tk' pz lz kz hk => ?_) ?_
    · rw [hT]
      have x14 := x13.grow (tk := tk') fun _ _ e => e
      refine ⟨_, _, _, _, _, _, rfl, x14.guar, x14.mark, ?_⟩
      cases n with
      | zero => trivial
      | succ n =>
        intro s' r hg hm
        refine hk .none _ _ ?_
        show SegX _ A _ (K .next) _ _ _
        rw [hK]
        refine s_again prog w A _ _ _ _ _ rfl ?_
        exact hhead n rfl hp hr (Nat.le_refl _) (x14.wake r hg hm) lo (r.iter hit13 (by omega)) hib hμ hA (by omega) (by omega)
    · rw [sizeLine_eq]
      have h1 := PyProof.Rows.int_text_len_1921 hlog
      have h2 : ("[" : Str).length = 1 := by decide +kernel
      rw [h2]
      omega
end
end Mine
end

/- part G14 -/
section
open PySem PySem.W PyProof.Rows PySem.W.X
set_option maxRecDepth 100000
namespace Mine
section
variable {prog : Program} {w : World} {D : EncD} {B : Heap} {W : Web} {mkA : Option Addr}

/-- the rest behind the look for circles -/
theorem fresh_rest (I : D.In B) (hD : D.marks = match mkA with | none => .none | some M => .ref M) (WI : WebIn W B) {n : Nat} (hhead : ∀ n', n = n' + 1 → HeadN prog w D B W mkA n')
    {A : Around} {l : List Env} {d b g : Nat} {s₀ s : Shared} {m : Str → Option Value} {μ₀ μ : List Nat} {p : Nat} {ts : List Nat}
    (hp : p < W.n) (hr : W.row p = some ts) (x : Now B W mkA l b g s₀ s m μ) (hlst : m "lst" = some (.ref (W.addr p))) (hlvl : ∃ i t, m "_current_indent_level" = some (.int i t))
    (hμ : μ = (if mkA.isSome then μ₀ ++ [p] else μ₀)) (hA : Aok A l d) (hd : d + n + 1 ≤ 900) (hlen : μ.length + n ≤ 1001)
    {T : Str} (hT : ("[" : Str) ++ Str.ofString (toString (p : Int)) = T) :
    SegX (model prog w) A (.func (bodyS listDef) (envL D b)) ((execs ((bodyS listDef).drop 2) (envL D b)).wrap funK (funH (envL D b)) id id) [] s
      (PostOf B W mkA (Rep prog w B W mkA n) A l b g s₀ (.yield T (.atInt p) μ)) := by
  obtain ⟨kp, hpB⟩ := WI.here p hp
  obtain ⟨cI, hcI, hcellI⟩ := I.indL
  obtain ⟨cS, tS, hcS, hcellS⟩ := I.sepL
  -- buf = '['
  refine sx_execs_cons (sx_stmt (wpAny_Assign_Name (wpAny_Constant_str (wpAny_storeName_local (by rfl) x.fr.ns fun h₁ hn₁ hs₁ => ?_))))
  have x₁ := x.store (tk := s.toks + 1 + 1) hn₁ hs₁
  -- if _indent is not None
  refine sx_execs_cons (sx_If (wpAny_isTrue_Compare1 (nm_F x₁.fr hcI hcellI (wpAny_Constant_none (isNot_none (wpAny_truthy_bool (ite_f (by rfl) ?_)))))))
  refine sx_execs_cons (sx_stmt (wpAny_Assign_Name (wpAny_Constant_none (wpAny_storeName_local (by rfl) x₁.fr.ns fun h₂ hn₂ hs₂ => ?_))))
  have x₂ := x₁.store (tk := s.toks + 1 + 1 + 1) hn₂ hs₂
  refine sx_execs_cons (sx_stmt (wpAny_Assign_Name (nm_F x₂.fr hcS hcellS (wpAny_storeName_local (by rfl) x₂.fr.ns fun h₃ hn₃ hs₃ => ?_))))
  have x₃ := x₂.store (tk := s.toks + 1 + 1 + 1 + 1) hn₃ hs₃
  -- first = True
  refine sx_execs_nil (sx_execs_cons (sx_stmt (wpAny_Assign_Name (wpAny_Constant_bool (wpAny_storeName_local (by rfl) x₃.fr.ns fun h₄ hn₄ hs₄ => ?_)))))
  have x₄ := x₃.store (tk := s.toks + 1 + 1 + 1 + 1 + 1) hn₄ hs₄
  -- for value in lst
  refine sx_execs_cons (sx_For (nameX_L x₄.fr (v := .ref (W.addr p)) (by exact hlst) (wpAny_pyIter_list (items := W.items p) ⟨_, x₄.fr.keep _ _ hpB, rfl, _, rfl⟩ (fun pp => ?_))))
  have hb4 : b + 1 < h₄.objs.size := x₄.lt
  have x₅ := x₄.grow (tk := s.toks + 1 + 1 + 1 + 1 + 1) (h' := h₄.push { cls := .type "list_iterator", data := .fields #[.ref (W.addr p), .int 0 0] }) fun _ _ e => Heap.get?_push_of_some _ e
  have hit₅ : (h₄.push { cls := .type "list_iterator", data := .fields #[.ref (W.addr p), .int 0 0] }).IsListIter h₄.objs.size (W.addr p) 0 := ⟨_, Heap.get?_push_size _ rfl, rfl, rfl⟩
  show SegX _ A (loopL D b h₄.objs.size) (denote table (loopL D b h₄.objs.size)) (fsL D b pp) ⟨h₄.push { cls := .type "list_iterator", data := .fields #[.ref (W.addr p), .int 0 0] }, _, _, _, _⟩ _
  generalize hi : h₄.objs.size = it at hit₅ hb4 ⊢
  generalize h₄.push { cls := .type "list_iterator", data := .fields #[.ref (W.addr p), .int 0 0] } = h₅ at x₅ hit₅ ⊢
  have hib : b + 2 ≤ it := hb4
  refine sx_forLoop ?_
  refine wpAny_pyNext_list_item hit₅ (items := W.items p) ⟨_, x₅.fr.keep _ _ hpB, rfl, _, rfl⟩ (x := .int p (W.tok p)) (by rw [Web.items_some hr]; rfl) fun h₆ hit₆ hs₆ => ?_
  have x₆ := x₅.own (tk := s.toks + 1 + 1 + 1 + 1 + 1) hib hs₆
  refine wpAny_storeName_local (by rfl) x₆.fr.ns fun h₇ hn₇ hs₇ => ?_
  have x₇ := x₆.store (tk := s.toks + 1 + 1 + 1 + 1 + 1 + 1) hn₇ hs₇
  have hit₇ : h₇.IsListIter it (W.addr p) 1 := hit₆.extBut hs₇.extBut (by refine neN (a := it) (b := b) ?_; omega)
  -- if first
  refine sx_execs_cons (sx_If (wpAny_isTrue_value (nameX_L x₇.fr (v := .bool true) (by rfl) (wpAny_truthy_bool (ite_t rfl ?_)))))
  refine sx_execs_cons (sx_stmt (wpAny_Assign_Name (wpAny_Constant_bool (wpAny_storeName_local (by rfl) x₇.fr.ns fun h₈ hn₈ hs₈ => ?_))))
  have x8 := x₇.store (tk := s.toks + 1 + 1 + 1 + 1 + 1 + 1 + 1) hn₈ hs₈
  have hit8 : h₈.IsListIter it (W.addr p) 1 := hit₇.extBut hs₈.extBut (by refine neN (a := it) (b := b) ?_; omega)
  refine sx_execs_nil ?_
  refine first_turn I hD WI hhead (tb := s.toks) hp hr x8 (by rfl) (by rfl) ⟨hlvl, ⟨tS, by rfl⟩, by rfl, by rfl⟩ hit8 hib (by rfl) hμ hA hd hlen hT
end
end Mine
end

/- part G15 -/
section
open PySem PySem.W PyProof.Rows PySem.W.X
set_option maxRecDepth 100000
namespace Mine
section
variable {prog : Program} {w : World} {D : EncD} {B : Heap} {W : Web} {mkA : Option Addr}

/-- the markers' list is another -/
theorem Now.marked {M : Nat} {l : List Env} {b g : Nat} {s₀ s : Shared} {m : Str → Option Value} {μ μ' : List Nat} (x : Now B W (some M) l b g s₀ s m μ) {h' : Heap} {tk k : Nat} (hs : Heap.SameBut M s.heap h')
    (hM : h'.get? M = some (lsObj (μ'.map fun p => Value.ref (W.addr p)).toArray k)) (hμ : ∀ p ∈ μ', p < W.n) : Now B W (some M) l b g s₀ { s with heap := h', toks := tk } m μ' := by
  obtain ⟨hMb, hMB⟩ := x.mb M rfl
  refine ⟨⟨x.fr.ns.sameBut hs (by refine neN (a := b) (b := M) ?_; omega), fun c o e => (hs.2 c fun q => by rw [q, hMB] at e; cases e).trans (x.fr.keep c o e), x.fr.above⟩, x.gob.sameBut hs (by refine neN ?_; omega),
    fun c o h1 h2 h3 e => (hs.2 c fun q => h3 (by rw [q])).trans (x.keep c o h1 h2 h3 e), ⟨⟨_, hM⟩, hμ⟩, x.gens, x.os, x.drawn, x.mb, x.gg, x.bare,
    frs_keeps (fun f hf o e => (hs.2 f fun q => (x.low f hf).2 (by rw [q])).trans e) x.frs, x.low⟩

/-- the raise of the look for circles -/
theorem raise_fresh (I : D.In B) {n : Nat} {A : Around} {l : List Env} {d b g : Nat} {s₀ s : Shared} {m : Str → Option Value} {μ : List Nat}
    (x : Now B W mkA l b g s₀ s m μ) (hA : Aok A l d) {K : Flow → Sem Fin} {pos np cpos sp : Pos} {msg : Str} {i : Nat} :
    SegX (model prog w) A (.func (bodyS listDef) (envL D b)) ((exec (.Raise (some (.Call (.Name "ValueError" np) [.Constant (.str msg) i sp] [] cpos)) none pos) (envL D b)).wrap K (funH (envL D b)) id id) [] s
      (PostOf B W mkA (Rep prog w B W mkA n) A l b g s₀ .raise) := by
  have bv := I.boot (x := "ValueError") (v := .type "ValueError") (by decide) (by decide +kernel)
  have hA1 : Aok (A.over (.func (bodyS listDef) (envL D b)) []) (envL D b :: l) (d + 1) := aok_func hA
  refine sx_stmt (wpAny_Raise_call F.excCall_ValueError F.excRaise_ValueError hA1.handled rfl (nm_B x.fr I.g bv.1 I.b bv.2 ⟨rfl, Calls.evalArgs_plain (args1 (wpAny_Constant_str ⟨rfl, by rw [sizeLine_eq]; show 1 ≤ 16777216; omega, fun h' e hx => ?_⟩))⟩))
  have hin : ∀ env ∈ (envL D b :: l), ∀ c, env.frame = some c → c ∈ (envL D b :: l).filterMap (·.frame) := fun env he c hc => List.mem_filterMap.mpr ⟨env, he, hc⟩
  have hmem : ∀ (a : Nat), a ∈ (envL D b :: l).filterMap (·.frame) ↔ a = b ∨ a ∈ l.filterMap (·.frame) := fun a => by
    rw [List.filterMap_cons_some (b := b) (by rfl), List.mem_cons]
  show SegX _ A _ (funH (envL D b) (.ref e)) [] _ _
  unfold funH
  refine sx_wrap (wpAny_leaves_madeW hA1.frames rfl (base := hideAll s.heap ((envL D b :: l).filterMap (·.frame))) (fun b o q => of_hideAll _ q) (funFrames_hide x.frsIn hin) hx.of fun h₁ t hf _ _ u => ?_)
  refine s_end prog w A _ _ _ (.error (.ref e)) _ rfl ⟨e, rfl, ⟨_, _, fun a o ha => hideAll_get _ (x.fr.keep a o ha) fun hm => ?_, fun a o h1 h2 h3 h4 ho => hideAll_get _ (x.keep a o h1 h2 h3 ho) fun hm => ((hmem a).mp hm).elim h2 h4, hf⟩,
    fun f hf o ho => ?_, x.gens, x.os, x.drawn, x.bare⟩
  · have := (x.frsIn.mem hm).1
    rw [ha] at this; cases this
  · obtain ⟨o', ho', hn'⟩ := (x.frs.mem hf).2
    have e' := x.keep f o (by have := (x.low f hf).1; omega) (by have := (x.low f hf).1; omega) (x.low f hf).2 ho
    rw [e'] at ho'
    obtain rfl := Option.some.inj ho'
    exact u f o (hx.keeps _ _ e') hn'

theorem fresh_n (I : D.In B) (hD : D.marks = match mkA with | none => .none | some M => .ref M) (WI : WebIn W B) {n : Nat} (hhead : ∀ n', n = n' + 1 → HeadN prog w D B W mkA n') : FreshN prog w D B W mkA n := by
  intro A l d b g s₀ s m μ p hp x hlst hlvl hA hd hlen
  obtain ⟨kp, hpB⟩ := WI.here p hp
  have hA1 : Aok (A.over (.func (bodyS listDef) (envL D b)) []) (envL D b :: l) (d + 1) := aok_func hA
  have hls : s.heap.IsList (W.addr p) (W.items p) := ⟨_, x.fr.keep _ _ hpB, rfl, _, rfl⟩
  refine sx_func (sx_execs_cons (sx_If (wpAny_isTrue_Not (wpAny_isTrue_value (nameX_L x.fr hlst (wpAny_truthy_list hls (by have := web_size WI hp; omega) ?_))))))
  have x₁ := x.grow (tk := s.toks + 1 + 1) (h' := s.heap) fun _ _ e => e
  unfold freshOut
  cases hr : W.row p with
  | none =>
    rw [Web.items_none hr]
    refine ite_t (by rfl) (sx_execs_cons (sx_Yield rfl rfl rfl (wpAny_Constant_str fun pz lz k hk => ?_)))
    have x2 := x₁.grow (tk := s.toks + 1 + 1 + 1) (h' := s.heap) fun _ _ e => e
    refine ⟨_, _, _, _, _, _, rfl, x2.guar, x2.mark, ?_⟩
    cases n with
    | zero => trivial
    | succ n =>
      intro s' r hg hm
      refine hk .none _ _ ?_
      refine sx_execs_cons (sx_stmt (wpAny_Return_none ?_))
      have x3 := x2.wake r hg hm
      exact s_end prog w A _ _ _ (.ok (.ret .none)) _ rfl ⟨rfl, x3.guar, x3.mark⟩
  | some ts =>
    rw [Web.items_some hr]
    refine ite_f (by rfl) (sx_execs_nil ?_)
    obtain ⟨c, hc, hcell⟩ := I.markL
    refine sx_execs_cons (sx_If (wpAny_isTrue_Compare1 (nm_F x₁.fr hc hcell (wpAny_Constant_none (isNot_none (wpAny_truthy_bool ?_))))))
    cases mkA with
    | none =>
      rw [hD]
      refine ite_f (by rfl) (sx_execs_nil ?_)
      exact fresh_rest (mkA := none) I hD WI hhead (μ₀ := μ) hp hr x₁ hlst hlvl rfl hA hd (by omega) rfl
    | some M =>
      rw [hD]
      refine ite_t (by rfl) ?_
      have hcell' := hcell
      rw [hD] at hcell'
      obtain ⟨oO, pmO, cdO, docO, hoO, hdO, hcO⟩ := I.isOpen
      obtain ⟨⟨k, hM⟩, hmu⟩ := x₁.mark
      have hM' : s.heap.get? M = some (lsObj ((μ.map W.addr).map Value.ref).toArray k) := by rw [List.map_map]; exact hM
      have hdec : decide (W.addr p ∈ μ.map W.addr) = decide (p ∈ μ) := by
        refine decide_eq_decide.mpr ⟨fun h => ?_, fun h => List.mem_map.mpr ⟨p, h, rfl⟩⟩
        obtain ⟨q, hq, e⟩ := List.mem_map.mp h
        rw [WI.inj p q hp (hmu q hq) e.symm]
        exact hq
      refine sx_execs_cons (sx_If (wpAny_isTrue_value (call_f (o := oO) (nm_G x₁.fr I.g I.gO ⟨rfl, args2 (nm_F x₁.fr hc hcell' (nameX_L x₁.fr hlst ⟨⟨x₁.fr.keep _ _ hoO, hdO⟩, call_is_open hA1.handled (Nat.lt_of_le_of_lt hA1.depth (by show d + 1 < 1000; omega)) (x₁.fr.keep _ _ hoO) hdO (I.nolimit.keeps x₁.fr.keep) (hcO.keeps x₁.fr.keep) hM' ?_ ⟨_, _, x₁.fr.keep _ _ hpB⟩ ?_⟩))⟩))))
      · intro a ha
        obtain ⟨q, hq, rfl⟩ := List.mem_map.mp ha
        obtain ⟨kq, hqB⟩ := WI.here q (hmu q hq)
        exact ⟨_, _, x₁.fr.keep _ _ hqB⟩
      rw [hdec]
      refine fun h₂ tk₂ k₂ => wpAny_truthy_bool ?_
      have x₂ := x₁.grow (tk := tk₂) k₂
      by_cases hpm : p ∈ μ
      · rw [if_pos (decide_eq_true hpm)]
        rw [if_pos (by rw [decide_eq_true hpm]; rfl)]
        exact sx_execs_cons (raise_fresh I x₂ hA)
      · rw [if_neg (by rw [decide_eq_false hpm]; exact Bool.false_ne_true)]
        rw [if_neg (by rw [decide_eq_false hpm]; exact Bool.false_ne_true)]
        refine sx_execs_nil (sx_execs_cons (sx_stmt (wpAny_ExprAny ?_)))
        refine wpAny_Call_method (T := "list") (id := "list.append") (by rfl) (by rfl) (by rfl) F.plainAttrs_list F.slot_list_append (by rfl) ?_
        refine nm_F x₂.fr hc (v := .ref M) hcell' ?_
        obtain ⟨⟨k', hM₂⟩, _⟩ := x₂.mark
        refine ⟨⟨_, hM₂, rfl⟩, fun a e => by cases e; exact ⟨_, hM₂, rfl⟩, ?_⟩
        refine P.append_list (nameX_L x₂.fr hlst ⟨_, _, by rw [sizeLine_eq]; simp; omega, hM₂, ?_⟩)
        refine sx_execs_nil ?_
        refine fresh_rest (mkA := some M) (μ₀ := μ) I hD WI hhead hp hr (x₂.marked (μ' := μ ++ [p]) (Heap.SameBut.update ..) ((Heap.get?_update_self _ hM₂ rfl).trans (congrArg some (Eq.trans (mapSeq_ls _ _ _) (congrArg (fun z => lsObj z _) ?_)))) fun q hq => ?_) hlst hlvl rfl hA hd (by simp; omega) rfl
        · simp
        · rcases List.mem_append.mp hq with h | h
          · exact hmu q h
          · rw [List.mem_singleton.mp h]; exact hp
end
end Mine
end

/- part G16 -/
section
open PySem PySem.W PyProof.Rows PySem.W.X
set_option maxRecDepth 100000
namespace Mine
section
variable {prog : Program} {w : World} {D : EncD} {B : Heap} {W : Web} {mkA : Option Addr}

theorem all_n (I : D.In B) (hD : D.marks = match mkA with | none => .none | some M => .ref M) (WI : WebIn W B) (n : Nat) :
    FreshN prog w D B W mkA n ∧ HeadN prog w D B W mkA n ∧ InnerN prog w D B W mkA n ∧ SepN prog w D B W mkA n := by
  induction n with
  | zero =>
    have hh : HeadN prog w D B W mkA 0 := @head_n _ _ _ _ _ _ I hD WI 0 (fun _ e => absurd e (by omega))
    have hf : FreshN prog w D B W mkA 0 := @fresh_n _ _ _ _ _ _ I hD WI 0 (fun _ e => absurd e (by omega))
    have hi : InnerN prog w D B W mkA 0 := @inner_n _ _ _ _ _ _ I hD WI 0 hh (fun _ e => absurd e (by omega))
    exact ⟨hf, hh, hi, @sep_n _ _ _ _ _ _ I WI 0 hf hi⟩
  | succ n ih =>
    obtain ⟨_, hh', hi', hs'⟩ := ih
    have hh : HeadN prog w D B W mkA (n + 1) := @head_n _ _ _ _ _ _ I hD WI (n + 1) (fun n' e => (Nat.succ.inj e) ▸ hs')
    have hf : FreshN prog w D B W mkA (n + 1) := @fresh_n _ _ _ _ _ _ I hD WI (n + 1) (fun n' e => (Nat.succ.inj e) ▸ hh')
    have hi : InnerN prog w D B W mkA (n + 1) := @inner_n _ _ _ _ _ _ I hD WI (n + 1) hh (fun n' e => (Nat.succ.inj e) ▸ hi')
    exact ⟨hf, hh, hi, @sep_n _ _ _ _ _ _ I WI (n + 1) hf hi⟩
end
end Mine
end

/- part G17 -/
section
open PySem PySem.W PyProof.Rows PySem.W.X
set_option maxRecDepth 100000
namespace Mine

abbrev envT (D : EncD) (b : Addr) : Env := envX D.qT (scopeS iterDef) b D.fT D.cdT D.clT
def branchT : List Stmt := bodyS (nthS 0 (elseS (nthS 0 (elseS (nthS 0 (elseS (nthS 0 (elseS (nthS 0 (elseS (nthS 0 (bodyS iterDef))))))))))))
abbrev chunkT (D : EncD) (b a : Addr) : Code := forCode (nthS 0 branchT) (.ref a) (envT D b)
abbrev fsT (D : EncD) (b : Addr) (K : Flow → Sem Fin) (p : Pos) : List Frame := [.ret (cameK (envT D b) K (funH (envT D b))) none false [] (.func (bodyS iterDef) (envT D b)) p []]
abbrev aroundT (A : Around) (D : EncD) (b a : Addr) (K : Flow → Sem Fin) (p : Pos) : Around := (A.over (chunkT D b a) (fsT D b K p)).in1

section
variable {prog : Program} {w : World} {D : EncD} {B : Heap} {W : Web} {mkA : Option Addr} {A : Around} {l : List Env} {d b g : Nat} {s₀ s : Shared} {m : Str → Option Value} {μ : List Nat}

theorem kindT : (envT D b).scope.kind ≠ .module := by
  show (scopeS iterDef).kind ≠ .module
  decide
theorem Now.frsT (x : Now B W mkA l b g s₀ s m μ) : s.heap.FunFrames B (envT D b :: l) := Heap.FunFrames.cons kindT rfl x.fr.ns x.bNew x.frs
theorem Now.lowT (x : Now B W mkA l b g s₀ s m μ) {b' : Nat} (h : b < b') : ∀ (f : Nat), f ∈ (envT D b :: l).filterMap (·.frame) → f < b' ∧ mkA ≠ some f := fun f hf => by
  rw [List.filterMap_cons_some (b := b) (by rfl), List.mem_cons] at hf
  rcases hf with rfl | hf
  · exact ⟨h, fun e => by
      have := (x.mb f e).1
      omega⟩
  · exact ⟨Nat.lt_trans (x.low f hf).1 h, (x.low f hf).2⟩

def InnerT (prog : Program) (w : World) (D : EncD) (B : Heap) (W : Web) (mkA : Option Addr) (n : Nat) : Prop := ∀ {A : Around} {l : List Env} {d b g : Nat} {s₀ s : Shared} {m : Str → Option Value} {μ : List Nat} {pp : Pos} {K : Flow → Sem Fin} {b' g' : Nat} {gs' : GenState} {σ : GSt},
  K .next = .pure (.done (.ret .none)) → Now B W mkA l b g s₀ s m μ →
  s.heap.IsGen (b' + 1) g' → b + 2 ≤ b' → g < g' → s.gens[g']? = some gs' →
  Aok A l d → d ≤ 900 →
  Wake prog w (aroundT A D b (b' + 1) K pp) gs' (s.setGen g' .running)
    (PostOf B W mkA (Rep prog w B W mkA n) (aroundT A D b (b' + 1) K pp) (envT D b :: l) b' g' (s.setGen g' .running) (step W mkA.isSome σ μ)) →
  SegX (model prog w) A (chunkT D b (b' + 1)) (denote table (chunkT D b (b' + 1))) (fsT D b K pp) s (PostOf B W mkA (Rep prog w B W mkA n) A l b g s₀ (step W mkA.isSome σ μ))

theorem inner_t (I : D.In B) {n : Nat} (hin : ∀ n', n = n' + 1 → InnerT prog w D B W mkA n') : InnerT prog w D B W mkA n := by
  intro A l d b g s₀ s m μ pp K b' g' gs' σ hK x hgen hb2 hgg hgs hA hd hW
  have hA2 : Aok (A.over (chunkT D b (b' + 1)) (fsT D b K pp)) (envT D b :: l) (d + 1) := aok_for hA
  refine sx_forLoop ?_
  refine wpAny_pyNext_wake (a := b' + 1) (g := g') hA2.handled (I.nolimit.keeps x.fr.keep) (Nat.lt_of_le_of_lt hA2.depth (by show d + 1 < 1000; omega)) hgen hgs (hW.mono fun e s₁ hq he => ?_)
  generalize ho : step W mkA.isSome σ μ = out at he ⊢
  cases out with
  | yield t σ' μ' =>
    obtain ⟨tok, li, kk, c, pe, fz, rfl, G, M', R⟩ := he
    have x₁ := x.after hb2 hgg G M' (End.susp (.str t tok) false li kk c pe fz).genState (End.bare_of_quiet hq)
    have hgen₁ : s₁.heap.IsGen (b' + 1) g' := let ⟨o, nm, qn, ho, q⟩ := hgen; ⟨o, nm, qn, G.keep (b' + 1) o (by omega) (by omega) (x.notM (by omega)) ho, q⟩
    have hgsz : g' < s₁.gens.size := by
      have h1 := G.gens g' (Nat.le_refl _)
      rw [gens_set_eq (Array.getElem?_eq_some_iff.mp hgs).1] at h1
      exact (Array.getElem?_eq_some_iff.mp h1).1
    show wpAny _ _ (storeName (envT D b) _ (.str t tok)) _ _ _
    refine wpAny_storeName_local (by rfl) x₁.fr.ns fun h₂ hn₂ hs₂ => ?_
    have x₂ := x₁.store (tk := s₁.toks + 1) hn₂ hs₂
    refine sx_execs_cons (sx_Yield rfl rfl rfl (nameX_L x₂.fr (v := .str t tok) (by rfl) fun pz lz kz hk => ?_))
    refine ⟨_, _, _, _, _, _, rfl, x₂.guar, x₂.mark, ?_⟩
    cases n with
    | zero => trivial
    | succ n =>
      intro s' r hg hm
      refine hk .none _ _ ?_
      refine s_again prog w A _ _ _ _ _ rfl ?_
      have hgen₂ : h₂.IsGen (b' + 1) g' := hgen₁.extBut hs₂.extBut (by refine neN (a := b' + 1) (b := b) ?_; omega)
      have hgs' : (s'.setGen g .running).gens[g']? = some (End.susp (.str t tok) false li kk c pe fz).genState := by
        rw [gens_set_ne (by omega)]
        refine r.gens g' _ hgg ?_
        rw [gens_set_ne (by omega)]
        exact gens_set_eq hgsz
      refine hin n rfl hK (x₂.wake r hg hm) (let ⟨o, nm, qn, ho, q⟩ := hgen₂; ⟨o, nm, qn, r.keep (b' + 1) o (by omega) ho, q⟩) hb2 hgg hgs' hA (by omega) ?_
      refine R (s'.setGen g .running) ⟨(x₂.wake r hg hm).frsT, fun a o ha e => r.keep a o (by omega) ((hs₂.2 a (by refine neN (a := a) (b := b) ?_; omega)).trans e), r.base, fun M hM => (r.mark M hM).trans (hs₂.2 M (by have := (x.mb M hM).1; refine neN (a := M) (b := b) ?_; omega)), fun j gs hj e => ?_⟩ hgs' hm
      rw [gens_set_ne (by omega)]
      refine r.gens j gs (by omega) ?_
      rw [gens_set_ne (by omega)]
      exact e
  | fin μ' =>
    obtain ⟨rfl, G, M'⟩ := he
    intro h' hk'
    have x₁ := (x.after hb2 hgg G M' .finished rfl).grow (tk := s₁.toks) hk'
    refine s_pop prog w A _ _ _ _ (.ok .next) _ rfl _ _ _ _ _ _ _ ?_
    show SegX _ A _ (K .next) _ _ _
    rw [hK]
    exact s_end prog w A _ _ _ (.ok (.ret .none)) _ rfl ⟨rfl, x₁.guar, x₁.mark⟩
  | raise =>
    obtain ⟨ex, rfl, ⟨base, a0, hBb, hkb, hfly⟩, hfrm, hgn, hos, hdr, hbr⟩ := he
    obtain ⟨oe, heo, hec⟩ := hfly.there
    have hmem : ∀ (a : Nat), a ∈ (envT D b :: l).filterMap (·.frame) ↔ a = b ∨ a ∈ l.filterMap (·.frame) := fun a => by
      rw [List.filterMap_cons_some (b := b) (by rfl), List.mem_cons]
    have hst : ∀ (a : Nat) o, a < b' + 2 → a ≠ b' → a ≠ b → mkA ≠ some a → a ∉ l.filterMap (·.frame) → s.heap.get? a = some o → base.get? a = some o := fun a o h1 h2 h3 h4 h5 e =>
      hkb a o h1 h2 h4 (fun hm => ((hmem a).mp hm).elim h3 h5) e
    have hgen₁ : s₁.heap.IsGen (b' + 1) g' := let ⟨o, nm, qn, ho, q⟩ := hgen; ⟨o, nm, qn, hfly.1 _ _ (hst (b' + 1) o (by omega) (by omega) (by omega) (x.notM (by omega)) (fun hm => by have := (x.low _ hm).1; omega) ho), q⟩
    refine ⟨⟨oe, "ValueError", heo, hec, by rw [isSubtype_type]; kernel_rfl⟩, hgen₁, ?_⟩
    show SegX _ A (chunkT D b (b' + 1)) (forH (envT D b) (.ref ex)) (fsT D b K pp) _ _
    refine sx_forH (s := s₁.setGen g' .finished) hA2.frames rfl hfly fun h₁ hh₁ u₁ => ?_
    refine s_pop prog w A _ _ _ _ (.error (.ref ex)) _ rfl _ _ _ _ _ _ _ ?_
    refine sx_came rfl hh₁ fun h₂ hh₂ u₂ => ?_
    refine sx_funH_held rfl hh₂ fun h₄ hf₄ u₄ => ?_
    refine s_end prog w A _ _ _ (.error (.ref ex)) _ rfl ⟨ex, rfl, ⟨base, a0, hBb, fun a o h1 h2 h3 h4 e => hst a o (by omega) (by omega) h2 h3 h4 (x.keep a o h1 h2 h3 e), hf₄⟩, fun f hf o e => ?_, fun j hj => ?_, hos.trans x.os, hdr.trans x.drawn, fun h => AllBare.setG (hbr (AllBare.setG (x.bare h) rfl)) rfl⟩
    · obtain ⟨o', ho', hn'⟩ := (x.frs.mem hf).2
      have e' := x.keep f o (by have := (x.low f hf).1; omega) (by have := (x.low f hf).1; omega) (x.low f hf).2 e
      rw [e'] at ho'
      obtain rfl := Option.some.inj ho'
      obtain ⟨sl₁, h1⟩ := hfrm f ((hmem f).mpr (.inr hf)) o e'
      obtain ⟨sl, h2⟩ := ((u₁.trans u₂).trans u₄) f _ h1 hn'
      exact ⟨sl, h2⟩
    · show (s₁.gens.setIfInBounds g' .finished)[j]? = _
      rw [Array.getElem?_setIfInBounds_ne (by omega), hgn j (by omega), gens_set_ne (by omega)]
      exact x.gens j hj

theorem inner_t_all (I : D.In B) (n : Nat) : InnerT prog w D B W mkA n := by
  induction n with
  | zero => exact @inner_t _ _ _ _ _ _ I 0 (fun _ e => absurd e (by omega))
  | succ n ih => exact @inner_t _ _ _ _ _ _ I (n + 1) (fun n' e => (Nat.succ.inj e) ▸ ih)
end
end Mine
end

/- part G18 -/
section
open PySem PySem.W PyProof.Rows PySem.W.X
set_option maxRecDepth 100000
namespace Mine
section
variable {prog : Program} {w : World} {D : EncD} {B : Heap} {W : Web} {mkA : Option Addr}

theorem fresh_t (I : D.In B) (hD : D.marks = match mkA with | none => .none | some M => .ref M) (WI : WebIn W B) (n : Nat)
    {A : Around} {l : List Env} {d b g : Nat} {s₀ s : Shared} {m : Str → Option Value} {μ : List Nat} {p : Nat}
    (hp : p < W.n) (x : Now B W mkA l b g s₀ s m μ) (hv : m "o" = some (.ref (W.addr p))) (hlvl : ∃ i t, m "_current_indent_level" = some (.int i t)) (hA : Aok A l d) (hd : d + n + 2 ≤ 900) (hlen : μ.length + n ≤ 1000) :
    SegX (model prog w) A (.func (bodyS iterDef) (envT D b)) (denote table (.func (bodyS iterDef) (envT D b))) [] s (PostOf B W mkA (Rep prog w B W mkA n) A l b g s₀ (step W mkA.isSome (.fresh p) μ)) := by
  obtain ⟨kq, hqB⟩ := WI.here p hp
  obtain ⟨ilv, tlv, hlv⟩ := hlvl
  have hA1 : Aok (A.over (.func (bodyS iterDef) (envT D b)) []) (envT D b :: l) (d + 1) := aok_func hA
  obtain ⟨dR, cdR, slR, hR⟩ := I.raw
  have bi := I.boot (x := "isinstance") (v := .builtin "isinstance") (by decide) (by decide +kernel)
  have bb := I.boot (x := "bool") (v := .type "bool") (by decide) (by decide +kernel)
  have bl := I.boot (x := "list") (v := .type "list") (by decide) (by decide +kernel)
  refine sx_func (sx_execs_cons (sx_If (wpAny_isTrue_value (call_b (nm_B x.fr I.g bi.1 I.b bi.2 ⟨rfl, args2 (nameX_L x.fr hv (nm_G x.fr I.g I.gS ?_))⟩)))))
  refine isi_lst_str (x.fr.keep _ _ hqB) (fun h4 tk4 k4 => wpAny_truthy_bool (ite_f rfl ?_))
  have x4 := x.grow (tk := tk4) k4
  refine sx_execs_cons (sx_If (wpAny_isTrue_value (call_b (nm_B x4.fr I.g bi.1 I.b bi.2 ⟨rfl, args2 (nameX_L x4.fr hv (nm_G x4.fr I.g I.gR ?_))⟩))))
  refine isi_lst_ref (x4.fr.keep _ _ hqB) (x4.fr.keep _ _ hR) (fun h5 tk5 k5 => wpAny_truthy_bool (ite_f rfl ?_))
  have x5 := x4.grow (tk := tk5) k5
  refine sx_execs_cons (sx_If (wpAny_isTrue_Compare1 (nameX_L x5.fr hv (wpAny_Constant_none (is_none (wpAny_truthy_bool (ite_f rfl ?_)))))))
  refine sx_execs_cons (sx_If (wpAny_isTrue_value (call_b (nm_B x5.fr I.g bi.1 I.b bi.2 ⟨rfl, args2 (nameX_L x5.fr hv (nm_B x5.fr I.g bb.1 I.b bb.2 ?_))⟩))))
  refine isi_lst_bool (x5.fr.keep _ _ hqB) (fun h6 tk6 k6 => wpAny_truthy_bool (ite_f rfl ?_))
  have x6 := x5.grow (tk := tk6) k6
  refine sx_execs_cons (sx_If (wpAny_isTrue_value (call_b (nm_B x6.fr I.g bi.1 I.b bi.2 ⟨rfl, args2 (nameX_L x6.fr hv (nm_G x6.fr I.g I.gT ?_))⟩))))
  refine isi_lst_int (x6.fr.keep _ _ hqB) (fun h7 tk7 k7 => wpAny_truthy_bool (ite_f rfl ?_))
  have x7 := x6.grow (tk := tk7) k7
  refine sx_execs_cons (sx_If (wpAny_isTrue_value (call_b (nm_B x7.fr I.g bi.1 I.b bi.2 ⟨rfl, args2 (nameX_L x7.fr hv (nm_B x7.fr I.g bl.1 I.b bl.2 ?_))⟩))))
  refine isi_lst_list (x7.fr.keep _ _ hqB) (fun h₁ tk₁ k₁ => wpAny_truthy_bool (ite_t rfl ?_))
  have x₁ := x7.grow (tk := tk₁) k₁
  obtain ⟨oL, doc, pm, ct, hoL, hdL⟩ := I.fnL
  obtain ⟨cL, hcL, hcellL⟩ := I.lstT
  have hlv' : m "_current_indent_level" = some (.int ilv tlv) := hlv
  refine sx_execs_cons (sx_For (call_f (o := oL) (nm_F x₁.fr hcL hcellL ⟨rfl, args2 (nameX_L x₁.fr hv (nameX_L x₁.fr hlv ⟨⟨x₁.fr.keep _ _ hoL, hdL⟩, wpAny_call (codeAny_call_generator (Nat.lt_of_le_of_lt hA1.depth (by show d + 1 < 1000; omega)) (x₁.fr.keep _ _ hoL) hdL rfl rfl rfl (I.recL.keeps x₁.fr.keep) ?_)⟩))⟩)))
  refine BindsTo.of_eq (binds := [("lst", Value.ref (W.addr p)), ("_current_indent_level", Value.int ilv tlv)]) rfl _ _ _ _ ?_
  refine wpAny_newFunctionEnv (show ∀ x ∈ (scopeS listDef).names, x.2 ≠ .cell from by decide +kernel) (locs (by kernel_rfl)) (fun h₂ hn₂ hs₂ => ?_)
  have hb1 : b + 1 < h₁.objs.size := x₁.lt
  have hsz : h₂.objs.size = h₁.objs.size + 1 := hs₂.1.trans (Heap.size_push ..)
  have k₂ : ∀ a o, h₁.get? a = some o → h₂.get? a = some o := fun a o e => (hs₂.2 a (Nat.ne_of_lt (Heap.lt_size e))).trans (Heap.get?_push_of_some _ e)
  refine ⟨I.nolimit.keeps fun a o e => k₂ a o (x₁.fr.keep a o e), ?_⟩
  have x₃ := x₁.made (tk := tk₁ + 2 + 1 + 1) (fun a o e => Heap.get?_push_of_some { cls := .type "generator", data := .fields #[.int s.gens.size 0, .str "_iterencode_list" (tk₁ + 2), .str D.qL (tk₁ + 2 + 1)] } (k₂ a o e)) (.fresh (.func (bodyS listDef) (envL D h₁.objs.size))) rfl
  have hgen₃ : (h₂.push { cls := .type "generator", data := .fields #[.int s.gens.size 0, .str "_iterencode_list" (tk₁ + 2), .str D.qL (tk₁ + 2 + 1)] }).IsGen (h₁.objs.size + 1) s.gens.size := by
    rw [← hsz]
    exact ⟨_, _, _, Heap.get?_push_size _ rfl, rfl, rfl, rfl⟩
  have hns₃ : (h₂.push { cls := .type "generator", data := .fields #[.int s.gens.size 0, .str "_iterencode_list" (tk₁ + 2), .str D.qL (tk₁ + 2 + 1)] }).Ns h₁.objs.size _ := hn₂.push _
  generalize hh₃ : h₂.push { cls := .type "generator", data := .fields #[.int s.gens.size 0, .str "_iterencode_list" (tk₁ + 2), .str D.qL (tk₁ + 2 + 1)] } = h₃ at x₃ hgen₃ hns₃
  show wpAny _ (A.over (.func (bodyS iterDef) (envT D b)) []) (pyIter (.ref h₂.objs.size)) _ _ _
  rw [hsz]
  generalize hbb : h₁.objs.size = b' at *
  have hgs : (s.gens.push (.fresh (.func (bodyS listDef) (envL D b'))))[s.gens.size]? = some (.fresh (.func (bodyS listDef) (envL D b'))) := Array.getElem?_push_size ..
  refine wpAny_pyIter_gen hgen₃ (fun p2 => ?_)
  refine inner_t_all I n (σ := .fresh p) (b' := b') (g' := s.gens.size) (by rfl) x₃ hgen₃ (by omega) x.gg hgs hA (by omega) ?_
  refine (all_n (prog := prog) (w := w) I hD WI n).1 hp ⟨⟨hns₃, x₃.fr.keep, Nat.le_trans x₃.fr.above (by refine (Nat.le_of_lt ?_ : @LE.le Nat _ b b'); omega)⟩, hgen₃, fun _ _ _ _ _ e => e, x₃.mark, fun _ _ => rfl, rfl, rfl, fun M hM => ⟨by have := (x.mb M hM).1; omega, (x.mb M hM).2⟩, ?_, fun h => h, x₃.frsT, x₃.lowT (by omega)⟩ (by rfl) ⟨ilv, tlv, by rfl⟩ (aok_for hA).in1 (by omega) hlen
  show s.gens.size < ((s.gens.push _).setIfInBounds _ _).size
  rw [Array.size_setIfInBounds, Array.size_push]
  exact Nat.lt_succ_self _
end
end Mine
end

/- part H1 -/
section
open PySem PySem.W PyProof.Rows PySem.W.X
set_option maxRecDepth 100000
namespace Mine
section
variable {prog : Program} {w : World} {A : Around} {E : Value → Shared → Prop} {s : Shared} {env : Env}

theorem eq_nil {a b : Addr} {items : Array Value} {Q : Value → Shared → Prop} (hl : s.heap.IsList a items) (hb : s.heap.IsList b #[]) (hu : A.units < cLine) (h : Q (.bool items.isEmpty) s) :
    wpAny (model prog w) A (compareOp .Eq (.ref a) (.ref b)) Q E s := by
  by_cases hsz : items.size = 0
  · have e : items.isEmpty = true := by simpa using hsz
    rw [e] at h
    exact SeqAt.RcAt.lists hl hb (by simpa using hsz) hu (e := fun _ => true) (fun j h1 => absurd h1 (by omega)) prog w E Q (by rw [hsz]; exact h)
  · have e : items.isEmpty = false := by simpa using hsz
    rw [e] at h
    exact SeqAt.RcAt.lists_lengths hl hb (by simpa using hsz) hu prog w E Q h
theorem ne_nil {a b : Addr} {items : Array Value} {Q : Value → Shared → Prop} (hl : s.heap.IsList a items) (hb : s.heap.IsList b #[]) (hu : A.units < cLine) (h : Q (.bool (!items.isEmpty)) s) :
    wpAny (model prog w) A (compareOp .NotEq (.ref a) (.ref b)) Q E s := by
  by_cases hsz : items.size = 0
  · have e : items.isEmpty = true := by simpa using hsz
    rw [e] at h
    exact SeqAt.RcNeAt.lists hl hb (by simpa using hsz) hu (e := fun _ => true) (fun j h1 => absurd h1 (by omega)) prog w E Q (by rw [hsz]; exact h)
  · have e : items.isEmpty = false := by simpa using hsz
    rw [e] at h
    exact SeqAt.RcNeAt.lists_lengths hl hb (by simpa using hsz) hu prog w E Q h

theorem isT_eq_nil {l : Expr} {p1 p2 : Pos} {whole : Sem Value} {Q : Bool → Shared → Prop} (hu : A.units < cLine)
    (h : wpAny (model prog w) A (eval l env) (fun v s₁ => ∃ a items, v = .ref a ∧ s₁.heap.IsList a items ∧ (∀ h' tk, (∀ b o, s₁.heap.get? b = some o → h'.get? b = some o) → Q items.isEmpty { s₁ with heap := h', toks := tk })) E s) :
    wpAny (model prog w) A (isTrue (.Compare l [.Eq] [.List [] p1] p2) env whole) Q E s := by
  refine wpAny_isTrue_Compare1 (wpAny_mono h (fun v s₁ h₁ => ?_) fun _ _ x => x)
  obtain ⟨a, items, rfl, hl, hQ⟩ := h₁
  refine wpAny_List (wpAny_items_nil ⟨Nat.zero_le _, ?_⟩)
  exact eq_nil (hl.push _) ⟨_, Heap.get?_push_size _ rfl, rfl, _, rfl⟩ hu (wpAny_truthy_bool (hQ _ s₁.toks fun b o e => Heap.get?_push_of_some _ e))
theorem isT_ne_nil {l : Expr} {p1 p2 : Pos} {whole : Sem Value} {Q : Bool → Shared → Prop} (hu : A.units < cLine)
    (h : wpAny (model prog w) A (eval l env) (fun v s₁ => ∃ a items, v = .ref a ∧ s₁.heap.IsList a items ∧ (∀ h' tk, (∀ b o, s₁.heap.get? b = some o → h'.get? b = some o) → Q (!items.isEmpty) { s₁ with heap := h', toks := tk })) E s) :
    wpAny (model prog w) A (isTrue (.Compare l [.NotEq] [.List [] p1] p2) env whole) Q E s := by
  refine wpAny_isTrue_Compare1 (wpAny_mono h (fun v s₁ h₁ => ?_) fun _ _ x => x)
  obtain ⟨a, items, rfl, hl, hQ⟩ := h₁
  refine wpAny_List (wpAny_items_nil ⟨Nat.zero_le _, ?_⟩)
  exact ne_nil (hl.push _) ⟨_, Heap.get?_push_size _ rfl, rfl, _, rfl⟩ hu (wpAny_truthy_bool (hQ _ s₁.toks fun b o e => Heap.get?_push_of_some _ e))

theorem item_neg {value slice : Expr} {l : Addr} {items : Array Value} {k : Int} {u : Tok} {x : Value} {Q : Value → Shared → Prop} (hl : s.heap.IsList l items)
    (h0 : k < 0) (h1 : -(items.size : Int) ≤ k) (hfit : -(2 ^ 63) ≤ k) (hx : items[(k + items.size).toNat]? = some x) (h : Q x s)
    (hs : subscripted slice false (.ref l) (.int k u) = operate [.ref l, .int k u] (getItem (.ref l) (.int k u)) := by with_unfolding_all rfl) (hg : ∀ r, letTemporaryGo value (.ref l) r = pure () := by intro _; with_unfolding_all rfl) :
    wpAny (model prog w) A (subscriptTail value slice (.ref l) (.int k u)) Q E s :=
  subscriptTail_builtin hl.typeIs slot_list_getitem.lookup (wpAny_getItem_list_neg hl h0 h1 hfit hx h) hs hg

/-- the last of a list: `x[-1]` -/
theorem last_of {x : Expr} {k : Nat} {cp up pos : Pos} {l : Addr} {y : Value} {Q : Value → Shared → Prop}
    (h : wpAny (model prog w) A (eval x env) (fun v s₁ => ∃ items : List Value, v = .ref l ∧ s₁.heap.IsList l (items ++ [y]).toArray ∧ Q y { s₁ with toks := s₁.toks + 1 + 1 }) E s)
    (hs : ∀ l u, subscripted (.UnaryOp .USub (.Constant (.int 1) k cp) up) false (.ref l) (.int (-1) u) = operate [.ref l, .int (-1) u] (getItem (.ref l) (.int (-1) u)) := by intro _ _; with_unfolding_all rfl) (hg : ∀ l r, letTemporaryGo x (.ref l) r = pure () := by intro _ _; with_unfolding_all rfl) :
    wpAny (model prog w) A (eval (.Subscript x (.UnaryOp .USub (.Constant (.int 1) k cp) up) pos) env) Q E s := by
  refine Subscript_ (wpAny_mono h (fun v s₁ h₁ => ?_) fun _ _ e => e)
  obtain ⟨items, rfl, hl, hq⟩ := h₁
  refine wpAny_UnaryOp (wpAny_Constant_int (P.neg_int ?_))
  have hsz : (items ++ [y]).toArray.size = items.length + 1 := by simp
  refine item_neg (k := -1) (x := y) (by exact hl) (by decide) (by rw [hsz]; omega) (by decide) ?_ hq (hs _ _) (hg _)
  rw [hsz]
  have : (-1 + ((items.length + 1 : Nat) : Int)).toNat = items.length := by omega
  rw [this]
  simp

theorem draw_list {it t : Addr} {items : Array Value} (hne : t ≠ it) : ∀ (n i : Nat) (s : Shared) (Q : List Value → Shared → Prop), s.heap.IsListIter it t i → s.heap.IsList t items → i + n ≤ items.size →
    (∀ h', h'.IsListIter it t (i + n) → Heap.SameBut it s.heap h' → Q ((items.toList.drop i).take n) { s with heap := h' }) → wpAny (model prog w) A (draw (.ref it) n) Q E s
  | 0, i, s, Q, hit, _, _, hQ => by
    show wpAny _ _ (pure []) Q E s
    exact wpAny_pure (by simpa using hQ s.heap hit (Heap.SameBut.refl ..))
  | n + 1, i, s, Q, hit, ht, hle, hQ => by
    have hlt : i < items.size := by omega
    show wpAny _ _ (pyNext (.ref it) >>= _) Q E s
    refine wpAny_bind (wpAny_pyNext_list_item hit ht (x := items[i]) (by simp [hlt]) fun h₁ hit₁ hs₁ => ?_)
    refine wpAny_bind (wpAny_holding (draw_list hne n (i + 1) _ _ hit₁ (ht.extBut hs₁.extBut hne) (by omega) fun h₂ hit₂ hs₂ => wpAny_pure ?_))
    have hd : items.toList.drop i = items[i] :: items.toList.drop (i + 1) := by simp [List.drop_eq_getElem_cons, hlt]
    have := hQ h₂ (by rw [show i + (n + 1) = i + 1 + n by omega]; exact hit₂) (hs₁.trans hs₂)
    rw [hd, List.take_succ_cons] at this
    exact this

theorem unpackItems_list {t : Addr} {items : Array Value} {Q : List Value → Shared → Prop} (hh : A.handled = none) (ht : s.heap.IsList t items)
    (hQ : ∀ h', Heap.ExtBut s.heap.objs.size s.heap h' → Q items.toList { s with heap := h' }) : wpAny (model prog w) A (unpackItems (.ref t) items.size none) Q E s := by
  have hlt : t ≠ s.heap.objs.size := by obtain ⟨o, ho, _⟩ := ht; exact Nat.ne_of_lt (Heap.lt_size ho)
  unfold unpackItems
  refine wpAny_bind ?_
  unfold notIterableAtAll
  refine wpAny_bind (wpAny_specialOf ht.typeIs slot_list_iter.lookup ?_)
  refine wpAny_pure ?_
  simp only [Bool.false_eq_true, if_false]
  refine wpAny_bind (wpAny_holding (wpAny_pyIter_list ht ?_))
  refine wpAny_bind (wpAny_holding (draw_list hlt items.size 0 _ _ ⟨_, Heap.get?_push_size _ rfl, rfl, rfl⟩ (ht.push _) (by omega) fun h₁ hit₁ hs₁ => ?_))
  have hall : List.take items.size (List.drop 0 items.toList) = items.toList := by
    rw [List.drop_zero]; exact List.take_of_length_le (by simp)
  rw [hall]
  rw [if_neg (by simp)]
  have ht₁ : h₁.IsList t items := (ht.push _).extBut hs₁.extBut hlt
  refine wpAny_bind (wpAny_holding (wpAny_pyNext_list_end hh hit₁ ht₁ (by simp) fun h₂ he₂ => ?_))
  simp only [Option.isSome_none, Bool.false_eq_true, if_false]
  refine wpAny_pure (hQ h₂ fun b o hb e => he₂ b o hb (hs₁.extBut b o hb (Heap.get?_push_of_some _ e)))

theorem unpack_list {t : Addr} {items : Array Value} {targets : List (Bool × (Value → Sem Unit))} {Q : Unit → Shared → Prop} (hh : A.handled = none) (ht : s.heap.IsList t items)
    (hn : targets.length = items.size) (hstar : targets.findIdx? (·.1) = none)
    (h : ∀ h', Heap.ExtBut s.heap.objs.size s.heap h' → wpAny (model prog w) A (assignInOrder (targets.map (·.2)) items.toList) Q E { s with heap := h' }) :
    wpAny (model prog w) A (unpack (.ref t) targets) Q E s := by
  unfold unpack
  rw [hn, hstar]
  exact wpAny_bind (wpAny_holding (unpackItems_list hh ht h))
end
end Mine
end

/- part H2 -/
section
open PySem PySem.W PyProof.Rows PySem.W.X
set_option maxRecDepth 100000
namespace Mine

/-- the state of `_law_text`'s while: the road (its top first), the text, the circle -/
structure TS where
  rd : List (Nat × Nat)
  text : Str
  circ : Int

def pStr (p : Nat) : Str := Str.ofString (toString (p : Int))

def ltStep (row : Nat → Option (List Nat)) (S : TS) : TS := match S.rd with
  | [] => S
  | (p, t) :: rest => match row p with
    | none => ⟨rest, S.text, S.circ⟩
    | some ts => if t = ts.length + 1 then ⟨rest, S.text ++ "]", S.circ⟩
      else if t = 0 then ⟨(p, 1) :: rest, S.text ++ pStr p, S.circ⟩
      else match row (ts.getD (t - 1) 0) with
        | none => ⟨(p, t + 1) :: rest, (S.text ++ ", ") ++ "[]", S.circ⟩
        | some _ => ⟨(ts.getD (t - 1) 0, 0) :: (p, t + 1) :: rest, (S.text ++ ", ") ++ "[",
            if S.circ < 0 ∧ ts.getD (t - 1) 0 ∈ ((p, t) :: rest).map (·.1) then ((S.text ++ ", ").length : Int) else S.circ⟩

def AreInts (vs : List Value) (ns : List Nat) : Prop := vs.length = ns.length ∧ ∀ (i n : Nat), ns[i]? = some n → ∃ t, vs[i]? = some (Value.int (n : Int) t)
def rowNums (p : Nat) : Option (List Nat) → List Nat
  | none => []
  | some ts => p :: ts

/-- the web of numbers in the heap -/
structure WebL (n : Nat) (row : Nat → Option (List Nat)) (ra : Nat → Nat) (aw : Nat) (h : Heap) : Prop where
  all : h.IsList aw ((List.range n).map fun p => Value.ref (ra p)).toArray
  rows : ∀ p, p < n → ∃ vs, h.IsList (ra p) vs.toArray ∧ AreInts vs (rowNums p (row p))
  inn : ∀ p ts, p < n → row p = some ts → ∀ q ∈ ts, q < n
  len : ∀ p ts, p < n → row p = some ts → ts.length ≤ 1000
  small : n ≤ 1000

structure RoadIn (h B : Heap) (L r : Nat) (rs : List (Nat × Nat × Nat)) : Prop where
  all : ∃ k, h.get? r = some (lsObj (rs.reverse.map fun x => Value.ref x.1).toArray k)
  ent : ∀ x ∈ rs, ∃ tp tt, h.IsList x.1 #[.int (x.2.1 : Int) tp, .int (x.2.2 : Int) tt]
  nod : (rs.map (·.1)).Nodup
  new : ∀ x ∈ rs, B.get? x.1 = none ∧ x.1 ≠ L ∧ x.1 ≠ r
  rnew : B.get? r = none ∧ r ≠ L

theorem RoadIn.keep {h h' B : Heap} {L r : Nat} {rs : List (Nat × Nat × Nat)} (x : RoadIn h B L r rs) (k : ∀ a o, (a = r ∨ a ∈ rs.map (·.1)) → h.get? a = some o → h'.get? a = some o) : RoadIn h' B L r rs :=
  ⟨let ⟨n, e⟩ := x.all; ⟨n, k _ _ (.inl rfl) e⟩, fun y hy => let ⟨a, b, o, e, q⟩ := x.ent y hy; ⟨a, b, o, k _ _ (.inr (List.mem_map.mpr ⟨y, hy, rfl⟩)) e, q⟩, x.nod, x.new, x.rnew⟩

theorem RoadIn.keeps {h h' B : Heap} {L r : Nat} {rs : List (Nat × Nat × Nat)} (x : RoadIn h B L r rs) (k : ∀ a o, h.get? a = some o → h'.get? a = some o) : RoadIn h' B L r rs := x.keep fun a o _ e => k a o e
/-- a local is stored -/
theorem RoadIn.store {h h' B : Heap} {L r : Nat} {rs : List (Nat × Nat × Nat)} (x : RoadIn h B L r rs) (hs : Heap.SameBut L h h') : RoadIn h' B L r rs := x.keep fun a o ha e => by
  refine (hs.2 a ?_).trans e
  rcases ha with rfl | ha
  · exact x.rnew.2
  · obtain ⟨y, hy, rfl⟩ := List.mem_map.mp ha
    exact (x.new y hy).2.1

/-- the locals of `_law_text` -/
structure TL (m : Str → Option Value) (aw r : Nat) (T : Str) (C : Int) : Prop where
  web : m "web" = some (.ref aw)
  most : ∃ t, m "most" = some (.int 160 t)
  road : m "road" = some (.ref r)
  text : ∃ t, m "text" = some (.str T t)
  circle : ∃ t, m "circle" = some (.int C t)

theorem TL.setO {m : Str → Option Value} {aw r : Nat} {T : Str} {C : Int} (x : TL m aw r T C) {y : Str} {v : Value} (hy : (["web", "most", "road", "text", "circle"] : List Str).contains y = false) :
    TL (fun z => if z = y then some v else m z) aw r T C := by
  have ne : ∀ z ∈ (["web", "most", "road", "text", "circle"] : List Str), z ≠ y := fun z hz e => by
    subst e
    rw [List.contains_iff_mem.mpr hz] at hy; cases hy
  refine ⟨?_, ?_, ?_, ?_, ?_⟩
  · rw [if_neg (ne _ (by decide))]; exact x.web
  · rw [if_neg (ne _ (by decide))]; exact x.most
  · rw [if_neg (ne _ (by decide))]; exact x.road
  · rw [if_neg (ne _ (by decide))]; exact x.text
  · rw [if_neg (ne _ (by decide))]; exact x.circle
theorem TL.setT {m : Str → Option Value} {aw r : Nat} {T : Str} {C : Int} (x : TL m aw r T C) {T' : Str} {t : Tok} : TL (fun z => if z = ("text" : Str) then some (.str T' t) else m z) aw r T' C := by
  refine ⟨?_, ?_, ?_, ⟨t, if_pos rfl⟩, ?_⟩
  · rw [if_neg (by decide)]; exact x.web
  · rw [if_neg (by decide)]; exact x.most
  · rw [if_neg (by decide)]; exact x.road
  · rw [if_neg (by decide)]; exact x.circle
theorem TL.setC {m : Str → Option Value} {aw r : Nat} {T : Str} {C : Int} (x : TL m aw r T C) {C' : Int} {t : Tok} : TL (fun z => if z = ("circle" : Str) then some (.int C' t) else m z) aw r T C' := by
  refine ⟨?_, ?_, ?_, ?_, ⟨t, if_pos rfl⟩⟩
  · rw [if_neg (by decide)]; exact x.web
  · rw [if_neg (by decide)]; exact x.most
  · rw [if_neg (by decide)]; exact x.road
  · rw [if_neg (by decide)]; exact x.text

def whileD : Stmt := nthS 1 (bodyS textDef)
def testD : Expr := match whileD with | .While t _ _ _ => t | _ => default
abbrev envD (L a : Addr) (cd : Value) : Env := envX "_law_text" (scopeS textDef) L a cd []
end Mine
end

/- part H3 -/
section
open PySem PySem.W PyProof.Rows PySem.W.X
set_option maxRecDepth 100000
namespace Mine

structure Gl (B : Heap) (mg mb : Str → Option Value) : Prop where
  g : B.Ns mainGlobals mg
  b : B.Ns builtinsNs mb
  nG : ∀ x ∈ (["len", "str", "range", "enumerate", "sum", "ValueError"] : List Str), mg x = none
  bt : ∀ x : Str, x ≠ "__name__" → mb x = bootBuiltins x
  nolimit : B.NoLimit
theorem Gl.boot {B : Heap} {mg mb : Str → Option Value} (I : Gl B mg mb) {x : Str} {v : Value} (hx : x ∈ (["len", "str", "range", "enumerate", "sum", "ValueError"] : List Str)) (hv : bootBuiltins x = some v) : mg x = none ∧ mb x = some v :=
  ⟨I.nG x hx, (I.bt x (by intro e; subst e; revert hx; decide)).trans hv⟩

section
variable {prog : Program} {w : World} {A : Around} {E : Value → Shared → Prop} {s : Shared} {B : Heap} {L a : Nat} {cd : Value} {m mg mb : Str → Option Value} {aw r n : Nat} {row : Nat → Option (List Nat)} {ra : Nat → Nat} {T : Str} {C : Int}

theorem Fr_lt' {h₀ h : Heap} {L : Addr} {m : Str → Option Value} (F : Fr h₀ L h m) : L < h.objs.size := let ⟨_, _, _, e, _⟩ := F.ns; Heap.lt_size e

/-- `web[place]` -/
theorem web_at {pos p1 p2 : Pos} {p : Nat} {tp : Tok} {y : Str} {Q : Value → Shared → Prop} (F : Fr B L s.heap m) (W : WebL n row ra aw B) (hw : m "web" = some (.ref aw)) (hy : m y = some (.int (p : Int) tp)) (hp : p < n)
    (h : Q (.ref (ra p)) s) (hl : (envD L a cd).kindOf y = some .local := by rfl) (hd : (y == ("__debug__" : Str)) = false := by decide) : wpAny (model prog w) A (eval (.Subscript (.Name "web" p1) (.Name y p2) pos) (envD L a cd)) Q E s := by
  have hsm := W.small
  refine Subscript_ (nameX_L F hw (nameX_L F (hx := hl) (hd := hd) hy (item_list (F.lst W.all) (by omega) (by omega) ?_ h)))
  simp [hp]

def bodyW : List Stmt := bodyS whileD

/-- `place, told = road[-1]` -/
theorem take_top {e p t : Nat} {rest : List (Nat × Nat × Nat)} {Q : Flow → Shared → Prop} (hh : A.handled = none) (F : Fr B L s.heap m) (Tl : TL m aw r T C) (R : RoadIn s.heap B L r ((e, p, t) :: rest))
    (h : ∀ h' tk m' tp tt, Fr B L h' m' → TL m' aw r T C → RoadIn h' B L r ((e, p, t) :: rest) → m' "place" = some (.int (p : Int) tp) → m' "told" = some (.int (t : Int) tt) → Q .next { s with heap := h', toks := tk }) :
    wpAny (model prog w) A (exec (nthS 0 bodyW) (envD L a cd)) Q E s := by
  obtain ⟨k, hr⟩ := R.all
  obtain ⟨tp, tt, he⟩ := R.ent (e, p, t) (List.mem_cons_self ..)
  refine Assign_Tuple (last_of (l := r) (y := .ref e) (nameX_L F Tl.road ⟨rest.reverse.map fun x => Value.ref x.1, rfl, ⟨_, hr, rfl, k, by simp⟩, ?_⟩))
  rw [assign_Tuple]
  refine wpAny_bind (wpAny_standAt (unpack_list hh he rfl rfl fun h₁ he₁ => ?_))
  have F₁ : Fr B L h₁ m := ⟨F.ns.extBut he₁ (Nat.ne_of_lt (Fr_lt' F)), fun b o q => he₁ b o (Nat.ne_of_lt (Heap.lt_size (F.keep b o q))) (F.keep b o q), F.above⟩
  have R₁ : RoadIn h₁ B L r ((e, p, t) :: rest) := R.keeps fun a o q => he₁ a o (Nat.ne_of_lt (Heap.lt_size q)) q
  refine wpAny_assignInOrder_more (assign_Name (wpAny_storeName_local (by rfl) F₁.ns fun h₂ hn₂ hs₂ => ?_))
  have F₂ := F₁.set hn₂ hs₂
  have R₂ := R₁.store hs₂
  refine wpAny_assignInOrder_more (assign_Name (wpAny_storeName_local (by rfl) F₂.ns fun h₃ hn₃ hs₃ => ?_))
  have F₃ := F₂.set hn₃ hs₃
  have R₃ := R₂.store hs₃
  refine wpAny_assignInOrder_none ?_
  exact h h₃ _ _ tp tt F₃ ((Tl.setO (by decide)).setO (by decide)) R₃ (by rfl) (by rfl)
end
end Mine
end

/- part H4 -/
section
open PySem PySem.W PyProof.Rows PySem.W.X
set_option maxRecDepth 100000
namespace Mine
section
variable {prog : Program} {w : World} {A : Around} {E : Value → Shared → Prop} {s : Shared} {B : Heap} {L a : Nat} {cd : Value} {m mg mb : Str → Option Value} {aw r n : Nat} {row : Nat → Option (List Nat)} {ra : Nat → Nat} {T : Str} {C : Int}

theorem AreInts.size {vs : List Value} {ns : List Nat} (x : AreInts vs ns) : vs.toArray.size = ns.length := by rw [List.size_toArray]; exact x.1

/-- `web[place] == []` -/
theorem row_nil {p : Nat} {tp : Tok} {p1 p2 p3 p4 p5 : Pos} {whole : Sem Value} {Q : Bool → Shared → Prop} (hu : A.units < cLine) (F : Fr B L s.heap m) (W : WebL n row ra aw B) (hw : m "web" = some (.ref aw)) (hy : m "place" = some (.int (p : Int) tp)) (hp : p < n)
    (h : ∀ h' tk, (∀ b o, s.heap.get? b = some o → h'.get? b = some o) → Q (row p).isNone { s with heap := h', toks := tk }) :
    wpAny (model prog w) A (isTrue (.Compare (.Subscript (.Name "web" p1) (.Name "place" p2) p3) [.Eq] [.List [] p4] p5) (envD L a cd) whole) Q E s := by
  obtain ⟨vs, hl, hi⟩ := W.rows p hp
  refine isT_eq_nil hu (web_at F W hw hy hp ⟨_, _, rfl, F.lst hl, ?_⟩)
  have e : vs.toArray.isEmpty = (row p).isNone := by
    have := hi.size
    cases hr : row p with
    | none => rw [hr] at this; simpa [rowNums] using this
    | some ts => rw [hr] at this; rw [Array.isEmpty_eq_false_iff_exists_mem.mpr]; · rfl
                 · exact ⟨vs.toArray[0]'(by rw [this]; simp [rowNums]), Array.getElem_mem _⟩
  rw [e]
  exact h
/-- `web[place] != []` -/
theorem row_notNil {p : Nat} {tp : Tok} {p1 p2 p3 p4 p5 : Pos} {whole : Sem Value} {Q : Bool → Shared → Prop} (hu : A.units < cLine) (F : Fr B L s.heap m) (W : WebL n row ra aw B) (hw : m "web" = some (.ref aw)) (hy : m "place" = some (.int (p : Int) tp)) (hp : p < n)
    (h : ∀ h' tk, (∀ b o, s.heap.get? b = some o → h'.get? b = some o) → Q (row p).isSome { s with heap := h', toks := tk }) :
    wpAny (model prog w) A (isTrue (.Compare (.Subscript (.Name "web" p1) (.Name "place" p2) p3) [.NotEq] [.List [] p4] p5) (envD L a cd) whole) Q E s := by
  obtain ⟨vs, hl, hi⟩ := W.rows p hp
  refine isT_ne_nil hu (web_at F W hw hy hp ⟨_, _, rfl, F.lst hl, ?_⟩)
  have e : (!vs.toArray.isEmpty) = (row p).isSome := by
    have := hi.size
    cases hr : row p with
    | none => rw [hr] at this; simpa [rowNums] using this
    | some ts => rw [hr] at this; rw [Array.isEmpty_eq_false_iff_exists_mem.mpr]; · rfl
                 · exact ⟨vs.toArray[0]'(by rw [this]; simp [rowNums]), Array.getElem_mem _⟩
  rw [e]
  exact h

def condIf : Expr := match nthS 1 bodyW with | .If t _ _ _ => t | _ => default
/-- `web[place] == [] or told == len(web[place])` -/
theorem done_test {p t : Nat} {tp tt : Tok} {whole : Sem Value} {Q : Bool → Shared → Prop} (hu : A.units < cLine) (G : Gl B mg mb) (F : Fr B L s.heap m) (W : WebL n row ra aw B) (hw : m "web" = some (.ref aw)) (hy : m "place" = some (.int (p : Int) tp))
    (ht : m "told" = some (.int (t : Int) tt)) (hp : p < n)
    (h : ∀ h' tk, (∀ b o, s.heap.get? b = some o → h'.get? b = some o) → Q ((row p).isNone || decide (t = (rowNums p (row p)).length)) { s with heap := h', toks := tk }) :
    wpAny (model prog w) A (isTrue condIf (envD L a cd) whole) Q E s := by
  obtain ⟨vs, hl, hi⟩ := W.rows p hp
  have bl := G.boot (x := "len") (v := .builtin "len") (by decide) (by decide +kernel)
  refine wpAny_isTrue_BoolOp (wpAny_allTrue_Or_cons (row_nil hu F W hw hy hp fun h₁ tk₁ k₁ => ?_))
  have F₁ := F.keeps k₁
  cases hr : (row p).isNone with
  | true =>
    rw [if_pos rfl]
    rw [hr] at h
    exact h h₁ tk₁ k₁
  | false =>
    rw [if_neg Bool.false_ne_true]
    rw [hr] at h
    have hsz : vs.toArray.size < 2 ^ 62 := by
      rw [hi.size]
      cases hr' : row p with
      | none => simp [rowNums]
      | some ts => have := W.len p ts hp hr'; simp [rowNums]; omega
    refine wpAny_allTrue_Or_cons (wpAny_isTrue_Compare1 (nameX_L F₁ ht (call_b (nm_B F₁ G.g bl.1 G.b bl.2 ⟨rfl, args1 (web_at F₁ W hw hy hp (len_list (F₁.lst hl) (by omega) (P.eq_int (wpAny_truthy_bool ?_))))⟩))))
    have e : ((t : Int) == (vs.toArray.size : Int)) = decide (t = (rowNums p (row p)).length) := by
      rw [hi.size, Bool.eq_iff_iff, beq_iff_eq, decide_eq_true_iff]
      omega
    rw [e]
    cases hd : decide (t = (rowNums p (row p)).length) with
    | true =>
      rw [if_pos rfl]
      rw [hd] at h
      exact h h₁ _ k₁
    | false =>
      rw [if_neg Bool.false_ne_true]
      rw [hd] at h
      exact wpAny_allTrue_Or_nil (h h₁ _ k₁)
end
end Mine
end

/- part H5 -/
section
open PySem PySem.W PyProof.Rows PySem.W.X
set_option maxRecDepth 100000
namespace Mine
section
variable {prog : Program} {w : World} {A : Around} {E : Value → Shared → Prop} {s : Shared} {B : Heap} {L a : Nat} {cd : Value} {m mg mb : Str → Option Value} {aw r n : Nat} {row : Nat → Option (List Nat)} {ra : Nat → Nat} {T : Str} {C : Int}

theorem str_nil (x : Str) : x ++ ("" : Str) = x := by
  obtain ⟨c⟩ := x
  show Str.mk (c ++ (Str.ofString "").cps) = _
  rw [show (Str.ofString "").cps = #[] by decide +kernel]
  simp
def popIf : List Stmt := bodyS (nthS 1 bodyW)

theorem pop_branch {e p t : Nat} {rest : List (Nat × Nat × Nat)} {tp : Tok} {Q : Flow → Shared → Prop} (hu : A.units < cLine) (Fh : Fr B L s.heap m) (W : WebL n row ra aw B) (Tl : TL m aw r T C) (R : RoadIn s.heap B L r ((e, p, t) :: rest)) (hy : m "place" = some (.int (p : Int) tp)) (hp : p < n)
    (hT : T.length ≤ 1000) (hlen : rest.length ≤ 1000)
    (h : ∀ h' tk m', Fr B L h' m' → TL m' aw r (if (row p).isSome then T ++ "]" else T) C → RoadIn h' B L r rest → Q .cont { s with heap := h', toks := tk }) :
    wpAny (model prog w) A (execs popIf (envD L a cd)) Q E s := by
  obtain ⟨tT, hT'⟩ := Tl.text
  have hsl : sizeLine = 16777216 := sizeLine_eq
  refine wpAny_execs_cons (wpAny_AugAssign_Name (wpAny_loadName_local rfl (by rfl) Fh.ns hT' (wpAny_IfExp (row_notNil hu Fh W Tl.web hy hp fun h₁ tk₁ k₁ => ?_))))
  have F₁ := Fh.keeps k₁
  have R₁ := R.keeps k₁
  have key : ∀ (s₂ : Shared) (T' : Str) (t' : Tok) (h₃ : Heap), h₃.Ns L (fun z => if z = ("text" : Str) then some (.str T' t') else m z) → Heap.SameBut L h₁ h₃ → (∃ tk, s₂ = { s with heap := h₃, toks := tk }) → T' = (if (row p).isSome then T ++ "]" else T) →
      wpAny (model prog w) A (execs (popIf.drop 1) (envD L a cd)) Q E s₂ := by
    rintro s₂ T' t' h₃ hn₃ hs₃ ⟨tk₃, rfl⟩ hT₃
    have F₃ := F₁.set hn₃ hs₃
    have R₃ := R₁.store hs₃
    have Tl₃ : TL _ aw r T' C := Tl.setT (T' := T') (t := t')
    obtain ⟨k, hr⟩ := R₃.all
    refine wpAny_execs_cons (wpAny_ExprAny ?_)
    refine wpAny_Call_method (T := "list") (id := "list.pop") (by rfl) (by rfl) (by rfl) F.plainAttrs_list F.slot_list_pop (by rfl) ?_
    refine nameX_L F₃ Tl₃.road ?_
    refine ⟨⟨_, hr, rfl⟩, fun a e => by cases e; exact ⟨_, hr, rfl⟩, ?_⟩
    refine P.pop_list (y := .ref e) hr (by simp) ?_ (by simp; omega)
    have hs : Heap.SameBut r h₃ (h₃.update r (Obj.mapSeq fun xs => xs.eraseIdxIfInBounds ((((e, p, t) :: rest).reverse.map fun x => Value.ref x.1).toArray.size - 1))) := Heap.SameBut.update ..
    have e2 : ((((e, p, t) :: rest).reverse.map fun x => Value.ref x.1).toArray.eraseIdxIfInBounds ((((e, p, t) :: rest).reverse.map fun x => Value.ref x.1).toArray.size - 1)) = (rest.reverse.map fun x => Value.ref x.1).toArray := by
      have := erase_last (fun x : Nat × Nat × Nat => Value.ref x.1) (.ref e) rest.reverse
      simp only [List.length_reverse] at this
      simp [Array.eraseIdxIfInBounds]
      rw [← List.map_reverse, this]
    have hnd := R₃.nod
    rw [List.map_cons, List.nodup_cons] at hnd
    refine wpAny_execs_cons (wpAny_Continue ?_)
    refine h _ _ _ ⟨F₃.ns.sameBut hs (Ne.symm R.rnew.2), fun c o q => (hs.2 c fun q' => by rw [q', R.rnew.1] at q; cases q).trans (F₃.keep c o q), F₃.above⟩ (hT₃ ▸ Tl₃) ⟨⟨_, (Heap.get?_update_self _ hr rfl).trans (congrArg some (Eq.trans (mapSeq_ls _ _ _) (congrArg (fun z => lsObj z _) e2)))⟩, fun y hy => ?_, hnd.2, fun y hy => R.new y (List.mem_cons_of_mem _ hy), R.rnew⟩
    obtain ⟨a1, a2, o, q, q'⟩ := R₃.ent y (List.mem_cons_of_mem _ hy)
    exact ⟨a1, a2, o, (hs.2 _ (R.new y (List.mem_cons_of_mem _ hy)).2.2).trans q, q'⟩
  cases hr : (row p).isSome with
  | true =>
    rw [if_pos rfl]
    rw [hr] at key
    refine wpAny_Constant_str (iadd_str (fun t' tk' => ?_) (by show T.length + 1 ≤ _; omega))
    exact wpAny_storeName_local (by rfl) F₁.ns fun h₃ hn₃ hs₃ => key _ _ t' h₃ hn₃ hs₃ ⟨_, rfl⟩ rfl
  | false =>
    rw [if_neg Bool.false_ne_true]
    rw [hr] at key
    refine wpAny_Constant_str (iadd_str (fun t' tk' => ?_) (by show T.length + 0 ≤ _; omega))
    exact wpAny_storeName_local (by rfl) F₁.ns fun h₃ hn₃ hs₃ => key _ _ t' h₃ hn₃ hs₃ ⟨_, rfl⟩ (str_nil T)
end
end Mine
end

/- part H6 -/
section
open PySem PySem.W PyProof.Rows PySem.W.X
set_option maxRecDepth 100000
namespace Mine
section
variable {prog : Program} {w : World} {A : Around} {E : Value → Shared → Prop} {s : Shared} {B : Heap} {L a : Nat} {cd : Value} {m mg mb : Str → Option Value} {aw r n : Nat} {row : Nat → Option (List Nat)} {ra : Nat → Nat} {T : Str} {C : Int}

/-- `road[-1][1] = told + 1` -/
theorem set_told {e p t : Nat} {rest : List (Nat × Nat × Nat)} {tt : Tok} {Q : Flow → Shared → Prop} (Fh : Fr B L s.heap m) (Tl : TL m aw r T C) (R : RoadIn s.heap B L r ((e, p, t) :: rest)) (ht : m "told" = some (.int (t : Int) tt))
    (h : ∀ h' tk, Fr B L h' m → RoadIn h' B L r ((e, p, t + 1) :: rest) → Q .next { s with heap := h', toks := tk }) :
    wpAny (model prog w) A (exec (nthS 2 bodyW) (envD L a cd)) Q E s := by
  obtain ⟨k, hr⟩ := R.all
  obtain ⟨tp, tt', he⟩ := R.ent (e, p, t) (List.mem_cons_self ..)
  refine wpAny_Assign_Subscript (wpAny_BinOp (nameX_L Fh ht (wpAny_Constant_int (P.add_int ?_))))
  refine last_of (l := r) (y := .ref e) (nameX_L (s := { s with toks := _ }) Fh Tl.road ⟨rest.reverse.map fun x => Value.ref x.1, rfl, ⟨_, hr, rfl, k, by simp⟩, ?_⟩)
  refine wpAny_Constant_int (wpAny_setItem_list (l := e) (items := #[.int (p : Int) tp, .int (t : Int) tt']) he (by decide) (by decide) (by show (1 : Int) < 2; decide) fun h₁ hl₁ hs₁ => ?_)
  obtain ⟨he1, he2, he3⟩ := R.new (e, p, t) (List.mem_cons_self ..)
  have hnd := R.nod
  rw [List.map_cons, List.nodup_cons] at hnd
  refine h h₁ _ ⟨Fh.ns.sameBut hs₁ (Ne.symm he2), fun c o q => (hs₁.2 c fun q' => by rw [q', he1] at q; cases q).trans (Fh.keep c o q), Fh.above⟩ ⟨⟨k, (hs₁.2 r (Ne.symm he3)).trans (hr.trans (by simp))⟩, fun y hy => ?_, by rw [List.map_cons, List.nodup_cons]; exact hnd, fun y hy => ?_, R.rnew⟩
  · rcases List.mem_cons.mp hy with rfl | hy
    · exact ⟨tp, _, hl₁⟩
    · obtain ⟨a1, a2, o, q, q'⟩ := R.ent y (List.mem_cons_of_mem _ hy)
      refine ⟨a1, a2, o, (hs₁.2 _ fun e' => hnd.1 ?_).trans q, q'⟩
      rw [← e']
      exact List.mem_map.mpr ⟨y, hy, rfl⟩
  · rcases List.mem_cons.mp hy with rfl | hy
    · exact ⟨he1, he2, he3⟩
    · exact R.new y (List.mem_cons_of_mem _ hy)
end
end Mine
end

/- part H7 -/
section
open PySem PySem.W PyProof.Rows PySem.W.X
set_option maxRecDepth 100000
namespace Mine
section
variable {prog : Program} {w : World} {A : Around} {E : Value → Shared → Prop} {s : Shared} {B : Heap} {L a : Nat} {cd : Value} {m mg mb : Str → Option Value} {aw r n : Nat} {row : Nat → Option (List Nat)} {ra : Nat → Nat} {T : Str} {C : Int}

/-- a text grows by a text -/
theorem text_grows {x : Str} {e : Expr} {p1 p2 : Pos} {Q : Flow → Shared → Prop} (Fh : Fr B L s.heap m) (Tl : TL m aw r T C) (hl : T.length + x.length ≤ 10000)
    (h : wpAny (model prog w) A (eval e (envD L a cd)) (fun v s₁ => ∃ t, v = .str x t ∧ Fr B L s₁.heap m ∧ ∀ h' tk m', Fr B L h' m' → TL m' aw r (T ++ x) C → Heap.SameBut L s₁.heap h' → (∀ y ∈ (["place", "told"] : List Str), m' y = m y) → Q .next { s₁ with heap := h', toks := tk }) E s) :
    wpAny (model prog w) A (exec (.AugAssign (.Name "text" p1) .Add e p2) (envD L a cd)) Q E s := by
  obtain ⟨tT, hT'⟩ := Tl.text
  have hsl : sizeLine = 16777216 := sizeLine_eq
  refine wpAny_AugAssign_Name (wpAny_loadName_local rfl (by rfl) Fh.ns hT' (wpAny_mono h (fun v s₁ h₁ => ?_) fun _ _ e => e))
  obtain ⟨t, rfl, F₁, hQ⟩ := h₁
  refine iadd_str (fun t' tk' => ?_) (by omega)
  refine wpAny_storeName_local (by rfl) F₁.ns fun h₂ hn₂ hs₂ => ?_
  refine hQ _ _ _ (F₁.set hn₂ hs₂) Tl.setT hs₂ ?_
  intro y hy
  refine if_neg fun e => ?_
  subst e
  revert hy
  decide

/-- `web[place][told]` -/
theorem child_at {p t c : Nat} {ts : List Nat} {tp tt : Tok} {p1 p2 p3 p4 p5 : Pos} {Q : Value → Shared → Prop} (Fh : Fr B L s.heap m) (W : WebL n row ra aw B) (hw : m "web" = some (.ref aw)) (hy : m "place" = some (.int (p : Int) tp)) (ht : m "told" = some (.int (t : Int) tt))
    (hp : p < n) (hr : row p = some ts) (h1 : 1 ≤ t) (h2 : t ≤ ts.length) (hc : ts.getD (t - 1) 0 = c) (h : ∀ tc, Q (.int (c : Int) tc) s) :
    wpAny (model prog w) A (eval (.Subscript (.Subscript (.Name "web" p1) (.Name "place" p2) p3) (.Name "told" p4) p5) (envD L a cd)) Q E s := by
  obtain ⟨vs, hl, hi⟩ := W.rows p hp
  rw [hr] at hi
  have hlen := W.len p ts hp hr
  obtain ⟨j, rfl⟩ : ∃ j, t = j + 1 := ⟨t - 1, by omega⟩
  have hj : j < ts.length := by omega
  obtain ⟨tc, hv⟩ := hi.2 (j + 1) c (by
    show (p :: ts)[j + 1]? = some c
    rw [List.getElem?_cons_succ, ← hc]
    simp [hj])
  refine Subscript_ (web_at Fh W hw hy hp (nameX_L Fh ht (item_listR (Fh.lst hl) (by omega) (by omega) ?_ (h tc))))
  have : ((j + 1 : Nat) : Int).toNat = j + 1 := by omega
  rw [this]
  simpa using hv

theorem pStr_len {p : Nat} (hp : p < 1000) : (pStr p).length ≤ 1921 := by
  have hlog : (p : Int).natAbs.log2 < 1920 := by
    have e1 : p.log2 ≤ (1000 : Nat).log2 := by
      by_cases h0 : p = 0
      · subst h0; decide
      · exact (Nat.le_log2 (by decide)).mpr (Nat.le_trans (Nat.log2_self_le h0) (Nat.le_of_lt hp))
    exact Nat.lt_of_le_of_lt e1 (by decide)
  exact PyProof.Rows.int_text_len_1921 hlog
theorem log_small {p : Nat} (hp : p < 1000) : (p : Int).natAbs.log2 < 1920 := by
  have e1 : p.log2 ≤ (1000 : Nat).log2 := by
    by_cases h0 : p = 0
    · subst h0; decide
    · exact (Nat.le_log2 (by decide)).mpr (Nat.le_trans (Nat.log2_self_le h0) (Nat.le_of_lt hp))
  exact Nat.lt_of_le_of_lt e1 (by decide)

/-- `text += ', ' if told > 0 else ''` and `text += str(place)`: at told == 0 -/
theorem first_branch {e p : Nat} {rest : List (Nat × Nat × Nat)} {tp tt : Tok} {Q : Flow → Shared → Prop} (G : Gl B mg mb) (Fh : Fr B L s.heap m) (W : WebL n row ra aw B) (Tl : TL m aw r T C) (R : RoadIn s.heap B L r ((e, p, 1) :: rest)) (hy : m "place" = some (.int (p : Int) tp)) (ht : m "told" = some (.int ((0 : Nat) : Int) tt)) (hp : p < n)
    (hT : T.length ≤ 1000)
    (h : ∀ h' tk m', Fr B L h' m' → TL m' aw r (T ++ pStr p) C → RoadIn h' B L r ((e, p, 1) :: rest) → Q .next { s with heap := h', toks := tk }) :
    wpAny (model prog w) A (execs (bodyW.drop 3) (envD L a cd)) Q E s := by
  have hsm := W.small
  have bs := G.boot (x := "str") (v := .type "str") (by decide) (by decide +kernel)
  refine wpAny_execs_cons (text_grows (x := "") Fh Tl (by show T.length + 0 ≤ _; omega) (wpAny_IfExp (wpAny_isTrue_Compare1 (nameX_L Fh ht (wpAny_Constant_int (P.gt_int (wpAny_truthy_bool ?_)))))))
  refine ite_f (by decide) (wpAny_Constant_str ⟨_, rfl, Fh, fun h₁ tk₁ m₁ F₁ Tl₁ hs₁ hm₁ => ?_⟩)
  have R₁ := R.store hs₁
  rw [str_nil] at Tl₁
  have hy₁ : m₁ "place" = _ := (hm₁ "place" (by decide)).trans hy
  have ht₁ : m₁ "told" = _ := (hm₁ "told" (by decide)).trans ht
  refine wpAny_execs_cons (wpAny_If (wpAny_isTrue_Compare1 (nameX_L F₁ ht₁ (wpAny_Constant_int (P.eq_int (wpAny_truthy_bool ?_))))))
  refine ite_t (by rfl) ?_
  refine wpAny_execs_cons (text_grows (x := pStr p) F₁ Tl₁ (by have := pStr_len (p := p) (by omega); omega) ?_)
  refine wpAny_Call_ofName (nm_B F₁ G.g bs.1 G.b bs.2 (callWith_excType (T := "str") rfl (Calls.evalArgs_plain (Calls.spliced_cons (nameX_L F₁ hy₁ (Calls.spliced_nil ?_))))))
  refine P.str_of_int (log_small (by omega)) ⟨_, rfl, F₁, fun h₂ tk₂ m₂ F₂ Tl₂ hs₂ hm₂ => ?_⟩
  exact wpAny_execs_nil (wpAny_execs_nil (h _ _ _ F₂ Tl₂ (R₁.store hs₂)))
end
end Mine
end

/- part H8 -/
section
open PySem PySem.W PyProof.Rows PySem.W.X
set_option maxRecDepth 100000
namespace Mine
section
variable {prog : Program} {w : World} {A : Around} {E : Value → Shared → Prop} {s : Shared} {B : Heap} {L a : Nat} {cd : Value} {m mg mb : Str → Option Value} {aw r n : Nat} {row : Nat → Option (List Nat)} {ra : Nat → Nat} {T : Str} {C : Int}

theorem prd_left {α β : Type} {F : α → β → Prop} : ∀ {l₁ : List α} {l₂ : List β}, Paired F l₁ l₂ → ∀ x ∈ l₁, ∃ y ∈ l₂, F x y
  | _, _, .nil, x, h => by cases h
  | _, _, .cons (b := b) f t, x, h => by
    rcases List.mem_cons.mp h with rfl | h
    · exact ⟨b, List.mem_cons_self .., f⟩
    · obtain ⟨y, hy, hf⟩ := prd_left t x h
      exact ⟨y, List.mem_cons_of_mem _ hy, hf⟩
theorem prd_right {α β : Type} {F : α → β → Prop} : ∀ {l₁ : List α} {l₂ : List β}, Paired F l₁ l₂ → ∀ y ∈ l₂, ∃ x ∈ l₁, F x y
  | _, _, .nil, x, h => by cases h
  | _, _, .cons (a := a) f t, x, h => by
    rcases List.mem_cons.mp h with rfl | h
    · exact ⟨a, List.mem_cons_self .., f⟩
    · obtain ⟨y, hy, hf⟩ := prd_right t x h
      exact ⟨y, List.mem_cons_of_mem _ hy, hf⟩

theorem nodup_inj {α β : Type} {f : α → β} : ∀ {l : List α}, (l.map f).Nodup → ∀ {x y : α}, x ∈ l → y ∈ l → f x = f y → x = y
  | [], _, _, _, h, _, _ => by cases h
  | a :: l, hn, x, y, hx, hy, e => by
    rw [List.map_cons, List.nodup_cons] at hn
    by_cases h1 : x = a
    · by_cases h2 : y = a
      · rw [h1, h2]
      · refine absurd (show f a ∈ l.map f from List.mem_map.mpr ⟨y, (List.mem_cons.mp hy).resolve_left h2, ?_⟩) hn.1
        rw [← e, h1]
    · by_cases h2 : y = a
      · refine absurd (show f a ∈ l.map f from List.mem_map.mpr ⟨x, (List.mem_cons.mp hx).resolve_left h1, ?_⟩) hn.1
        rw [e, h2]
      · exact nodup_inj hn.2 ((List.mem_cons.mp hx).resolve_left h1) ((List.mem_cons.mp hy).resolve_left h2) e

def elseB : Stmt → List Stmt := elseS
def pushB : List Stmt := elseS (nthS 0 (elseS (nthS 4 bodyW)))
def circIf : Stmt := nthS 0 pushB
def inTest : Expr := match circIf with | .If (.BoolOp _ [_, t] _) _ _ _ => t | _ => default

def isNat (c : Nat) : Value → Bool
  | .int k _ => k == (c : Int)
  | _ => false

/-- `web[place][told] in [step[0] for step in road]` -/
theorem in_road {p t c : Nat} {ts : List Nat} {tp tt : Tok} {rs : List (Nat × Nat × Nat)} {whole : Sem Value} {Q : Bool → Shared → Prop} (hh : A.handled = none) (Fh : Fr B L s.heap m) (W : WebL n row ra aw B) (Tl : TL m aw r T C) (R : RoadIn s.heap B L r rs)
    (hy : m "place" = some (.int (p : Int) tp)) (ht : m "told" = some (.int (t : Int) tt)) (hp : p < n) (hr : row p = some ts) (h1 : 1 ≤ t) (h2 : t ≤ ts.length) (hc : ts.getD (t - 1) 0 = c) (hlen : rs.length ≤ 1000)
    (h : ∀ h' tk, (∀ b o, s.heap.get? b = some o → h'.get? b = some o) → Q (decide (c ∈ rs.map (·.2.1))) { s with heap := h', toks := tk }) :
    wpAny (model prog w) A (isTrue inTest (envD L a cd) whole) Q E s := by
  obtain ⟨k, hrd⟩ := R.all
  have hsl : sizeLine = 16777216 := sizeLine_eq
  refine wpAny_isTrue_Compare1 (child_at Fh W Tl.web hy ht hp hr h1 h2 hc fun tc => ?_)
  have hli : s.heap.IsList r (rs.reverse.map fun x => Value.ref x.1).toArray := ⟨_, hrd, rfl, k, rfl⟩
  have hrlt : r < s.heap.objs.size := Heap.lt_size hrd
  refine wpAny_ListComp_walk (fun _ => true) (fun v y => ∃ x ∈ rs, v = .ref x.1 ∧ ∃ t, y = .int (x.2.1 : Int) t) (by decide) (by decide) (by rfl) (by decide) (by decide)
    (nameX_L Fh Tl.road (wpAny_pyIter_list hli ⟨s.heap.objs.size, [s.heap.objs.size, r], [s.heap.objs.size], _, _, _, rfl, Walks.list hh s.heap.objs.size r (Nat.ne_of_lt hrlt) _, by simp; omega, ⟨⟨_, Heap.get?_push_size _ rfl, rfl, rfl⟩, hli.push _⟩, ?_, ⟨?_, ?_⟩, ?_⟩))
  · intro b hb
    show b < (s.heap.push _).objs.size
    rw [Heap.size_push]
    rcases List.mem_cons.mp hb with rfl | hb
    · exact Nat.lt_succ_self _
    · rw [List.mem_singleton.mp hb]; exact Nat.lt_succ_of_lt hrlt
  · intro C i v s₃ m₃ E' _ _ _ _ _
    exact wpAny_tests_nil ⟨rfl, s₃.heap, s₃.toks, rfl, fun _ _ e => e⟩
  · intro C i v s₃ m₃ E' hv _ hn hm hk _
    obtain ⟨x, hx, rfl⟩ : ∃ x ∈ rs, v = .ref x.1 := by
      have := Array.mem_of_getElem? hv
      simp only [List.mem_toArray, List.mem_map, List.mem_reverse] at this
      obtain ⟨x, hx, e⟩ := this
      exact ⟨x, hx, e.symm⟩
    obtain ⟨tp', tt', o, ho, q⟩ := R.ent x hx
    have ho₃ : s₃.heap.IsList x.1 #[.int (x.2.1 : Int) tp', .int (x.2.2 : Int) tt'] := ⟨o, hk _ _ (by rw [List.mem_singleton]; exact Nat.ne_of_lt (Heap.lt_size ho)) (Heap.get?_push_of_some _ ho), q⟩
    refine Subscript_ (wpAny_Name (wpAny_loadName_local (by rfl) (by rfl) hn hm ?_) (by decide))
    refine wpAny_Constant_int (item_listR ho₃ (by decide) (by decide) (by rfl) ?_)
    exact ⟨⟨x, hx, rfl, tp', rfl⟩, s₃.heap, _, rfl, fun _ _ e => e⟩
  · intro D h' tk ys vs hD hl hpl hlenv hP hF hk
    have e1 : vs.filter (fun _ => true) = vs := List.filter_eq_self.mpr fun _ _ => rfl
    rw [e1] at hF
    refine SeqInW.in_listW (isNat c) (fun y hy => ?_) hl (wpAny_truthy_bool ?_)
    · obtain ⟨v, _, x, _, _, t, rfl⟩ := prd_right hF y (by simpa using hy)
      exact MeetsSeq.EqGives.int _ _ _ _
    · have e2 : ys.any (isNat c) = decide (c ∈ rs.map (·.2.1)) := by
        rw [Bool.eq_iff_iff, decide_eq_true_iff, ← Array.any_toList, List.any_eq_true, List.mem_map]
        constructor
        · rintro ⟨y, hy, hc'⟩
          obtain ⟨v, _, x, hx, _, t, rfl⟩ := prd_right hF y (by simpa using hy)
          refine ⟨x, hx, ?_⟩
          have : (x.2.1 : Int) = (c : Int) := by simpa [isNat] using hc'
          omega
        · rintro ⟨x, hx, rfl⟩
          have hmem : Value.ref x.1 ∈ vs := by
            obtain ⟨j, hj, e⟩ := List.getElem_of_mem (show Value.ref x.1 ∈ (rs.reverse.map fun x => Value.ref x.1) from List.mem_map.mpr ⟨x, List.mem_reverse.mpr hx, rfl⟩)
            have hjv : j < vs.length := by rw [hlenv]; simpa using hj
            have := hP j vs[j] (List.getElem?_eq_getElem hjv)
            simp only [List.getElem?_toArray, List.getElem?_eq_getElem hj, Option.some.injEq] at this
            rw [← e, this]
            exact List.getElem_mem hjv
          obtain ⟨y, hy, x', hx', e, t, rfl⟩ := prd_left hF _ hmem
          have exx : x' = x := by
            have e' : x.1 = x'.1 := by injection e
            exact nodup_inj R.nod hx' hx e'.symm
          subst exx
          exact ⟨_, by simpa using hy, by simp [isNat]⟩
      rw [e2]
      refine h h' tk fun b o q => hk b o ?_ (Heap.get?_push_of_some _ q)
      rw [List.mem_singleton]; exact Nat.ne_of_lt (Heap.lt_size q)
end
end Mine
end

/- part H9 -/
section
open PySem PySem.W PyProof.Rows PySem.W.X
set_option maxRecDepth 100000
namespace Mine
section
variable {prog : Program} {w : World} {A : Around} {E : Value → Shared → Prop} {s : Shared} {B : Heap} {L a : Nat} {cd : Value} {m mg mb : Str → Option Value} {aw r n : Nat} {row : Nat → Option (List Nat)} {ra : Nat → Nat} {T : Str} {C : Int}

theorem new_addr {h : Heap} {L : Nat} {rs : List (Nat × Nat × Nat)} {r : Nat} {m : Str → Option Value} (F : Fr B L h m) (R : RoadIn h B L r rs) : B.get? h.objs.size = none ∧ h.objs.size ≠ L ∧ h.objs.size ≠ r ∧ ∀ x ∈ rs, x.1 ≠ h.objs.size := by
  refine ⟨?_, Nat.ne_of_gt (Fr_lt' F), ?_, fun x hx => ?_⟩
  · cases e : B.get? h.objs.size with
    | none => rfl
    | some o => exact absurd (Heap.lt_size (F.keep _ _ e)) (Nat.lt_irrefl _)
  · obtain ⟨_, e⟩ := R.all
    exact Nat.ne_of_gt (Heap.lt_size e)
  · obtain ⟨_, _, _, e, _⟩ := R.ent x hx
    exact Nat.ne_of_lt (Heap.lt_size e)

/-- `road.append([web[place][told], 0])` -/
theorem push_child {p t c : Nat} {ts : List Nat} {tp tt : Tok} {rs : List (Nat × Nat × Nat)} {Q : Flow → Shared → Prop} (Fh : Fr B L s.heap m) (W : WebL n row ra aw B) (Tl : TL m aw r T C) (R : RoadIn s.heap B L r rs)
    (hy : m "place" = some (.int (p : Int) tp)) (ht : m "told" = some (.int (t : Int) tt)) (hp : p < n) (hr : row p = some ts) (h1 : 1 ≤ t) (h2 : t ≤ ts.length) (hc : ts.getD (t - 1) 0 = c) (hlen : rs.length ≤ 1000)
    (h : ∀ h' tk e', Fr B L h' m → RoadIn h' B L r ((e', c, 0) :: rs) → Q .next { s with heap := h', toks := tk }) :
    wpAny (model prog w) A (exec (nthS 2 pushB) (envD L a cd)) Q E s := by
  have hsl : sizeLine = 16777216 := sizeLine_eq
  obtain ⟨k, hrd⟩ := R.all
  obtain ⟨n1, n2, n3, n4⟩ := new_addr Fh R
  refine wpAny_ExprAny (wpAny_Call_method (T := "list") (id := "list.append") (by rfl) (by rfl) (by rfl) F.plainAttrs_list F.slot_list_append (by rfl) ?_)
  refine nameX_L Fh Tl.road ?_
  refine ⟨⟨_, hrd, rfl⟩, fun a e => by cases e; exact ⟨_, hrd, rfl⟩, ?_⟩
  refine P.append_list (wpAny_List (args2 (child_at Fh W Tl.web hy ht hp hr h1 h2 hc fun tc => wpAny_Constant_int ⟨by show 2 ≤ sizeLine; omega, ?_⟩)))
  refine ⟨_, k, ?_, Heap.get?_push_of_some _ hrd, ?_⟩
  · simp; omega
  generalize hE : s.heap.objs.size = e' at n1 n2 n3 n4 ⊢
  have hh1 : ∀ b o, s.heap.get? b = some o → (s.heap.push { cls := .type "list", data := .seq [Value.int (c : Int) tc, Value.int 0 s.toks].toArray }).get? b = some o := fun b o q => Heap.get?_push_of_some _ q
  have hnew : (s.heap.push { cls := .type "list", data := .seq [Value.int (c : Int) tc, Value.int 0 s.toks].toArray }).IsList e' #[.int (c : Int) tc, .int ((0 : Nat) : Int) s.toks] := ⟨_, hE ▸ Heap.get?_push_size _ rfl, rfl, _, rfl⟩
  generalize s.heap.push { cls := .type "list", data := .seq [Value.int (c : Int) tc, Value.int 0 s.toks].toArray } = h₁ at hh1 hnew ⊢
  have F₁ := Fh.keeps hh1
  have R₁ := R.keeps hh1
  have hs : Heap.SameBut r h₁ (h₁.update r (Obj.mapSeq fun xs => xs.push (.ref e'))) := Heap.SameBut.update ..
  refine h _ _ e' ⟨F₁.ns.sameBut hs (Ne.symm R.rnew.2), fun c o q => (hs.2 c fun q' => by rw [q', R.rnew.1] at q; cases q).trans (F₁.keep c o q), F₁.above⟩
    ⟨⟨_, (Heap.get?_update_self _ (hh1 _ _ hrd) rfl).trans (congrArg some (Eq.trans (mapSeq_ls _ _ _) (congrArg (fun z => lsObj z _) (by simp))))⟩, fun y hy => ?_, ?_, fun y hy => ?_, R.rnew⟩
  · rcases List.mem_cons.mp hy with rfl | hy
    · exact ⟨_, _, hnew.extBut hs.extBut n3⟩
    · obtain ⟨a1, a2, q⟩ := R₁.ent y hy
      exact ⟨a1, a2, q.extBut hs.extBut (R.new y hy).2.2⟩
  · rw [List.map_cons, List.nodup_cons]
    refine ⟨fun hm => ?_, R.nod⟩
    obtain ⟨x, hx, e⟩ := List.mem_map.mp hm
    exact n4 x hx e
  · rcases List.mem_cons.mp hy with rfl | hy
    · exact ⟨n1, n2, n3⟩
    · exact R.new y hy

theorem later_branch {e p t c : Nat} {ts : List Nat} {rest : List (Nat × Nat × Nat)} {tp tt : Tok} {Q : Flow → Shared → Prop} (hh : A.handled = none) (hu : A.units < cLine) (G : Gl B mg mb) (Fh : Fr B L s.heap m) (W : WebL n row ra aw B) (Tl : TL m aw r T C) (R : RoadIn s.heap B L r ((e, p, t + 1) :: rest))
    (hy : m "place" = some (.int (p : Int) tp)) (ht : m "told" = some (.int (t : Int) tt)) (hp : p < n) (hr : row p = some ts) (h1 : 1 ≤ t) (h2 : t ≤ ts.length) (hc : ts.getD (t - 1) 0 = c) (hlen : rest.length < 1000) (hT : T.length ≤ 1000)
    (h₀ : row c = none → ∀ h' tk m', Fr B L h' m' → TL m' aw r ((T ++ ", ") ++ "[]") C → RoadIn h' B L r ((e, p, t + 1) :: rest) → Q .next { s with heap := h', toks := tk })
    (h₁ : ∀ ds, row c = some ds → ∀ h' tk m' e', Fr B L h' m' → TL m' aw r ((T ++ ", ") ++ "[") (if C < 0 ∧ c ∈ p :: rest.map (·.2.1) then ((T ++ ", ").length : Int) else C) → RoadIn h' B L r ((e', c, 0) :: (e, p, t + 1) :: rest) → Q .next { s with heap := h', toks := tk }) :
    wpAny (model prog w) A (execs (bodyW.drop 3) (envD L a cd)) Q E s := by
  have hsm := W.small
  have hcn : c < n := W.inn p ts hp hr _ (by
    rw [← hc]
    have : t - 1 < ts.length := by omega
    simp [List.getD, this])
  have l2 : (", " : Str).length = 2 := by decide +kernel
  have la : ∀ x y : Str, (x ++ y).length = x.length + y.length := fun x y => by
    show (x.cps ++ y.cps).size = _
    rw [Array.size_append]; rfl
  refine wpAny_execs_cons (text_grows (x := ", ") Fh Tl (by omega) (wpAny_IfExp (wpAny_isTrue_Compare1 (nameX_L Fh ht (wpAny_Constant_int (P.gt_int (wpAny_truthy_bool ?_)))))))
  refine ite_t (by rw [decide_eq_true_iff]; show (0 : Int) < t; omega) (wpAny_Constant_str ⟨_, rfl, Fh, fun h₂ tk₂ m₂ F₂ Tl₂ hs₂ hm₂ => ?_⟩)
  have R₂ := R.store hs₂
  have hy₂ : m₂ "place" = _ := (hm₂ "place" (by decide)).trans hy
  have ht₂ : m₂ "told" = _ := (hm₂ "told" (by decide)).trans ht
  refine wpAny_execs_cons (wpAny_If (wpAny_isTrue_Compare1 (nameX_L F₂ ht₂ (wpAny_Constant_int (P.eq_int (wpAny_truthy_bool ?_))))))
  refine ite_f (by rw [beq_eq_false_iff_ne]; show (t : Int) ≠ 0; omega) ?_
  obtain ⟨vs, hl, hi⟩ := W.rows c hcn
  refine wpAny_execs_cons (wpAny_If (isT_eq_nil hu (Subscript_ (nameX_L F₂ Tl₂.web (child_at F₂ W Tl₂.web hy₂ ht₂ hp hr h1 h2 hc fun tc => item_listR (F₂.lst W.all) (x := .ref (ra c)) (by omega) (by omega) (by simp [hcn]) ⟨_, _, rfl, F₂.lst hl, fun h₃ tk₃ k₃ => ?_⟩)))))
  have F₃ := F₂.keeps k₃
  have R₃ := R₂.keeps k₃
  cases hrc : row c with
  | none =>
    rw [hrc] at hi
    have em : vs.toArray.isEmpty = true := by have := hi.size; simpa [rowNums] using this
    rw [em]
    refine ite_t rfl ?_
    refine wpAny_execs_cons (text_grows (x := "[]") F₃ Tl₂ (by rw [la]; show _ + 2 ≤ _; omega) (wpAny_Constant_str ⟨_, rfl, F₃, fun h₄ tk₄ m₄ F₄ Tl₄ hs₄ hm₄ => ?_⟩))
    exact wpAny_execs_nil (wpAny_execs_nil (wpAny_execs_nil (h₀ hrc _ _ _ F₄ Tl₄ (R₃.store hs₄))))
  | some ds =>
    rw [hrc] at hi
    have em : vs.toArray.isEmpty = false := by
      have := hi.size
      rw [Array.isEmpty_eq_false_iff_exists_mem]
      exact ⟨vs.toArray[0]'(by rw [this]; simp [rowNums]), Array.getElem_mem _⟩
    rw [em]
    refine ite_f rfl ?_
    have fin : ∀ (Q' : Flow → Shared → Prop) (_ : ∀ s', Q .next s' → Q' .next s') (s₅ : Shared) (m₅ : Str → Option Value) (C' : Int), (∃ h₅ tk₅, s₅ = { s with heap := h₅, toks := tk₅ }) → Fr B L s₅.heap m₅ → TL m₅ aw r (T ++ ", ") C' → RoadIn s₅.heap B L r ((e, p, t + 1) :: rest) → m₅ "place" = some (.int (p : Int) tp) → m₅ "told" = some (.int (t : Int) tt) →
        C' = (if C < 0 ∧ c ∈ p :: rest.map (·.2.1) then ((T ++ ", ").length : Int) else C) → wpAny (model prog w) A (execs (pushB.drop 1) (envD L a cd)) Q' E s₅ := by
      rintro Q' hQ' _ m₅ C' ⟨h₅, tk₅, rfl⟩ F₅ Tl₅ R₅ hy₅ ht₅ hC'
      refine wpAny_execs_cons (text_grows (x := "[") F₅ Tl₅ (by rw [la]; show _ + 1 ≤ _; omega) (wpAny_Constant_str ⟨_, rfl, F₅, fun h₆ tk₆ m₆ F₆ Tl₆ hs₆ hm₆ => ?_⟩))
      have R₆ := R₅.store hs₆
      refine wpAny_execs_cons (push_child F₆ W Tl₆ R₆ ((hm₆ "place" (by decide)).trans hy₅) ((hm₆ "told" (by decide)).trans ht₅) hp hr h1 h2 hc (by simp; omega) fun h₇ tk₇ e' F₇ R₇ => ?_)
      rw [hC'] at Tl₆
      exact wpAny_execs_nil (hQ' _ (h₁ ds hrc _ _ _ _ F₇ Tl₆ R₇))
    obtain ⟨tC, hC⟩ := Tl₂.circle
    have hpl : ((e, p, t + 1) :: rest).map (·.2.1) = p :: rest.map (·.2.1) := rfl
    refine wpAny_execs_cons (wpAny_If (wpAny_isTrue_BoolOp (wpAny_allTrue_And_cons (wpAny_isTrue_Compare1 (nameX_L F₃ hC (wpAny_Constant_int (P.lt_int (wpAny_truthy_bool ?_))))))))
    by_cases hneg : C < 0
    · refine ite_t (decide_eq_true hneg) ?_
      refine wpAny_allTrue_And_cons (in_road hh F₃ W Tl₂ R₃ hy₂ ht₂ hp hr h1 h2 hc (by simp; omega) fun h₄ tk₄ k₄ => ?_)
      have F₄ := F₃.keeps k₄
      have R₄ := R₃.keeps k₄
      rw [hpl]
      by_cases hin : c ∈ p :: rest.map (·.2.1)
      · refine ite_t (decide_eq_true hin) (wpAny_allTrue_And_nil ?_)
        have bl := G.boot (x := "len") (v := .builtin "len") (by decide) (by decide +kernel)
        obtain ⟨tT, hT₂⟩ := Tl₂.text
        refine ite_t rfl (wpAny_execs_cons (wpAny_Assign_Name (call_b (nm_B F₄ G.g bl.1 G.b bl.2 ⟨rfl, args1 (nameX_L F₄ hT₂ (P.len_str (by rw [la]; omega) (wpAny_storeName_local (by rfl) F₄.ns fun h₅ hn₅ hs₅ => wpAny_execs_nil ?_)))⟩))))
        refine fin _ (fun s' q => wpAny_execs_nil (wpAny_execs_nil q)) _ _ _ ⟨_, _, rfl⟩ (F₄.set hn₅ hs₅) Tl₂.setC (R₄.store hs₅) (by rw [if_neg (by decide)]; exact hy₂) (by rw [if_neg (by decide)]; exact ht₂) (by rw [if_pos ⟨hneg, hin⟩])
      · refine ite_f (decide_eq_false hin) ?_
        refine ite_f rfl (wpAny_execs_nil ?_)
        refine fin _ (fun s' q => wpAny_execs_nil (wpAny_execs_nil q)) _ _ _ ⟨_, _, rfl⟩ F₄ Tl₂ R₄ hy₂ ht₂ (by rw [if_neg fun q => hin q.2])
    · refine ite_f (decide_eq_false hneg) ?_
      refine ite_f rfl (wpAny_execs_nil ?_)
      refine fin _ (fun s' q => wpAny_execs_nil (wpAny_execs_nil q)) _ _ _ ⟨_, _, rfl⟩ F₃ Tl₂ R₃ hy₂ ht₂ (by rw [if_neg fun q => hneg q.1])
end
end Mine
end

/- part H10 -/
section
open PySem PySem.W PyProof.Rows PySem.W.X
set_option maxRecDepth 100000
namespace Mine

def VTS (n : Nat) (row : Nat → Option (List Nat)) (S : TS) : Prop := (∀ x ∈ S.rd, x.1 < n ∧ x.2 ≤ (rowNums x.1 (row x.1)).length) ∧ S.rd.length ≤ S.text.length
def measureT (S : TS) : Nat := 2 * (160 - S.text.length) + S.rd.length
def condT (S : TS) : Bool := !S.rd.isEmpty && decide (S.text.length < 160)
def ltN (row : Nat → Option (List Nat)) (S₀ : TS) : Nat → TS
  | 0 => S₀
  | n + 1 => ltStep row (ltN row S₀ n)

theorem len_app (x y : Str) : (x ++ y).length = x.length + y.length := by
  show (x.cps ++ y.cps).size = _
  rw [Array.size_append]; rfl
theorem pStr_pos (p : Nat) : 1 ≤ (pStr p).length := by
  unfold pStr
  have h : (toString (p : Int)).length ≠ 0 := by
    intro e
    have e1 : toString (p : Int) = Nat.repr p := rfl
    rw [e1] at e
    have e2 : (Nat.repr p).toList = Nat.toDigits 10 p := by
      simp [Nat.repr]
    have e3 : (Nat.toDigits 10 p).length = 0 := by
      rw [← e2]; simp at e
    exact absurd (List.length_eq_zero_iff.mp e3) Nat.toDigits_ne_nil
  have e : (Str.ofString (toString (p : Int))).length = (toString (p : Int)).length := by
    rw [PySem.ofString_length]
  omega

theorem VTS.step {n : Nat} {row : Nat → Option (List Nat)} (hin : ∀ p ts, p < n → row p = some ts → ∀ q ∈ ts, q < n) {S : TS} (v : VTS n row S) : VTS n row (ltStep row S) := by
  obtain ⟨rd, T, C⟩ := S
  unfold ltStep
  match rd, v with
  | [], v => exact v
  | (p, t) :: rest, ⟨v1, v2⟩ =>
    have vp := v1 (p, t) (List.mem_cons_self ..)
    have vr : ∀ x ∈ rest, x.1 < n ∧ x.2 ≤ (rowNums x.1 (row x.1)).length := fun x hx => v1 x (List.mem_cons_of_mem _ hx)
    simp only [List.length_cons] at v2
    dsimp only
    cases hr : row p with
    | none => exact ⟨vr, by show rest.length ≤ T.length; omega⟩
    | some ts =>
      dsimp only
      rw [hr] at vp
      simp only [rowNums, List.length_cons] at vp
      by_cases h1 : t = ts.length + 1
      · rw [if_pos h1]
        exact ⟨vr, by show rest.length ≤ (T ++ ("]" : Str)).length; rw [len_app]; omega⟩
      · rw [if_neg h1]
        by_cases h0 : t = 0
        · rw [if_pos h0]
          refine ⟨fun x hx => ?_, by show rest.length + 1 ≤ (T ++ pStr p).length; rw [len_app]; omega⟩
          rcases List.mem_cons.mp hx with rfl | hx
          · exact ⟨vp.1, by rw [hr]; simp [rowNums]⟩
          · exact vr x hx
        · rw [if_neg h0]
          have hc : ts.getD (t - 1) 0 < n := hin p ts vp.1 hr _ (by
            have : t - 1 < ts.length := by omega
            simp [List.getD, this])
          cases hc' : row (ts.getD (t - 1) 0) with
          | none =>
            refine ⟨fun x hx => ?_, by show rest.length + 1 ≤ ((T ++ (", " : Str)) ++ ("[]" : Str)).length; rw [len_app, len_app]; omega⟩
            rcases List.mem_cons.mp hx with rfl | hx
            · exact ⟨vp.1, by rw [hr]; simp [rowNums]; omega⟩
            · exact vr x hx
          | some ds =>
            refine ⟨fun x hx => ?_, by show rest.length + 1 + 1 ≤ ((T ++ (", " : Str)) ++ ("[" : Str)).length; rw [len_app, len_app]; have : ("[" : Str).length = 1 := by decide +kernel
                                       omega⟩
            rcases List.mem_cons.mp hx with rfl | hx
            · exact ⟨hc, Nat.zero_le _⟩
            · rcases List.mem_cons.mp hx with rfl | hx
              · exact ⟨vp.1, by rw [hr]; simp [rowNums]; omega⟩
              · exact vr x hx

theorem measure_step {row : Nat → Option (List Nat)} {S : TS} (hc : condT S = true) : measureT (ltStep row S) < measureT S := by
  obtain ⟨rd, T, C⟩ := S
  unfold condT at hc
  simp only [Bool.and_eq_true, decide_eq_true_eq] at hc
  obtain ⟨c1, c2⟩ := hc
  unfold ltStep measureT
  match rd, c1 with
  | (p, t) :: rest, _ =>
    dsimp only
    simp only [List.length_cons]
    cases hr : row p with
    | none => dsimp only; omega
    | some ts =>
      dsimp only
      by_cases h1 : t = ts.length + 1
      · rw [if_pos h1]
        dsimp only
        rw [len_app]; omega
      · rw [if_neg h1]
        by_cases h0 : t = 0
        · rw [if_pos h0]
          have := pStr_pos p
          dsimp only
          rw [len_app, List.length_cons]; omega
        · rw [if_neg h0]
          cases hc' : row (ts.getD (t - 1) 0) with
          | none =>
            have : ("[]" : Str).length = 2 := by decide +kernel
            dsimp only
            rw [len_app, len_app, List.length_cons]; omega
          | some ds =>
            have : ("[" : Str).length = 1 := by decide +kernel
            have : (", " : Str).length = 2 := by decide +kernel
            dsimp only
            rw [len_app, len_app, List.length_cons, List.length_cons]; omega

theorem pStr_le {p : Nat} (hp : p < 1000) : (pStr p).length ≤ 1921 := by
  have hlog : (p : Int).natAbs.log2 < 1920 := by
    have e1 : p.log2 ≤ (1000 : Nat).log2 := by
      by_cases h0 : p = 0
      · subst h0; decide
      · exact (Nat.le_log2 (by decide)).mpr (Nat.le_trans (Nat.log2_self_le h0) (Nat.le_of_lt hp))
    exact Nat.lt_of_le_of_lt e1 (by decide)
  exact PyProof.Rows.int_text_len_1921 hlog
theorem text_step {n : Nat} {row : Nat → Option (List Nat)} (hn : n ≤ 1000) {S : TS} (v : VTS n row S) : (ltStep row S).text.length ≤ S.text.length + 2000 := by
  obtain ⟨rd, T, C⟩ := S
  unfold ltStep
  match rd, v with
  | [], v => exact Nat.le_add_right ..
  | (p, t) :: rest, ⟨v1, v2⟩ =>
    have vp := v1 (p, t) (List.mem_cons_self ..)
    dsimp only
    cases hr : row p with
    | none => exact Nat.le_add_right ..
    | some ts =>
      dsimp only
      by_cases h1 : t = ts.length + 1
      · rw [if_pos h1]
        have : ("]" : Str).length = 1 := by decide +kernel
        dsimp only
        rw [len_app]; omega
      · rw [if_neg h1]
        by_cases h0 : t = 0
        · rw [if_pos h0]
          have := pStr_le (p := p) (by have := vp.1; simp at this; omega)
          dsimp only
          rw [len_app]; omega
        · rw [if_neg h0]
          cases hc' : row (ts.getD (t - 1) 0) with
          | none =>
            have : ("[]" : Str).length = 2 := by decide +kernel
            have : (", " : Str).length = 2 := by decide +kernel
            dsimp only
            rw [len_app, len_app]; omega
          | some ds =>
            have : ("[" : Str).length = 1 := by decide +kernel
            have : (", " : Str).length = 2 := by decide +kernel
            dsimp only
            rw [len_app, len_app]; omega
end Mine
end

/- part H11 -/
section
open PySem PySem.W PyProof.Rows PySem.W.X
set_option maxRecDepth 100000
namespace Mine
section
variable {prog : Program} {w : World} {A : Around} {E : Value → Shared → Prop} {s : Shared} {B : Heap} {L a : Nat} {cd : Value} {m mg mb : Str → Option Value} {aw r n : Nat} {row : Nat → Option (List Nat)} {ra : Nat → Nat} {T : Str} {C : Int}

theorem turn {e p t : Nat} {rest : List (Nat × Nat × Nat)} {Q : Flow → Shared → Prop} (hh : A.handled = none) (hu : A.units < cLine) (G : Gl B mg mb) (Fh : Fr B L s.heap m) (W : WebL n row ra aw B) (Tl : TL m aw r T C) (R : RoadIn s.heap B L r ((e, p, t) :: rest))
    (hv : VTS n row ⟨((e, p, t) :: rest).map (·.2), T, C⟩) (hT : T.length < 160)
    (h : ∀ f h' tk m' rs', (f = .next ∨ f = .cont) → Fr B L h' m' → TL m' aw r (ltStep row ⟨((e, p, t) :: rest).map (·.2), T, C⟩).text (ltStep row ⟨((e, p, t) :: rest).map (·.2), T, C⟩).circ → RoadIn h' B L r rs' → rs'.map (·.2) = (ltStep row ⟨((e, p, t) :: rest).map (·.2), T, C⟩).rd → Q f { s with heap := h', toks := tk }) :
    wpAny (model prog w) A (execs bodyW (envD L a cd)) Q E s := by
  obtain ⟨hp, ht⟩ := hv.1 (p, t) (List.mem_cons_self ..)
  have hl2 := hv.2
  simp only [List.map_cons, List.length_cons, List.length_map] at hl2
  refine wpAny_execs_cons (take_top hh Fh Tl R fun h₁ tk₁ m₁ tp tt F₁ Tl₁ R₁ hy₁ ht₁ => ?_)
  refine wpAny_execs_cons (wpAny_If (done_test hu G F₁ W Tl₁.web hy₁ ht₁ hp fun h₂ tk₂ k₂ => ?_))
  have F₂ := F₁.keeps k₂
  have R₂ := R₁.keeps k₂
  unfold ltStep at h
  simp only [List.map_cons] at h
  cases hr : row p with
  | none =>
    rw [hr] at h
    refine ite_t (by rfl) (pop_branch hu F₂ W Tl₁ R₂ hy₁ hp (by omega) (by omega) fun h₃ tk₃ m₃ F₃ Tl₃ R₃ => ?_)
    rw [hr] at Tl₃
    exact h _ _ _ _ _ (.inr rfl) F₃ Tl₃ R₃ rfl
  | some ts =>
    rw [hr] at h ht
    simp only [rowNums, List.length_cons] at ht
    dsimp only at h
    have hts := W.len p ts hp hr
    by_cases h1 : t = ts.length + 1
    · rw [if_pos h1] at h
      refine ite_t (by show (false || decide (t = (p :: ts).length)) = true; rw [Bool.false_or, decide_eq_true_iff]; exact h1) (pop_branch hu F₂ W Tl₁ R₂ hy₁ hp (by omega) (by omega) fun h₃ tk₃ m₃ F₃ Tl₃ R₃ => ?_)
      rw [hr] at Tl₃
      exact h _ _ _ _ _ (.inr rfl) F₃ Tl₃ R₃ rfl
    · rw [if_neg h1] at h
      refine ite_f (by show (false || decide (t = (p :: ts).length)) = false; rw [Bool.false_or, decide_eq_false_iff_not]; exact h1) (wpAny_execs_nil ?_)
      refine wpAny_execs_cons (set_told F₂ Tl₁ R₂ ht₁ fun h₃ tk₃ F₃ R₃ => ?_)
      by_cases h0 : t = 0
      · subst h0
        rw [if_pos rfl] at h
        exact first_branch G F₃ W Tl₁ R₃ hy₁ ht₁ hp (by omega) fun h₄ tk₄ m₄ F₄ Tl₄ R₄ => h _ _ _ _ _ (.inl rfl) F₄ Tl₄ R₄ rfl
      · rw [if_neg h0] at h
        refine later_branch hh hu G F₃ W Tl₁ R₃ hy₁ ht₁ hp hr (by omega) (by omega) rfl (by omega) (by omega) (fun hc h₄ tk₄ m₄ F₄ Tl₄ R₄ => ?_) fun ds hc h₄ tk₄ m₄ e' F₄ Tl₄ R₄ => ?_
        · rw [hc] at h
          exact h _ _ _ _ _ (.inl rfl) F₄ Tl₄ R₄ rfl
        · rw [hc] at h
          refine h _ _ _ _ _ (.inl rfl) F₄ ?_ R₄ rfl
          have e : List.map (fun x => x.1) (List.map (fun x : Nat × Nat × Nat => x.2) rest) = rest.map (·.2.1) := by rw [List.map_map]; rfl
          dsimp only
          rw [e]
          exact Tl₄

/-- `while road != [] and len(text) < most` -/
theorem loop {rs : List (Nat × Nat × Nat)} {Q : Flow → Shared → Prop} (hh : A.handled = none) (hu : A.units < cLine) (G : Gl B mg mb) (Fh : Fr B L s.heap m) (W : WebL n row ra aw B) (Tl : TL m aw r T C) (R : RoadIn s.heap B L r rs)
    (hv : VTS n row ⟨rs.map (·.2), T, C⟩) (hlT : T.length ≤ 10000)
    (h : ∀ k h' tk m', Fr B L h' m' → TL m' aw r (ltN row ⟨rs.map (·.2), T, C⟩ k).text (ltN row ⟨rs.map (·.2), T, C⟩ k).circ → condT (ltN row ⟨rs.map (·.2), T, C⟩ k) = false → (∀ j < k, condT (ltN row ⟨rs.map (·.2), T, C⟩ j) = true) → Q .next { s with heap := h', toks := tk }) :
    wpAny (model prog w) A (exec whileD (envD L a cd)) Q E s := by
  have hlS : (⟨rs.map (·.2), T, C⟩ : TS).text.length ≤ 10000 := hlT
  generalize hS : (⟨rs.map (·.2), T, C⟩ : TS) = S₀ at hv h hlS
  refine wpAny_While (codeAny_whileLoop (fun k s' => ∃ S j h' tk m' rs', s' = { s with heap := h', toks := tk } ∧ S = ltN row S₀ j ∧ (∀ i < j, condT (ltN row S₀ i) = true) ∧ VTS n row S ∧ Fr B L h' m' ∧ TL m' aw r S.text S.circ ∧ RoadIn h' B L r rs' ∧ rs'.map (·.2) = S.rd ∧ S.text.length ≤ 10000 ∧ k = measureT S) ?_ (measureT S₀)
    ⟨S₀, 0, s.heap, s.toks, m, rs, rfl, rfl, fun _ hi => absurd hi (Nat.not_lt_zero _), hv, Fh, by rw [← hS]; exact Tl, R, by rw [← hS], hlS, rfl⟩)
  rintro k _ ⟨S, j, h', tk, m', rs', rfl, hSj, hbef, hv', F', Tl', R', hrd, hlE, rfl⟩
  obtain ⟨kr, hr⟩ := R'.all
  have bl := G.boot (x := "len") (v := .builtin "len") (by decide) (by decide +kernel)
  refine wpAny_isTrue_BoolOp (wpAny_allTrue_And_cons (isT_ne_nil hu (nameX_L F' Tl'.road ⟨r, _, rfl, ⟨_, hr, rfl, kr, rfl⟩, fun h₂ tk₂ k₂ => ?_⟩)))
  have F₂ := F'.keeps k₂
  have R₂ := R'.keeps k₂
  have hemp : (!(rs'.reverse.map fun x => Value.ref x.1).toArray.isEmpty) = !S.rd.isEmpty := by
    rw [← hrd]
    cases rs' <;> simp
  rw [hemp]
  cases hE : S.rd.isEmpty with
  | true =>
    refine ite_f rfl (ite_f rfl (wpAny_execs_nil ?_))
    exact h j _ _ _ F₂ (hSj ▸ Tl') (by rw [← hSj]; unfold condT; rw [hE]; rfl) hbef
  | false =>
    obtain ⟨tT, hT⟩ := Tl'.text
    obtain ⟨tM, hM⟩ := Tl'.most
    refine ite_t rfl (wpAny_allTrue_And_cons (wpAny_isTrue_Compare1 (call_b (nm_B F₂ G.g bl.1 G.b bl.2 ⟨rfl, args1 (nameX_L F₂ hT (P.len_str ?_ (nameX_L F₂ hM (P.lt_int (wpAny_truthy_bool ?_)))))⟩))))
    · omega
    by_cases hcond : S.text.length < 160
    · refine ite_t (by rw [decide_eq_true_iff]; omega) (wpAny_allTrue_And_nil ?_)
      match rs', hrd, R₂ with
      | [], hrd, _ => rw [← hrd] at hE; cases hE
      | (e, p, t) :: rest, hrd, R₂ =>
        have hSe : S = ⟨((e, p, t) :: rest).map (·.2), S.text, S.circ⟩ := by rw [hrd]
        have hcT : condT S = true := by unfold condT; rw [hE]; simpa using hcond
        refine ite_t rfl (turn hh hu G F₂ W Tl' R₂ (by rw [← hSe]; exact hv') hcond fun f h₃ tk₃ m₃ rs₃ hf F₃ Tl₃ R₃ hrd₃ => ?_)
        rw [← hSe] at Tl₃ hrd₃
        have key : ∃ m_1, m_1 < measureT S ∧ ∃ S' j' h' tk m' rs', ({ s with heap := h₃, toks := tk₃ } : Shared) = { s with heap := h', toks := tk } ∧ S' = ltN row S₀ j' ∧ (∀ i < j', condT (ltN row S₀ i) = true) ∧ VTS n row S' ∧ Fr B L h' m' ∧ TL m' aw r S'.text S'.circ ∧ RoadIn h' B L r rs' ∧ rs'.map (·.2) = S'.rd ∧ S'.text.length ≤ 10000 ∧ m_1 = measureT S' := by
          refine ⟨_, measure_step hcT, _, j + 1, _, _, _, _, rfl, by rw [hSj]; rfl, fun i hi => ?_, hv'.step W.inn, F₃, Tl₃, R₃, hrd₃, by have := text_step W.small hv'; omega, rfl⟩
          rcases Nat.lt_succ_iff_lt_or_eq.mp hi with hi | rfl
          · exact hbef i hi
          · rw [← hSj]; exact hcT
        rcases hf with rfl | rfl
        · exact key
        · exact key
    · refine ite_f (by rw [decide_eq_false_iff_not]; omega) (ite_f rfl (wpAny_execs_nil ?_))
      exact h j _ _ _ F₂ (hSj ▸ Tl') (by rw [← hSj]; unfold condT; rw [hE]; simpa using hcond) hbef
end
end Mine
end

/- part H12 -/
section
open PySem PySem.W PyProof.Rows PySem.W.X
set_option maxRecDepth 100000
namespace Mine
section
variable {prog : Program} {w : World} {A : Around} {E : Value → Shared → Prop} {s : Shared} {B : Heap} {L a : Nat} {cd : Value} {m mg mb : Str → Option Value} {aw r n : Nat} {row : Nat → Option (List Nat)} {ra : Nat → Nat} {T : Str} {C : Int}

def S0 (row : Nat → Option (List Nat)) : TS := ⟨[(0, 0)], if (row 0).isSome then ("[" : Str) else ("[]" : Str), -1⟩

/-- `road, text, circle = (...)` -/
theorem text_start {tm : Tok} {Q : Flow → Shared → Prop} (hh : A.handled = none) (hu : A.units < cLine) (Fh : Fr B L s.heap m) (W : WebL n row ra aw B) (h0 : 0 < n) (hw : m "web" = some (.ref aw)) (hm : m "most" = some (.int 160 tm))
    (h : ∀ h' tk m' r e, Fr B L h' m' → TL m' aw r (S0 row).text (-1) → RoadIn h' B L r [(e, 0, 0)] → Q .next { s with heap := h', toks := tk }) :
    wpAny (model prog w) A (exec (nthS 0 (bodyS textDef)) (envD L a cd)) Q E s := by
  have hsl : sizeLine = 16777216 := sizeLine_eq
  obtain ⟨vs, hl, hi⟩ := W.rows 0 h0
  have hsm := W.small
  refine Assign_Tuple_swapped (names := ["road", "text", "circle"]) ?_
  refine wpAny_Tuple (wpAny_items_cons ?_)
  refine wpAny_List (args1 (wpAny_List (args2 (wpAny_Constant_int (wpAny_Constant_int ⟨by show 2 ≤ sizeLine; omega, ⟨by show 1 ≤ sizeLine; omega, ?_⟩⟩)))))
  generalize hE : s.heap.objs.size = e
  have hne : B.get? e = none ∧ e ≠ L := by
    rw [← hE]
    refine ⟨?_, Nat.ne_of_gt (Fr_lt' Fh)⟩
    cases q : B.get? s.heap.objs.size with
    | none => rfl
    | some o => exact absurd (Heap.lt_size (Fh.keep _ _ q)) (Nat.lt_irrefl _)
  have k₁ : ∀ b o, s.heap.get? b = some o → (s.heap.push { cls := .type "list", data := .seq [Value.int 0 s.toks, Value.int 0 (s.toks + 1)].toArray }).get? b = some o := fun b o q => Heap.get?_push_of_some _ q
  have l₁ : (s.heap.push { cls := .type "list", data := .seq [Value.int 0 s.toks, Value.int 0 (s.toks + 1)].toArray }).IsList e #[.int ((0 : Nat) : Int) s.toks, .int ((0 : Nat) : Int) (s.toks + 1)] := ⟨_, hE ▸ Heap.get?_push_size _ rfl, rfl, _, rfl⟩
  generalize s.heap.push { cls := .type "list", data := .seq [Value.int 0 s.toks, Value.int 0 (s.toks + 1)].toArray } = h₁ at k₁ l₁ ⊢
  have F₁ := Fh.keeps k₁
  have hel : e < h₁.objs.size := by obtain ⟨_, q, _⟩ := l₁; exact Heap.lt_size q
  generalize hR : h₁.objs.size = r at hel ⊢
  have hnr : B.get? r = none ∧ r ≠ L := by
    rw [← hR]
    refine ⟨?_, Nat.ne_of_gt (Fr_lt' F₁)⟩
    cases q : B.get? h₁.objs.size with
    | none => rfl
    | some o => exact absurd (Heap.lt_size (F₁.keep _ _ q)) (Nat.lt_irrefl _)
  have k₂ : ∀ b o, h₁.get? b = some o → (h₁.push { cls := .type "list", data := .seq [Value.ref e].toArray }).get? b = some o := fun b o q => Heap.get?_push_of_some _ q
  have l₂ : (h₁.push { cls := .type "list", data := .seq [Value.ref e].toArray }).get? r = some (lsObj #[.ref e] 0) := hR ▸ Heap.get?_push_size _ rfl
  generalize h₁.push { cls := .type "list", data := .seq [Value.ref e].toArray } = h₂ at k₂ l₂ ⊢
  have F₂ := F₁.keeps k₂
  have R₂ : RoadIn h₂ B L r [(e, 0, 0)] := ⟨⟨0, l₂⟩, fun x hx => by
    rw [List.mem_singleton.mp hx]
    obtain ⟨o, q, q'⟩ := l₁
    exact ⟨_, _, o, k₂ _ _ q, q'⟩, by simp, fun x hx => by rw [List.mem_singleton.mp hx]; exact ⟨hne.1, hne.2, Nat.ne_of_lt hel⟩, hnr⟩
  refine wpAny_items_cons (wpAny_IfExp (isT_ne_nil hu (Subscript_ (nameX_L F₂ hw (wpAny_Constant_int (item_list (F₂.lst W.all) (x := .ref (ra 0)) (by decide) (by decide) (by simp [h0]) ⟨_, _, rfl, F₂.lst hl, fun h₃ tk₃ k₃ => ?_⟩))))))
  have F₃ := F₂.keeps k₃
  have R₃ := R₂.keeps k₃
  have em : (!vs.toArray.isEmpty) = (row 0).isSome := by
    have := hi.size
    cases hr : row 0 with
    | none => rw [hr] at this; simpa [rowNums] using this
    | some ts => rw [hr] at this; rw [Array.isEmpty_eq_false_iff_exists_mem.mpr]; · rfl
                 · exact ⟨vs.toArray[0]'(by rw [this]; simp [rowNums]), Array.getElem_mem _⟩
  rw [em]
  have hSt : (S0 row).text = if (row 0).isSome then ("[" : Str) else ("[]" : Str) := rfl
  cases hr0 : (row 0).isSome
  all_goals rw [hr0] at hSt
  · refine ite_f rfl (wpAny_Constant_str ?_)
    refine wpAny_items_cons (wpAny_UnaryOp (wpAny_Constant_int (P.neg_int (wpAny_items_nil ⟨by show 3 ≤ sizeLine; omega, ?_⟩))))
    refine unpackItems_tuple hh (items := #[_, _, _]) ⟨_, Heap.get?_push_size _ rfl, rfl, _, rfl⟩ fun h₄ he₄ => ?_
    have k₄ : ∀ b o, h₃.get? b = some o → h₄.get? b = some o := fun b o q => he₄ b o (Nat.ne_of_lt (Nat.lt_trans (Heap.lt_size q) (by rw [Heap.size_push]; exact Nat.lt_succ_self _))) (Heap.get?_push_of_some _ q)
    have F₄ := F₃.keeps k₄
    have R₄ := R₃.keeps k₄
    refine wpAny_assignInOrder_more (bindName_ (wpAny_storeName_local (by rfl) F₄.ns fun h₅ hn₅ hs₅ => ?_))
    have F₅ := F₄.set hn₅ hs₅
    have R₅ := R₄.store hs₅
    refine wpAny_assignInOrder_more (bindName_ (wpAny_storeName_local (by rfl) F₅.ns fun h₆ hn₆ hs₆ => ?_))
    have F₆ := F₅.set hn₆ hs₆
    have R₆ := R₅.store hs₆
    refine wpAny_assignInOrder_more (bindName_ (wpAny_storeName_local (by rfl) F₆.ns fun h₇ hn₇ hs₇ => ?_))
    refine wpAny_assignInOrder_none ?_
    refine h _ _ _ r e (F₆.set hn₇ hs₇) ?_ (R₆.store hs₇)
    rw [hSt]
    exact ⟨hw, ⟨tm, hm⟩, by rfl, ⟨_, by rfl⟩, ⟨_, by rfl⟩⟩
  · refine ite_t rfl (wpAny_Constant_str ?_)
    refine wpAny_items_cons (wpAny_UnaryOp (wpAny_Constant_int (P.neg_int (wpAny_items_nil ⟨by show 3 ≤ sizeLine; omega, ?_⟩))))
    refine unpackItems_tuple hh (items := #[_, _, _]) ⟨_, Heap.get?_push_size _ rfl, rfl, _, rfl⟩ fun h₄ he₄ => ?_
    have k₄ : ∀ b o, h₃.get? b = some o → h₄.get? b = some o := fun b o q => he₄ b o (Nat.ne_of_lt (Nat.lt_trans (Heap.lt_size q) (by rw [Heap.size_push]; exact Nat.lt_succ_self _))) (Heap.get?_push_of_some _ q)
    have F₄ := F₃.keeps k₄
    have R₄ := R₃.keeps k₄
    refine wpAny_assignInOrder_more (bindName_ (wpAny_storeName_local (by rfl) F₄.ns fun h₅ hn₅ hs₅ => ?_))
    have F₅ := F₄.set hn₅ hs₅
    have R₅ := R₄.store hs₅
    refine wpAny_assignInOrder_more (bindName_ (wpAny_storeName_local (by rfl) F₅.ns fun h₆ hn₆ hs₆ => ?_))
    have F₆ := F₅.set hn₆ hs₆
    have R₆ := R₅.store hs₆
    refine wpAny_assignInOrder_more (bindName_ (wpAny_storeName_local (by rfl) F₆.ns fun h₇ hn₇ hs₇ => ?_))
    refine wpAny_assignInOrder_none ?_
    refine h _ _ _ r e (F₆.set hn₇ hs₇) ?_ (R₆.store hs₇)
    rw [hSt]
    exact ⟨hw, ⟨tm, hm⟩, by rfl, ⟨_, by rfl⟩, ⟨_, by rfl⟩⟩
end
end Mine
end

/- part H13 -/
section
open PySem PySem.W PyProof.Rows PySem.W.X
set_option maxRecDepth 100000
namespace Mine
section
variable {prog : Program} {w : World} {A : Around} {E : Value → Shared → Prop} {s : Shared} {mg mb : Str → Option Value} {n : Nat} {row : Nat → Option (List Nat)} {ra : Nat → Nat}

theorem call_law_text {aT aw : Nat} {o : Obj} {pm cd doc : Value} {tm : Tok} {Q : Value → Shared → Prop} (hh : A.handled = none) (hu : A.units + 3 < cLine) (hroom : A.depth < recursionLimit)
    (ho : s.heap.get? aT = some o) (hd : o.data = .func (Calls.docDef "_law_text" (argsS textDef) (bodyS textDef) (scopeS textDef) pm cd doc)) (hcd : s.heap.CodeRec cd "_law_text")
    (G : Gl s.heap mg mb) (W : WebL n row ra aw s.heap) (h0 : 0 < n)
    (h : ∀ h' tk k ta tt tc, (∀ b o, s.heap.get? b = some o → h'.get? b = some o) → IsTup h' ta #[.str (ltN row (S0 row) k).text tt, .int (ltN row (S0 row) k).circ tc] → condT (ltN row (S0 row) k) = false → (∀ j < k, condT (ltN row (S0 row) j) = true) → Q (.ref ta) { s with heap := h', toks := tk }) :
    wpAny (model prog w) A (call (.ref aT) [.ref aw, .int 160 tm]) Q E s := by
  have hsl : sizeLine = 16777216 := sizeLine_eq
  refine wpAny_call (call_pos_ret hroom ho hd G.nolimit hcd rfl (locs (by kernel_rfl)) (fun h₁ F => ?_) rfl rfl rfl (by decide +kernel))
  show wpAny _ (A.deeper (envD s.heap.objs.size aT cd)) (execs (bodyS textDef) (envD s.heap.objs.size aT cd)) _ _ _
  refine wpAny_execs_cons (text_start hh hu F W h0 (by kernel_rfl) (tm := tm) (by kernel_rfl) fun h₂ tk₂ m₂ r e F₂ Tl₂ R₂ => ?_)
  have hv : VTS n row ⟨[(e, 0, 0)].map (·.2), (S0 row).text, -1⟩ := by
    refine ⟨fun x hx => ?_, ?_⟩
    · rw [List.map_singleton, List.mem_singleton] at hx
      rw [hx]; exact ⟨h0, Nat.zero_le _⟩
    · show 1 ≤ (if (row 0).isSome then ("[" : Str) else ("[]" : Str)).length
      cases (row 0).isSome <;> decide +kernel
  refine wpAny_execs_cons (loop hh hu G F₂ W Tl₂ R₂ hv ?_ fun k h₃ tk₃ m₃ F₃ Tl₃ hc hbef => ?_)
  · show (if (row 0).isSome then ("[" : Str) else ("[]" : Str)).length ≤ 10000
    cases (row 0).isSome <;> decide +kernel
  obtain ⟨tt, hT⟩ := Tl₃.text
  obtain ⟨tc, hC⟩ := Tl₃.circle
  refine wpAny_execs_cons (wpAny_Return_some (wpAny_Tuple (args2 (nameX_L F₃ hT (nameX_L F₃ hC ⟨by show 2 ≤ sizeLine; omega, ?_⟩)))))
  exact h _ _ k _ tt tc (fun b o q => Heap.get?_push_of_some _ (F₃.keep b o q)) ⟨_, Heap.get?_push_size _ rfl, rfl, _, rfl⟩ hc hbef
end
end Mine
end

/- part P1 -/
section
open PySem PySem.W PyProof.Rows PySem.W.X
set_option maxRecDepth 100000
namespace Mine

inductive TK where
  | op (p : Nat)
  | em (p : Nat)
  | sep
  | cl
def tkStr : TK → Str
  | .op p => Str.ofString "[" ++ pStr p
  | .em _ => "[]"
  | .sep => ", "
  | .cl => "]"
def tksStr : List TK → Str
  | [] => ""
  | t :: ts => tkStr t ++ tksStr ts

theorem str_assoc (x y z : Str) : (x ++ y) ++ z = x ++ (y ++ z) := by
  obtain ⟨a⟩ := x; obtain ⟨b⟩ := y; obtain ⟨c⟩ := z
  show Str.mk ((a ++ b) ++ c) = Str.mk (a ++ (b ++ c))
  rw [Array.append_assoc]
theorem nil_str (x : Str) : ("" : Str) ++ x = x := by
  obtain ⟨c⟩ := x
  show Str.mk ((Str.ofString "").cps ++ c) = _
  rw [show (Str.ofString "").cps = #[] by decide +kernel]
  simp
theorem str_nil' (x : Str) : x ++ ("" : Str) = x := by
  obtain ⟨c⟩ := x
  show Str.mk (c ++ (Str.ofString "").cps) = _
  rw [show (Str.ofString "").cps = #[] by decide +kernel]
  simp
theorem tksStr_app : ∀ a b : List TK, tksStr (a ++ b) = tksStr a ++ tksStr b
  | [], b => (nil_str _).symm
  | t :: a, b => by
    show tkStr t ++ tksStr (a ++ b) = (tkStr t ++ tksStr a) ++ tksStr b
    rw [tksStr_app a b, str_assoc]
theorem tksStr_one (t : TK) : tksStr [t] = tkStr t := str_nil' _

structure XS where
  rd : List (Nat × Nat)
  out : List TK

section
variable (row : Nat → Option (List Nat))
def xStep (x : XS) : XS := match x.rd with
  | [] => x
  | (p, t) :: rest => match row p with
    | none => x
    | some ts => if t = ts.length + 1 then ⟨rest, x.out ++ [.cl]⟩ else match row (ts.getD (t - 1) 0) with
      | none => ⟨(p, t + 1) :: rest, x.out ++ [.sep, .em (ts.getD (t - 1) 0)]⟩
      | some _ => ⟨(ts.getD (t - 1) 0, 1) :: (p, t + 1) :: rest, x.out ++ [.sep, .op (ts.getD (t - 1) 0)]⟩
def xZ : XS := match row 0 with
  | none => ⟨[], [.em 0]⟩
  | some _ => ⟨[(0, 1)], [.op 0]⟩
def xN : Nat → XS
  | 0 => xZ row
  | i + 1 => xStep row (xN i)
def isCirc (rd : List (Nat × Nat)) : Prop := ∃ p t rest ts, rd = (p, t) :: rest ∧ row p = some ts ∧ 1 ≤ t ∧ t ≤ ts.length ∧ (row (ts.getD (t - 1) 0)).isSome = true ∧ ts.getD (t - 1) 0 ∈ rd.map (·.1)
end

/-- the stack of the generator's state, its top first -/
def stk : GSt → List (Nat × Nat)
  | .fresh _ => []
  | .atInt p => [(p, 1)]
  | .atSep p k => [(p, k)]
  | .inside p k σ => stk σ ++ [(p, k + 1)]
  | .atEmpty _ => []
  | .atClose _ => []
def pend : GSt → List TK
  | .atSep _ _ => [.sep]
  | .inside _ _ σ => pend σ
  | _ => []
def swf (W : Web) : GSt → Prop
  | .fresh _ => False
  | .atInt p => ∃ ts, W.row p = some ts
  | .atSep p k => ∃ ts, W.row p = some ts ∧ 1 ≤ k ∧ k ≤ ts.length
  | .inside p k σ => (∃ ts, W.row p = some ts ∧ 1 ≤ k ∧ k ≤ ts.length) ∧ swf W σ
  | .atEmpty _ => True
  | .atClose _ => True

def EncOK (W : Web) (chk : Bool) (σ : GSt) (μ : List Nat) (rest : List (Nat × Nat)) (out : List TK) : Out → Prop
  | .yield x σ' _ => swf W σ' ∧ ∃ tok, x = tkStr tok ∧ ((tok = .sep ∧ stk σ' = stk σ ∧ pend σ = [] ∧ pend σ' = [.sep]) ∨
      (xStep W.row ⟨stk σ ++ rest, out⟩ = ⟨stk σ' ++ rest, out ++ pend σ ++ [tok]⟩ ∧ pend σ' = [] ∧ (tok ≠ .sep) ∧ ∀ c, tok = .op c → pend σ = [.sep] ∧ (chk = true → c ∉ μ)))
  | .fin _ => stk σ = [] ∧ pend σ = []
  | .raise => chk = true ∧ ∃ p k rd' ts, stk σ = (p, k) :: rd' ∧ pend σ = [.sep] ∧ W.row p = some ts ∧ 1 ≤ k ∧ k ≤ ts.length ∧ (W.row (ts.getD (k - 1) 0)).isSome = true ∧ ts.getD (k - 1) 0 ∈ μ

theorem enc_head {W : Web} {chk : Bool} {p k : Nat} {ts : List Nat} {μ : List Nat} {σ : GSt} {μ₀ : List Nat} {rest : List (Nat × Nat)} {out : List TK} (hr : W.row p = some ts) (h1 : 1 ≤ k) (h2 : k ≤ ts.length + 1) (hs : stk σ = [(p, k)]) (hp : pend σ = []) :
    EncOK W chk σ μ₀ rest out (headOut W p k μ) := by
  unfold headOut
  rw [hr]
  dsimp only
  by_cases hk : k ≤ ts.length
  · rw [if_pos hk]
    exact ⟨⟨ts, hr, h1, hk⟩, .sep, rfl, .inl ⟨rfl, hs.symm, hp, rfl⟩⟩
  · rw [if_neg hk]
    refine ⟨trivial, .cl, rfl, .inr ⟨?_, rfl, by simp, fun c e => by cases e⟩⟩
    have e : k = ts.length + 1 := by omega
    rw [hs, hp]
    unfold xStep
    simp only [List.singleton_append, hr]
    rw [if_pos e]
    simp [stk]

theorem enc_step {W : Web} {chk : Bool} : ∀ {σ : GSt} {μ : List Nat} {rest : List (Nat × Nat)} {out : List TK}, swf W σ → EncOK W chk σ μ rest out (step W chk σ μ)
  | .fresh p, _, _, _, h => h.elim
  | .atInt p, μ, rest, out, ⟨ts, hr⟩ => enc_head hr (Nat.le_refl _) (Nat.le_add_left ..) rfl rfl
  | .atSep p k, μ, rest, out, ⟨ts, hr, h1, h2⟩ => by
    have e : step W chk (.atSep p k) μ = (freshOut W chk (ts.getD (k - 1) 0) μ).lift W p k := by unfold step; rw [hr]; rfl
    rw [e]
    generalize hc : ts.getD (k - 1) 0 = c
    unfold freshOut
    have hne : k ≠ ts.length + 1 := by omega
    cases hrc : W.row c with
    | none =>
      refine ⟨⟨⟨ts, hr, h1, h2⟩, trivial⟩, .em c, rfl, .inr ⟨?_, rfl, by simp, fun c e => by cases e⟩⟩
      unfold xStep
      simp only [stk, pend, List.singleton_append, hr]
      rw [if_neg hne, hc, hrc]
      simp
    | some ds =>
      dsimp only
      by_cases hk : (chk && decide (c ∈ μ)) = true
      · rw [if_pos hk]
        rw [Bool.and_eq_true, decide_eq_true_iff] at hk
        exact ⟨hk.1, p, k, [], ts, rfl, rfl, hr, h1, h2, by rw [hc, hrc]; rfl, by rw [hc]; exact hk.2⟩
      · rw [if_neg hk]
        refine ⟨⟨⟨ts, hr, h1, h2⟩, ⟨ds, hrc⟩⟩, .op c, rfl, .inr ⟨?_, rfl, by simp, fun c' e => ?_⟩⟩
        · unfold xStep
          simp only [stk, pend, List.singleton_append, hr]
          rw [if_neg hne, hc, hrc]
          simp
        · cases e
          refine ⟨rfl, fun hchk hin => hk ?_⟩
          rw [hchk, Bool.true_and, decide_eq_true_iff]; exact hin
  | .inside p k σ, μ, rest, out, ⟨⟨ts, hr, h1, h2⟩, hs⟩ => by
    have ih := enc_step (chk := chk) (μ := μ) (rest := (p, k + 1) :: rest) (out := out) hs
    have e : step W chk (.inside p k σ) μ = (step W chk σ μ).lift W p k := by rw [step]
    rw [e]
    generalize step W chk σ μ = o at ih ⊢
    cases o with
    | yield x σ' μ' =>
      obtain ⟨hs', tok, hx, h⟩ := ih
      refine ⟨⟨⟨ts, hr, h1, h2⟩, hs'⟩, tok, hx, ?_⟩
      rcases h with ⟨a1, a2, a3, a4⟩ | ⟨a1, a2, a3⟩
      · exact .inl ⟨a1, by simp only [stk, a2], a3, a4⟩
      · refine .inr ⟨?_, a2, a3⟩
        simpa [stk, pend] using a1
    | fin μ' =>
      obtain ⟨b1, b2⟩ := ih
      exact enc_head hr (by omega) (by omega) (by simp only [stk, b1]; rfl) b2
    | raise =>
      obtain ⟨hchk, p', k', rd', ts', c1, c2, c3⟩ := ih
      exact ⟨hchk, p', k', rd' ++ [(p, k + 1)], ts', by simp only [stk, c1]; rfl, c2, c3⟩
  | .atEmpty p, μ, rest, out, _ => ⟨rfl, rfl⟩
  | .atClose p, μ, rest, out, _ => ⟨rfl, rfl⟩

theorem road_stk : ∀ {σ : GSt}, pend σ = [.sep] → road σ = ((stk σ).map (·.1)).reverse
  | .atSep p k, _ => rfl
  | .inside p k σ, h => by
    have ih := road_stk (σ := σ) h
    simp only [road, stk, ih]
    simp
  | .fresh _, h => by cases h
  | .atInt _, h => by cases h
  | .atEmpty _, h => by cases h
  | .atClose _, h => by cases h
end Mine
end

/- part P2 -/
section
open PySem PySem.W PyProof.Rows PySem.W.X
set_option maxRecDepth 100000
namespace Mine

def encNext (W : Web) (chk : Bool) : Str × Out → Str × Out
  | (T, .yield x σ μ) => (T ++ x, step W chk σ μ)
  | r => r
/-- what has been told after j chunks, and the next turn's outcome -/
def encR (W : Web) (chk : Bool) : Nat → Str × Out
  | 0 => ("", step W chk (.fresh 0) [])
  | j + 1 => encNext W chk (encR W chk j)

def EncInv (W : Web) (chk : Bool) (j : Nat) : Str × Out → Prop
  | (T, .yield x σ μ) => ∃ i toks, xN W.row i = ⟨stk σ, toks⟩ ∧ T ++ x = tksStr (toks ++ pend σ) ∧ swf W σ ∧ Bal chk [] σ μ ∧ (chk = true → ∀ i' < i, ¬ isCirc W.row (xN W.row i').rd) ∧ j ≤ T.length ∧ 1 ≤ x.length
  | (T, .fin _) => ∃ i toks, xN W.row i = ⟨[], toks⟩ ∧ T = tksStr toks ∧ (chk = true → ∀ i' < i, ¬ isCirc W.row (xN W.row i').rd)
  | (T, .raise) => chk = true ∧ ∃ i, T = tksStr ((xN W.row i).out ++ [.sep]) ∧ isCirc W.row (xN W.row i).rd ∧ ∀ i' < i, ¬ isCirc W.row (xN W.row i').rd

theorem tkStr_pos (t : TK) : 1 ≤ (tkStr t).length := by
  cases t with
  | op p =>
    show 1 ≤ (Str.ofString "[" ++ pStr p).length
    rw [len_app]; have := pStr_pos p; omega
  | em p =>
    show 1 ≤ ("[]" : Str).length
    decide +kernel
  | sep => decide +kernel
  | cl => decide +kernel

theorem pend_two : ∀ σ : GSt, pend σ = [] ∨ pend σ = [.sep]
  | .inside _ _ σ => pend_two σ
  | .atSep _ _ => .inr rfl
  | .fresh _ => .inl rfl
  | .atInt _ => .inl rfl
  | .atEmpty _ => .inl rfl
  | .atClose _ => .inl rfl
theorem enc_inv (W : Web) (chk : Bool) (j : Nat) : EncInv W chk j (encR W chk j) := by
  induction j with
  | zero =>
    show EncInv W chk 0 ("", freshOut W chk 0 [])
    unfold freshOut
    cases hr : W.row 0 with
    | none =>
      refine ⟨0, [.em 0], ?_, ?_, trivial, ?_, fun _ i' hi => absurd hi (Nat.not_lt_zero _), Nat.zero_le _, tkStr_pos (.em 0)⟩
      · show xZ W.row = _
        unfold xZ; rw [hr]; rfl
      · show ("" : Str) ++ _ = tksStr [.em 0]
        rw [nil_str, tksStr_one]; rfl
      · unfold Bal road; cases chk <;> simp
    | some ts =>
      dsimp only
      rw [if_neg (by cases chk <;> simp)]
      refine ⟨0, [.op 0], ?_, ?_, ⟨ts, hr⟩, ?_, fun _ i' hi => absurd hi (Nat.not_lt_zero _), Nat.zero_le _, tkStr_pos (.op 0)⟩
      · show xZ W.row = _
        unfold xZ; rw [hr]; rfl
      · show ("" : Str) ++ _ = tksStr [.op 0]
        rw [nil_str, tksStr_one]; rfl
      · unfold Bal road; cases chk <;> simp
  | succ j ih =>
    show EncInv W chk (j + 1) (encNext W chk (encR W chk j))
    generalize encR W chk j = r at ih
    match r, ih with
    | (T, .fin μ), ih => exact ih
    | (T, .raise), ih => exact ih
    | (T, .yield x σ μ), ⟨i, toks, h1, h2, h3, h4, h5, h6, h7⟩ =>
      show EncInv W chk (j + 1) (T ++ x, step W chk σ μ)
      have hs := enc_step (chk := chk) (μ := μ) (rest := []) (out := toks) h3
      have hb := bal_step (W := W) h4
      have hx : j + 1 ≤ (T ++ x).length := by rw [len_app]; omega
      have hmu : chk = true → pend σ = [.sep] → μ = ((stk σ).map (·.1)).reverse := fun hc hp => by
        rw [← road_stk hp, h4, hc]; simp
      generalize step W chk σ μ = o at hs hb
      cases o with
      | yield x' σ' μ' =>
        obtain ⟨hs', tok, hx', hh⟩ := hs
        rcases hh with ⟨a1, a2, a3, a4⟩ | ⟨a1, a2, a3, a4⟩
        · refine ⟨i, toks, by rw [h1, a2], ?_, hs', hb.1, h5, hx, by rw [hx']; exact tkStr_pos _⟩
          rw [h2, a3, a4, List.append_nil, tksStr_app, hx', a1, tksStr_one]
        · simp only [List.append_nil] at a1
          refine ⟨i + 1, toks ++ pend σ ++ [tok], ?_, ?_, hs', hb.1, fun hc i' hi' => ?_, hx, by rw [hx']; exact tkStr_pos _⟩
          · show xStep W.row (xN W.row i) = _
            rw [h1, a1]
          · rw [h2, a2, List.append_nil, tksStr_app (toks ++ pend σ), hx', tksStr_one]
          · rcases Nat.lt_succ_iff_lt_or_eq.mp hi' with hi' | rfl
            · exact h5 hc i' hi'
            · rw [h1]
              rintro ⟨p, t, rest, ts, e1, e2, e3, e4, e5, e6⟩
              have e1' : stk σ = (p, t) :: rest := e1
              unfold xStep at a1
              rw [e1'] at a1
              simp only [e2] at a1
              rw [if_neg (by omega)] at a1
              obtain ⟨ds, hds⟩ := Option.isSome_iff_exists.mp e5
              rw [hds] at a1
              simp only [XS.mk.injEq] at a1
              have a5 := a1.2
              rw [List.append_assoc] at a5
              have a6 := List.append_cancel_left a5
              by_cases hp : pend σ = [.sep]
              · rw [hp] at a6
                simp only [List.cons_append, List.nil_append, List.cons.injEq, and_true, true_and] at a6
                have := (a4 _ a6.symm).2 hc
                rw [hmu hc hp, List.mem_reverse] at this
                exact this e6
              · have : ∀ l : List TK, l = [] ∨ l = [.sep] → l ≠ [.sep] → l = [] := fun l h h' => h.resolve_right h'
                have hl := congrArg List.length a6
                simp at hl
                have hpl := pend_two σ
                rw [this _ hpl hp] at hl
                simp at hl
      | fin μ' =>
        obtain ⟨b1, b2⟩ := hs
        exact ⟨i, toks, by rw [h1, b1], by rw [h2, b2, List.append_nil], h5⟩
      | raise =>
        obtain ⟨hc, p, k, rd', ts, c1, c2, c3, c4, c5, c6, c7⟩ := hs
        refine ⟨hc, i, by rw [h2, h1, c2], ?_, h5 hc⟩
        rw [h1]
        refine ⟨p, k, rd', ts, c1, c3, c4, c5, c6, ?_⟩
        rw [hmu hc c2, List.mem_reverse] at c7
        exact c7
end Mine
end

/- part P3 -/
section
open PySem PySem.W PyProof.Rows PySem.W.X
set_option maxRecDepth 100000
namespace Mine
section
variable {row : Nat → Option (List Nat)}

def NoCirc (row : Nat → Option (List Nat)) (i : Nat) : Prop := ∀ i' < i, ¬ isCirc row (xN row i').rd

theorem xwf (i : Nat) : ∀ x ∈ (xN row i).rd, ∃ ts, row x.1 = some ts ∧ 1 ≤ x.2 ∧ x.2 ≤ ts.length + 1 := by
  induction i with
  | zero =>
    intro x hx
    have e : xN row 0 = xZ row := rfl
    rw [e] at hx
    unfold xZ at hx
    cases hr : row 0 with
    | none => rw [hr] at hx; cases hx
    | some ts =>
      rw [hr] at hx
      rw [List.mem_singleton.mp hx]
      exact ⟨ts, hr, Nat.le_refl _, Nat.le_add_left ..⟩
  | succ i ih =>
    intro x hx
    have e : xN row (i + 1) = xStep row (xN row i) := rfl
    rw [e] at hx
    generalize xN row i = X at hx ih
    obtain ⟨rd, out⟩ := X
    unfold xStep at hx
    match rd, ih with
    | [], ih => cases hx
    | (p, t) :: rest, ih =>
      obtain ⟨ts, hr, h1, h2⟩ := ih (p, t) (List.mem_cons_self ..)
      have ihr : ∀ x ∈ rest, _ := fun x hx => ih x (List.mem_cons_of_mem _ hx)
      simp only [hr] at hx
      by_cases ht : t = ts.length + 1
      · rw [if_pos ht] at hx
        exact ihr x hx
      · rw [if_neg ht] at hx
        cases hc : row (ts.getD (t - 1) 0) with
        | none =>
          rw [hc] at hx
          rcases List.mem_cons.mp hx with rfl | hx
          · exact ⟨ts, hr, Nat.le_add_left .., by simp only at h2 ⊢; omega⟩
          · exact ihr x hx
        | some ds =>
          rw [hc] at hx
          rcases List.mem_cons.mp hx with rfl | hx
          · exact ⟨ds, hc, Nat.le_refl _, Nat.le_add_left ..⟩
          · rcases List.mem_cons.mp hx with rfl | hx
            · exact ⟨ts, hr, Nat.le_add_left .., by simp only at h2 ⊢; omega⟩
            · exact ihr x hx

theorem law_of_x (i : Nat) : ∃ k C, ltN row (S0 row) k = ⟨(xN row i).rd, tksStr (xN row i).out, C⟩ ∧ (NoCirc row i → C = -1) := by
  induction i with
  | zero =>
    refine ⟨1, -1, ?_, fun _ => rfl⟩
    show ltStep row (S0 row) = _
    have e : xN row 0 = xZ row := rfl
    rw [e]
    cases hr : row 0 with
    | none =>
      have eS : S0 row = ⟨[(0, 0)], "[]", -1⟩ := by unfold S0; rw [hr]; rfl
      have eX : xZ row = ⟨[], [.em 0]⟩ := by unfold xZ; rw [hr]
      rw [eS, eX]
      unfold ltStep
      dsimp only
      rw [hr, tksStr_one]
      rfl
    | some ts =>
      have eS : S0 row = ⟨[(0, 0)], "[", -1⟩ := by unfold S0; rw [hr]; rfl
      have eX : xZ row = ⟨[(0, 1)], [.op 0]⟩ := by unfold xZ; rw [hr]
      rw [eS, eX]
      unfold ltStep
      dsimp only
      rw [hr, tksStr_one]
      dsimp only
      rw [if_neg (by omega), if_pos rfl]
      rfl
  | succ i ih =>
    obtain ⟨k, C, hk, hC⟩ := ih
    have hw := xwf (row := row) i
    have e : xN row (i + 1) = xStep row (xN row i) := rfl
    have hN : NoCirc row (i + 1) → NoCirc row i ∧ ¬ isCirc row (xN row i).rd := fun h => ⟨fun i' hi' => h i' (Nat.lt_succ_of_lt hi'), h i (Nat.lt_succ_self _)⟩
    rw [e]
    generalize xN row i = X at hk hw hN
    obtain ⟨rd, out⟩ := X
    match rd, hk, hw, hN with
    | [], hk, hw, hN => exact ⟨k, C, hk, fun h => hC (hN h).1⟩
    | (p, t) :: rest, hk, hw, hN =>
      obtain ⟨ts, hr, h1, h2⟩ := hw (p, t) (List.mem_cons_self ..)
      unfold xStep
      simp only [hr]
      have hk1 : ltN row (S0 row) (k + 1) = ltStep row ⟨(p, t) :: rest, tksStr out, C⟩ := by
        show ltStep row (ltN row (S0 row) k) = _
        rw [hk]
      unfold ltStep at hk1
      simp only [hr] at hk1
      by_cases ht : t = ts.length + 1
      · rw [if_pos ht] at hk1 ⊢
        refine ⟨k + 1, C, ?_, fun h => hC (hN h).1⟩
        rw [hk1, tksStr_app, tksStr_one]; rfl
      · rw [if_neg ht] at hk1 ⊢
        have ht0 : t ≠ 0 := by simp only at h1; omega
        rw [if_neg ht0] at hk1
        cases hc : row (ts.getD (t - 1) 0) with
        | none =>
          rw [hc] at hk1
          refine ⟨k + 1, C, ?_, fun h => hC (hN h).1⟩
          rw [hk1, tksStr_app]
          simp [tksStr, tkStr, str_nil', str_assoc]
        | some ds =>
          rw [hc] at hk1
          dsimp only at hk1
          generalize hC' : (if C < 0 ∧ ts.getD (t - 1) 0 ∈ ((p, t) :: rest).map (·.1) then ((tksStr out ++ ", ").length : Int) else C) = C' at hk1
          refine ⟨k + 1 + 1, C', ?_, fun h => ?_⟩
          · show ltStep row (ltN row (S0 row) (k + 1)) = _
            rw [hk1]
            unfold ltStep
            simp only [hc]
            rw [if_neg (by omega), if_pos trivial, tksStr_app]
            simp [tksStr, tkStr, str_nil', str_assoc]
          · obtain ⟨g1, g2⟩ := hN h
            rw [← hC', if_neg, hC g1]
            rintro ⟨_, hin⟩
            exact g2 ⟨p, t, rest, ts, rfl, hr, h1, by simp only at h2; omega, by rw [hc]; rfl, hin⟩

/-- x begins y -/
def pre (x y : Str) : Prop := ∃ z, y = x ++ z
theorem pre.refl (x : Str) : pre x x := ⟨"", (str_nil' x).symm⟩
theorem pre.trans {x y z : Str} : pre x y → pre y z → pre x z
  | ⟨a, ha⟩, ⟨b, hb⟩ => ⟨a ++ b, by rw [hb, ha, str_assoc]⟩
theorem pre.app {x y : Str} : pre x (x ++ y) := ⟨y, rfl⟩
theorem pre.len {x y : Str} : pre x y → x.length ≤ y.length
  | ⟨z, h⟩ => by rw [h, len_app]; exact Nat.le_add_right ..

theorem lt_pre1 (S : TS) : pre S.text (ltStep row S).text := by
  obtain ⟨rd, T, C⟩ := S
  unfold ltStep
  match rd with
  | [] => exact .refl _
  | (p, t) :: rest =>
    dsimp only
    cases hr : row p with
    | none => exact .refl _
    | some ts =>
      dsimp only
      by_cases h1 : t = ts.length + 1
      · rw [if_pos h1]; exact .app
      · rw [if_neg h1]
        by_cases h0 : t = 0
        · rw [if_pos h0]; exact .app
        · rw [if_neg h0]
          cases hc' : row (ts.getD (t - 1) 0) with
          | none => exact pre.trans .app .app
          | some ds => exact pre.trans .app .app
theorem lt_pre {S : TS} {a b : Nat} (h : a ≤ b) : pre (ltN row S a).text (ltN row S b).text := by
  induction b with
  | zero => rw [Nat.le_zero.mp h]; exact .refl _
  | succ b ih =>
    rcases Nat.le_succ_iff.mp h with h | rfl
    · exact (ih h).trans (lt_pre1 _)
    · exact .refl _
theorem lt_done {S : TS} {a b : Nat} (h : a ≤ b) (hd : (ltN row S a).rd = []) : ltN row S b = ltN row S a := by
  induction b with
  | zero => rw [Nat.le_zero.mp h]
  | succ b ih =>
    rcases Nat.le_succ_iff.mp h with h | rfl
    · show ltStep row (ltN row S b) = _
      rw [ih h]
      unfold ltStep
      rw [hd]
    · rfl
theorem lt_circ {S : TS} {a b : Nat} (h : a ≤ b) (hd : 0 ≤ (ltN row S a).circ) : (ltN row S b).circ = (ltN row S a).circ := by
  induction b with
  | zero => rw [Nat.le_zero.mp h]
  | succ b ih =>
    rcases Nat.le_succ_iff.mp h with h | rfl
    · show (ltStep row (ltN row S b)).circ = _
      have ih := ih h
      generalize ltN row S b = S' at ih ⊢
      obtain ⟨rd, T, C⟩ := S'
      rw [← ih] at hd ⊢
      simp only at hd
      unfold ltStep
      match rd with
      | [] => rfl
      | (p, t) :: rest =>
        dsimp only
        cases hr : row p with
        | none => rfl
        | some ts =>
          dsimp only
          by_cases h1 : t = ts.length + 1
          · rw [if_pos h1]
          · rw [if_neg h1]
            by_cases h0 : t = 0
            · rw [if_pos h0]
            · rw [if_neg h0]
              cases hc' : row (ts.getD (t - 1) 0) with
              | none => rfl
              | some ds =>
                dsimp only
                rw [if_neg (by omega)]
    · rfl
end
end Mine
end

/- part P4 -/
section
open PySem PySem.W PyProof.Rows PySem.W.X
set_option maxRecDepth 100000
namespace Mine

theorem nodup_le {α : Type} [DecidableEq α] : ∀ {l m : List α}, l.Nodup → (∀ x ∈ l, x ∈ m) → l.length ≤ m.length
  | [], _, _, _ => Nat.zero_le _
  | a :: l, m, hn, hs => by
    rw [List.nodup_cons] at hn
    have ha : a ∈ m := hs a (List.mem_cons_self ..)
    have := nodup_le (l := l) (m := m.erase a) hn.2 fun x hx => by
      have hne : x ≠ a := fun e => hn.1 (e ▸ hx)
      exact (List.mem_erase_of_ne hne).mpr (hs x (List.mem_cons_of_mem _ hx))
    rw [List.length_erase_of_mem ha] at this
    have hp := List.length_pos_of_mem ha
    simp only [List.length_cons]
    omega

section
variable (n : Nat) (row : Nat → Option (List Nat))
def NE : List Nat := (List.range n).filter fun p => (row p).isSome
def hcost (e : Nat) : Nat → Nat
  | 0 => e
  | u + 1 => 5 + 2 * hcost e u
def eC : Nat := if (List.range n).any fun p => (row p).isNone then 4 else 0
def remR : List (Nat × Nat) → Nat
  | [] => 0
  | (p, t) :: rest => 1 + (((row p).getD []).length + 1 - t) * hcost (eC n row) ((NE n row).length - (rest.length + 1)) + remR rest

structure Small : Prop where
  n5 : n ≤ 5
  n0 : 0 < n
  inn : ∀ p ts, p < n → row p = some ts → ∀ q ∈ ts, q < n
  two : ∀ p ts, p < n → row p = some ts → ts.length ≤ 2
end

section
variable {n : Nat} {row : Nat → Option (List Nat)}

/-- the stack's places: each once, each within -/
theorem x_places (S : Small n row) : ∀ i, NoCirc row i → ((xN row i).rd.map (·.1)).Nodup ∧ ∀ x ∈ (xN row i).rd, x.1 < n
  | 0, _ => by
    have e : xN row 0 = xZ row := rfl
    rw [e]
    unfold xZ
    cases hr : row 0 with
    | none => exact ⟨List.nodup_nil, fun x hx => by cases hx⟩
    | some ts => exact ⟨by simp, fun x hx => by rw [List.mem_singleton.mp hx]; exact S.n0⟩
  | i + 1, h => by
    obtain ⟨h1, h2⟩ := x_places S i fun i' hi' => h i' (Nat.lt_succ_of_lt hi')
    have hc := h i (Nat.lt_succ_self _)
    have hw := xwf (row := row) i
    have e : xN row (i + 1) = xStep row (xN row i) := rfl
    rw [e]
    generalize xN row i = X at h1 h2 hc hw ⊢
    obtain ⟨rd, out⟩ := X
    unfold xStep
    match rd, h1, h2, hc, hw with
    | [], h1, h2, hc, hw => exact ⟨h1, h2⟩
    | (p, t) :: rest, h1, h2, hc, hw =>
      obtain ⟨ts, hr, w1, w2⟩ := hw (p, t) (List.mem_cons_self ..)
      have hp := h2 (p, t) (List.mem_cons_self ..)
      have h2r : ∀ x ∈ rest, x.1 < n := fun x hx => h2 x (List.mem_cons_of_mem _ hx)
      simp only [hr]
      simp only at w1 w2 hp
      by_cases ht : t = ts.length + 1
      · rw [if_pos ht]
        rw [List.map_cons, List.nodup_cons] at h1
        exact ⟨h1.2, h2r⟩
      · rw [if_neg ht]
        have hcn : ts.getD (t - 1) 0 < n := S.inn p ts hp hr _ (by
          have : t - 1 < ts.length := by omega
          simp [List.getD, this])
        cases hcr : row (ts.getD (t - 1) 0) with
        | none =>
          refine ⟨h1, fun x hx => ?_⟩
          rcases List.mem_cons.mp hx with rfl | hx
          · exact hp
          · exact h2r x hx
        | some ds =>
          refine ⟨?_, fun x hx => ?_⟩
          · show (ts.getD (t - 1) 0 :: p :: rest.map (·.1)).Nodup
            rw [List.nodup_cons]
            exact ⟨fun hin => hc ⟨p, t, rest, ts, rfl, hr, w1, by omega, by rw [hcr]; rfl, hin⟩, h1⟩
          · rcases List.mem_cons.mp hx with rfl | hx
            · exact hcn
            · rcases List.mem_cons.mp hx with rfl | hx
              · exact hp
              · exact h2r x hx

theorem mem_NE {p : Nat} (hp : p < n) {ts : List Nat} (hr : row p = some ts) : p ∈ NE n row := by
  unfold NE
  rw [List.mem_filter, List.mem_range]
  exact ⟨hp, by rw [hr]; rfl⟩
theorem pStr_one {p : Nat} (hp : p < 5) : (pStr p).length = 1 := by
  match p, hp with
  | 0, _ => decide +kernel
  | 1, _ => decide +kernel
  | 2, _ => decide +kernel
  | 3, _ => decide +kernel
  | 4, _ => decide +kernel
theorem hcost_ge (e u : Nat) : e ≤ hcost e u := by
  induction u with
  | zero => exact Nat.le_refl _
  | succ u ih => show e ≤ 5 + 2 * hcost e u; omega

theorem cost_top (S : Small n row) : 3 + 2 * hcost (eC n row) ((NE n row).length - 1) ≤ 153 := by
  have hN : (NE n row).length ≤ n := by
    have := List.length_filter_le (fun p => (row p).isSome) (List.range n)
    rw [List.length_range] at this
    exact this
  have hn := S.n5
  by_cases he : ((List.range n).any fun p => (row p).isNone) = true
  · have hN' : (NE n row).length < n := by
      have h := List.length_filter_lt_length_iff_exists (l := List.range n) (p := fun p => (row p).isSome)
      rw [List.length_range] at h
      refine h.mpr ?_
      obtain ⟨p, hp, hq⟩ := List.any_eq_true.mp he
      exact ⟨p, hp, by cases hr : row p <;> simp_all⟩
    have e4 : eC n row = 4 := if_pos he
    rw [e4]
    have hM : (NE n row).length - 1 ≤ 3 := by omega
    generalize (NE n row).length - 1 = u at hM
    match u, hM with
    | 0, _ => decide
    | 1, _ => decide
    | 2, _ => decide
    | 3, _ => decide
  · have e4 : eC n row = 0 := if_neg he
    rw [e4]
    have hM : (NE n row).length - 1 ≤ 4 := by omega
    generalize (NE n row).length - 1 = u at hM
    match u, hM with
    | 0, _ => decide
    | 1, _ => decide
    | 2, _ => decide
    | 3, _ => decide
    | 4, _ => decide

theorem x_bound (S : Small n row) : ∀ i, NoCirc row i → (tksStr (xN row i).out).length + remR n row (xN row i).rd ≤ 153
  | 0, _ => by
    have e : xN row 0 = xZ row := rfl
    have hct := cost_top S
    have l0 : (pStr 0).length = 1 := pStr_one (by decide)
    rw [e]
    unfold xZ
    cases hr : row 0 with
    | none =>
      rw [tksStr_one]
      show ("[]" : Str).length + 0 ≤ 153
      decide +kernel
    | some ts =>
      have h2 := S.two 0 ts S.n0 hr
      rw [tksStr_one]
      show (Str.ofString "[" ++ pStr 0).length + (1 + (((row 0).getD []).length + 1 - 1) * hcost (eC n row) ((NE n row).length - (0 + 1)) + 0) ≤ 153
      have lb : (Str.ofString "[").length = 1 := by decide +kernel
      rw [len_app, hr, lb, l0]
      show 1 + 1 + (1 + ts.length * hcost (eC n row) ((NE n row).length - 1) + 0) ≤ 153
      have := Nat.mul_le_mul_right (hcost (eC n row) ((NE n row).length - 1)) h2
      omega
  | i + 1, h => by
    have hi : NoCirc row i := fun i' hi' => h i' (Nat.lt_succ_of_lt hi')
    have ih := x_bound S i hi
    obtain ⟨h1, h2⟩ := x_places S i hi
    have hc := h i (Nat.lt_succ_self _)
    have hw := xwf (row := row) i
    have e : xN row (i + 1) = xStep row (xN row i) := rfl
    rw [e]
    generalize xN row i = X at h1 h2 hc hw ih ⊢
    obtain ⟨rd, out⟩ := X
    unfold xStep
    match rd, h1, h2, hc, hw, ih with
    | [], h1, h2, hc, hw, ih => exact ih
    | (p, t) :: rest, h1, h2, hc, hw, ih =>
      obtain ⟨ts, hr, w1, w2⟩ := hw (p, t) (List.mem_cons_self ..)
      have hp := h2 (p, t) (List.mem_cons_self ..)
      simp only [hr]
      simp only at w1 w2 hp
      have e1 : remR n row ((p, t) :: rest) = 1 + (ts.length + 1 - t) * hcost (eC n row) ((NE n row).length - (rest.length + 1)) + remR n row rest := by
        show 1 + (((row p).getD []).length + 1 - t) * _ + _ = _
        rw [hr]; rfl
      have ih : (tksStr out).length + remR n row ((p, t) :: rest) ≤ 153 := ih
      rw [e1] at ih
      by_cases ht : t = ts.length + 1
      · rw [if_pos ht]
        have lb : ("]" : Str).length = 1 := by decide +kernel
        show (tksStr (out ++ [.cl])).length + remR n row rest ≤ 153
        rw [tksStr_app, tksStr_one, len_app]
        show _ + ("]" : Str).length + _ ≤ 153
        omega
      · rw [if_neg ht]
        have hcn : ts.getD (t - 1) 0 < n := S.inn p ts hp hr _ (by
          have : t - 1 < ts.length := by omega
          simp [List.getD, this])
        have e2 : remR n row ((p, t + 1) :: rest) = 1 + (ts.length + 1 - (t + 1)) * hcost (eC n row) ((NE n row).length - (rest.length + 1)) + remR n row rest := by
          show 1 + (((row p).getD []).length + 1 - (t + 1)) * _ + _ = _
          rw [hr]; rfl
        obtain ⟨r, hr'⟩ : ∃ r, ts.length + 1 - t = r + 1 := ⟨ts.length - t, by omega⟩
        have hr'' : ts.length + 1 - (t + 1) = r := by omega
        rw [hr', Nat.succ_mul] at ih
        rw [hr''] at e2
        have ls : (tkStr .sep).length = 2 := by decide +kernel
        cases hcr : row (ts.getD (t - 1) 0) with
        | none =>
          have he : ((List.range n).any fun p => (row p).isNone) = true := List.any_eq_true.mpr ⟨_, List.mem_range.mpr hcn, by rw [hcr]; rfl⟩
          have e4 : eC n row = 4 := if_pos he
          have hge := hcost_ge 4 ((NE n row).length - (rest.length + 1))
          show (tksStr (out ++ [.sep, .em (ts.getD (t - 1) 0)])).length + remR n row ((p, t + 1) :: rest) ≤ 153
          rw [tksStr_app, len_app, e2]
          have lo : (tksStr [.sep, .em (ts.getD (t - 1) 0)]).length = 4 := by
            show (tkStr .sep ++ (("[]" : Str) ++ ("" : Str))).length = 4
            decide +kernel
          rw [e4] at ih ⊢
          rw [lo]
          omega
        | some ds =>
          have hd2 := S.two _ ds hcn hcr
          have hnd : (ts.getD (t - 1) 0 :: p :: rest.map (·.1)).Nodup := by
            rw [List.nodup_cons]
            exact ⟨fun hin => hc ⟨p, t, rest, ts, rfl, hr, w1, by omega, by rw [hcr]; rfl, hin⟩, h1⟩
          have hle := nodup_le (m := NE n row) hnd fun x hx => by
            rcases List.mem_cons.mp hx with rfl | hx
            · exact mem_NE hcn hcr
            · obtain ⟨y, hy, rfl⟩ := List.mem_map.mp (show x ∈ ((p, t) :: rest).map (·.1) from hx)
              obtain ⟨ts', hr', _⟩ := hw y hy
              exact mem_NE (h2 y hy) hr'
          simp only [List.length_cons, List.length_map] at hle
          obtain ⟨u, hu⟩ : ∃ u, (NE n row).length - (rest.length + 1) = u + 1 := ⟨(NE n row).length - (rest.length + 2), by omega⟩
          have hu' : (NE n row).length - (rest.length + 1 + 1) = u := by omega
          have e3 : remR n row ((ts.getD (t - 1) 0, 1) :: (p, t + 1) :: rest) = 1 + ds.length * hcost (eC n row) u + remR n row ((p, t + 1) :: rest) := by
            show 1 + (((row (ts.getD (t - 1) 0)).getD []).length + 1 - 1) * hcost (eC n row) ((NE n row).length - (rest.length + 1 + 1)) + _ = _
            rw [hcr, hu']; rfl
          show (tksStr (out ++ [.sep, .op (ts.getD (t - 1) 0)])).length + remR n row ((ts.getD (t - 1) 0, 1) :: (p, t + 1) :: rest) ≤ 153
          rw [tksStr_app, len_app, e3, e2]
          have lo : (tksStr [.sep, .op (ts.getD (t - 1) 0)]).length = 4 := by
            show (tkStr .sep ++ ((Str.ofString "[" ++ pStr (ts.getD (t - 1) 0)) ++ ("" : Str))).length = 4
            rw [str_nil', len_app, len_app, ls, pStr_one (Nat.lt_of_lt_of_le hcn S.n5)]
            decide +kernel
          have hm := Nat.mul_le_mul_right (hcost (eC n row) u) hd2
          rw [hu] at ih ⊢
          have hh : hcost (eC n row) (u + 1) = 5 + 2 * hcost (eC n row) u := rfl
          rw [hh] at ih ⊢
          rw [lo]
          omega
end
end Mine
end

/- part P5 -/
section
open PySem PySem.W PyProof.Rows PySem.W.X
set_option maxRecDepth 100000
namespace Mine

def isAt (p : Nat) : TK → Bool
  | .op q => q == p
  | .em q => q == p
  | _ => false
def cntT (p : Nat) (out : List TK) : Nat := out.countP (isAt p)
def isOp (p : Nat) : TK → Bool
  | .op q => q == p
  | _ => false
def isEm : TK → Bool
  | .em _ => true
  | _ => false

section
variable (row : Nat → Option (List Nat))
def Qp : Nat → Nat → Nat → Nat
  | 0, _, _ => 0
  | k + 1, c, p => (if c = p then 1 else 0) + (((row c).getD []).map fun c' => Qp k c' p).sum
def remQ (n p : Nat) : List (Nat × Nat) → Nat
  | [] => 0
  | (q, t) :: rest => ((((row q).getD []).drop (t - 1)).map fun c => Qp row (n - (rest.length + 1)) c p).sum + remQ n p rest
end

section
variable {n : Nat} {row : Nat → Option (List Nat)}

theorem drop_at {ts : List Nat} {t : Nat} (h1 : 1 ≤ t) (h2 : t ≤ ts.length) : ts.drop (t - 1) = ts.getD (t - 1) 0 :: ts.drop t := by
  have : t - 1 < ts.length := by omega
  rw [List.drop_eq_getElem_cons this]
  have e : t - 1 + 1 = t := by omega
  rw [e]
  simp [List.getD, this]

theorem x_count (S : Small n row) (p : Nat) : ∀ i, NoCirc row i → cntT p (xN row i).out + remQ row n p (xN row i).rd = Qp row n 0 p
  | 0, _ => by
    have e : xN row 0 = xZ row := rfl
    obtain ⟨n', rfl⟩ : ∃ n', n = n' + 1 := ⟨n - 1, by have := S.n0; omega⟩
    rw [e]
    unfold xZ
    cases hr : row 0 with
    | none =>
      show cntT p [.em 0] + 0 = (if 0 = p then 1 else 0) + (((row 0).getD []).map fun c' => Qp row n' c' p).sum
      rw [hr]
      simp [cntT, isAt]
    | some ts =>
      show cntT p [.op 0] + (((((row 0).getD []).drop (1 - 1)).map fun c => Qp row (n' + 1 - (0 + 1)) c p).sum + 0) = (if 0 = p then 1 else 0) + (((row 0).getD []).map fun c' => Qp row n' c' p).sum
      rw [hr]
      simp [cntT, isAt]
  | i + 1, h => by
    have hi : NoCirc row i := fun i' hi' => h i' (Nat.lt_succ_of_lt hi')
    have ih := x_count S p i hi
    obtain ⟨h1, h2⟩ := x_places S i hi
    have hc := h i (Nat.lt_succ_self _)
    have hw := xwf (row := row) i
    have e : xN row (i + 1) = xStep row (xN row i) := rfl
    rw [e]
    generalize xN row i = X at h1 h2 hc hw ih ⊢
    obtain ⟨rd, out⟩ := X
    unfold xStep
    match rd, h1, h2, hc, hw, ih with
    | [], h1, h2, hc, hw, ih => exact ih
    | (q, t) :: rest, h1, h2, hc, hw, ih =>
      obtain ⟨ts, hr, w1, w2⟩ := hw (q, t) (List.mem_cons_self ..)
      have hp := h2 (q, t) (List.mem_cons_self ..)
      simp only [hr]
      simp only at w1 w2 hp
      have ih : cntT p out + remQ row n p ((q, t) :: rest) = Qp row n 0 p := ih
      have e1 : ∀ t, remQ row n p ((q, t) :: rest) = ((ts.drop (t - 1)).map fun c => Qp row (n - (rest.length + 1)) c p).sum + remQ row n p rest := fun t => by
        show ((((row q).getD []).drop (t - 1)).map _).sum + _ = _
        rw [hr]; rfl
      rw [e1] at ih
      by_cases ht : t = ts.length + 1
      · rw [if_pos ht]
        show cntT p (out ++ [.cl]) + remQ row n p rest = _
        rw [ht] at ih
        simp only [Nat.add_sub_cancel, List.drop_length, List.map_nil, List.sum_nil] at ih
        rw [← ih]
        simp [cntT, isAt]
      · rw [if_neg ht]
        rw [drop_at w1 (by omega), List.map_cons, List.sum_cons] at ih
        have hcn : ts.getD (t - 1) 0 < n := S.inn q ts hp hr _ (by
          have : t - 1 < ts.length := by omega
          simp [List.getD, this])
        generalize hcc : ts.getD (t - 1) 0 = c at hcn ih ⊢
        have hnot : c ∉ q :: rest.map (·.1) := fun hin => by
          cases hcr : row c with
          | none =>
            obtain ⟨y, hy, hyc⟩ := List.mem_map.mp (show c ∈ ((q, t) :: rest).map (·.1) from hin)
            obtain ⟨ts', hr', _⟩ := hw y hy
            rw [hyc, hcr] at hr'; cases hr'
          | some ds => exact hc ⟨q, t, rest, ts, rfl, hr, w1, by omega, by rw [hcc, hcr]; rfl, by rw [hcc]; exact hin⟩
        have hle := nodup_le (l := c :: q :: rest.map (·.1)) (m := List.range n) (by rw [List.nodup_cons]; exact ⟨hnot, h1⟩) fun x hx => by
          rw [List.mem_range]
          rcases List.mem_cons.mp hx with rfl | hx
          · exact hcn
          · obtain ⟨y, hy, rfl⟩ := List.mem_map.mp (show x ∈ ((q, t) :: rest).map (·.1) from hx)
            exact h2 y hy
        simp only [List.length_cons, List.length_map, List.length_range] at hle
        obtain ⟨u, hu⟩ : ∃ u, n - (rest.length + 1) = u + 1 := ⟨n - (rest.length + 2), by omega⟩
        have hu' : n - (rest.length + 1 + 1) = u := by omega
        have e2 : Qp row (n - (rest.length + 1)) c p = (if c = p then 1 else 0) + (((row c).getD []).map fun c' => Qp row u c' p).sum := by rw [hu]; rfl
        rw [e2] at ih
        have et : t + 1 - 1 = t := by omega
        cases hcr : row c with
        | none =>
          show cntT p (out ++ [.sep, .em c]) + remQ row n p ((q, t + 1) :: rest) = _
          rw [e1, et, ← ih, hcr]
          simp [cntT, isAt, List.countP_append, List.countP_cons]
          omega
        | some ds =>
          show cntT p (out ++ [.sep, .op c]) + (((((row c).getD []).drop (1 - 1)).map fun c' => Qp row (n - (rest.length + 1 + 1)) c' p).sum + remQ row n p ((q, t + 1) :: rest)) = _
          rw [e1, et, ← ih, hcr, hu']
          simp [cntT, isAt, List.countP_append, List.countP_cons]
          omega

theorem x_kinds (S : Small n row) : ∀ i, NoCirc row i → ∀ tk ∈ (xN row i).out, (∀ p, tk = .op p → p < n ∧ (row p).isSome = true) ∧ (∀ p, tk = .em p → p < n ∧ row p = none)
  | 0, _ => by
    have e : xN row 0 = xZ row := rfl
    rw [e]
    unfold xZ
    intro tk htk
    cases hr : row 0 with
    | none =>
      rw [hr] at htk
      rw [List.mem_singleton.mp htk]
      exact ⟨fun p e => (nomatch e), fun p e => by cases e; exact ⟨S.n0, hr⟩⟩
    | some ts =>
      rw [hr] at htk
      rw [List.mem_singleton.mp htk]
      exact ⟨fun p e => by cases e; exact ⟨S.n0, by rw [hr]; rfl⟩, fun p e => by cases e⟩
  | i + 1, h => by
    have hi : NoCirc row i := fun i' hi' => h i' (Nat.lt_succ_of_lt hi')
    have ih := x_kinds S i hi
    obtain ⟨h1, h2⟩ := x_places S i hi
    have hw := xwf (row := row) i
    have e : xN row (i + 1) = xStep row (xN row i) := rfl
    rw [e]
    generalize xN row i = X at h1 h2 hw ih ⊢
    obtain ⟨rd, out⟩ := X
    intro tk htk
    unfold xStep at htk
    match rd, h1, h2, hw, ih with
    | [], h1, h2, hw, ih => exact ih tk htk
    | (q, t) :: rest, h1, h2, hw, ih =>
      obtain ⟨ts, hr, w1, w2⟩ := hw (q, t) (List.mem_cons_self ..)
      have hp := h2 (q, t) (List.mem_cons_self ..)
      simp only [hr] at htk
      simp only at w1 w2 hp
      by_cases ht : t = ts.length + 1
      · rw [if_pos ht] at htk
        rcases List.mem_append.mp htk with h | h
        · exact ih tk h
        · rw [List.mem_singleton.mp h]
          exact ⟨fun p e => (nomatch e), fun p e => by cases e⟩
      · rw [if_neg ht] at htk
        have hcn : ts.getD (t - 1) 0 < n := S.inn q ts hp hr _ (by
          have : t - 1 < ts.length := by omega
          simp [List.getD, this])
        cases hcr : row (ts.getD (t - 1) 0) with
        | none =>
          rw [hcr] at htk
          rcases List.mem_append.mp htk with h | h
          · exact ih tk h
          · rcases List.mem_cons.mp h with rfl | h
            · exact ⟨fun p e => (nomatch e), fun p e => by cases e⟩
            · rw [List.mem_singleton.mp h]
              exact ⟨fun p e => (nomatch e), fun p e => by cases e; exact ⟨hcn, hcr⟩⟩
        | some ds =>
          rw [hcr] at htk
          rcases List.mem_append.mp htk with h | h
          · exact ih tk h
          · rcases List.mem_cons.mp h with rfl | h
            · exact ⟨fun p e => (nomatch e), fun p e => by cases e⟩
            · rw [List.mem_singleton.mp h]
              exact ⟨fun p e => by cases e; exact ⟨hcn, by rw [hcr]; rfl⟩, fun p e => by cases e⟩

/-- at the end: openings of a place -/
theorem op_count {out : List TK} {p : Nat} (hk : ∀ tk ∈ out, ∀ q, tk = .em q → q ≠ p) : out.countP (isOp p) = cntT p out := by
  unfold cntT
  refine List.countP_congr fun tk htk => ?_
  cases tk with
  | op q => rfl
  | em q =>
    have := hk _ htk q rfl
    simp [isOp, isAt, this]
  | sep => rfl
  | cl => rfl

theorem em_count (n : Nat) (row : Nat → Option (List Nat)) : ∀ out : List TK, (∀ tk ∈ out, (∀ p, tk = .op p → (row p).isSome = true) ∧ (∀ p, tk = .em p → p < n ∧ row p = none)) →
    out.countP isEm = (((List.range n).filter fun p => (row p).isNone).map fun p => cntT p out).sum
  | [], _ => by
    simp only [List.countP_nil, cntT]
    induction (List.range n).filter fun p => (row p).isNone with
    | nil => rfl
    | cons a l ih => simpa using ih
  | tk :: out, h => by
    have ih := em_count n row out fun tk htk => h tk (List.mem_cons_of_mem _ htk)
    obtain ⟨h1, h2⟩ := h tk (List.mem_cons_self ..)
    have e : ∀ p, cntT p (tk :: out) = cntT p out + (if isAt p tk = true then 1 else 0) := fun p => by
      unfold cntT; rw [List.countP_cons]
    have key : (((List.range n).filter fun p => (row p).isNone).map fun p => if isAt p tk = true then 1 else 0).sum = if isEm tk = true then 1 else 0 := by
      have hnd : ((List.range n).filter fun p => (row p).isNone).Nodup := List.nodup_range.filter _
      have hmem : ∀ p, p ∈ ((List.range n).filter fun p => (row p).isNone) ↔ p < n ∧ (row p).isNone = true := fun p => by rw [List.mem_filter, List.mem_range]
      generalize ((List.range n).filter fun p => (row p).isNone) = l at hnd hmem
      have zero : ∀ l : List Nat, (∀ p ∈ l, isAt p tk = false) → (l.map fun p => if isAt p tk = true then 1 else 0).sum = 0 := fun l => by
        induction l with
        | nil => intro _; rfl
        | cons a l ih =>
          intro h
          rw [List.map_cons, List.sum_cons, ih fun p hp => h p (List.mem_cons_of_mem _ hp), h a (List.mem_cons_self ..)]
          rfl
      cases tk with
      | sep => exact zero l fun p _ => rfl
      | cl => exact zero l fun p _ => rfl
      | op q =>
        refine zero l fun p hp => ?_
        have hq := h1 q rfl
        have hp' := ((hmem p).mp hp).2
        show (q == p) = false
        rw [beq_eq_false_iff_ne]
        rintro rfl
        cases hr : row q <;> simp_all
      | em q =>
        obtain ⟨hq, hr⟩ := h2 q rfl
        have hin : q ∈ l := (hmem q).mpr ⟨hq, by rw [hr]; rfl⟩
        clear hmem
        show (l.map fun p => if (q == p) = true then 1 else 0).sum = 1
        induction l with
        | nil => cases hin
        | cons a l ih =>
          rw [List.nodup_cons] at hnd
          rw [List.map_cons, List.sum_cons]
          by_cases ha : q = a
          · subst ha
            have := zero l fun p hp => by
              show (q == p) = false
              rw [beq_eq_false_iff_ne]
              rintro rfl
              exact hnd.1 hp
            have this' : (l.map fun p => if (q == p) = true then 1 else 0).sum = 0 := this
            rw [this']
            simp
          · have := ih hnd.2 ((List.mem_cons.mp hin).resolve_left ha)
            rw [this]
            simp [ha]
    have hsum : ∀ (l : List Nat) (f g : Nat → Nat), (l.map fun p => f p + g p).sum = (l.map f).sum + (l.map g).sum := fun l f g => by
      induction l with
      | nil => rfl
      | cons a l ih => simp only [List.map_cons, List.sum_cons, ih]; omega
    rw [List.countP_cons, ih]
    simp only [e]
    rw [hsum, key]
end
end Mine
end

/- part P6 -/
section
open PySem PySem.W PyProof.Rows PySem.W.X
set_option maxRecDepth 100000
namespace Mine

def occ2 (u v : Nat) : List Nat → Nat
  | a :: b :: r => (if a = u ∧ b = v then 1 else 0) + occ2 u v (b :: r)
  | _ => 0

theorem at_two (x : Str) (u v i : Nat) : StrLaws.At x ⟨#[u, v]⟩ x.length i ↔ x.cps.toList[i]? = some u ∧ x.cps.toList[i + 1]? = some v := by
  unfold StrLaws.At
  rw [StrLaws.subAt_eq]
  have hl : x.length = x.cps.toList.length := by simp [Str.length]
  show (i + 2 ≤ x.length ∧ ((x.cps.toList.drop i).take 2 == [u, v]) = true) ↔ _
  rw [hl]
  generalize x.cps.toList = l
  rw [beq_iff_eq]
  constructor
  · rintro ⟨h1, h2⟩
    have e0 : ((l.drop i).take 2)[0]? = some u := by rw [h2]; rfl
    have e1 : ((l.drop i).take 2)[1]? = some v := by rw [h2]; rfl
    rw [List.getElem?_take_of_lt (by decide), List.getElem?_drop] at e0 e1
    exact ⟨e0, e1⟩
  · rintro ⟨h1, h2⟩
    obtain ⟨g1, g2⟩ := List.getElem?_eq_some_iff.mp h2
    obtain ⟨g3, g4⟩ := List.getElem?_eq_some_iff.mp h1
    refine ⟨by omega, ?_⟩
    rw [List.drop_eq_getElem_cons g3, List.drop_eq_getElem_cons g1, g4, g2]
    rfl

theorem occ2_step (u v : Nat) (l : List Nat) (a : Nat) : occ2 u v (l.drop a) = (if l[a]? = some u ∧ l[a + 1]? = some v then 1 else 0) + occ2 u v (l.drop (a + 1)) := by
  by_cases ha : a < l.length
  · rw [List.drop_eq_getElem_cons ha]
    by_cases hb : a + 1 < l.length
    · rw [List.drop_eq_getElem_cons hb]
      show (if l[a] = u ∧ l[a + 1] = v then 1 else 0) + _ = _
      rw [List.getElem?_eq_getElem ha, List.getElem?_eq_getElem hb]
      simp
    · have e : l.drop (a + 1) = [] := List.drop_eq_nil_of_le (by omega)
      have e2 : l[a + 1]? = none := List.getElem?_eq_none (by omega)
      rw [e, e2]
      show 0 = (if _ ∧ none = some v then 1 else 0) + 0
      simp
  · have e : l.drop a = [] := List.drop_eq_nil_of_le (by omega)
    have e1 : l.drop (a + 1) = [] := List.drop_eq_nil_of_le (by omega)
    have e2 : l[a]? = none := List.getElem?_eq_none (by omega)
    rw [e, e1, e2]
    show 0 = (if none = some u ∧ _ then 1 else 0) + 0
    simp

theorem occ2_gap (x : Str) (u v a : Nat) : ∀ j, (∀ k, a ≤ k → k < a + j → ¬ StrLaws.At x ⟨#[u, v]⟩ x.length k) → occ2 u v (x.cps.toList.drop a) = occ2 u v (x.cps.toList.drop (a + j))
  | 0, _ => rfl
  | j + 1, h => by
    rw [occ2_gap x u v a j fun k h1 h2 => h k h1 (by omega), occ2_step u v _ (a + j)]
    have := h (a + j) (by omega) (by omega)
    rw [at_two] at this
    rw [if_neg this, Nat.zero_add]
    rfl

theorem chain2 (x : Str) {u v : Nat} (huv : u ≠ v) : ∀ (cuts : List Nat) (a f : Nat), StrLaws.ChainG x ⟨#[u, v]⟩ x.length a cuts f → (∀ k, f ≤ k → ¬ StrLaws.At x ⟨#[u, v]⟩ x.length k) → occ2 u v (x.cps.toList.drop a) = cuts.length
  | [], a, f, h, hn => by
    have e : f = a := h
    subst e
    rw [occ2_gap x u v f x.length fun k h1 _ => hn k h1]
    have : x.cps.toList.drop (f + x.length) = [] := List.drop_eq_nil_of_le (by simp [Str.length])
    rw [this]; rfl
  | d :: r, a, f, h, hn => by
    obtain ⟨had, hAt, hgap, hrest⟩ := h
    have ih := chain2 x huv r _ f hrest hn
    have hw : (⟨#[u, v]⟩ : Str).length = 2 := rfl
    rw [hw] at ih
    obtain ⟨j, rfl⟩ : ∃ j, d = a + j := ⟨d - a, by omega⟩
    rw [occ2_gap x u v a j hgap, occ2_step]
    have hA := (at_two x u v (a + j)).mp hAt
    rw [if_pos hA, occ2_step]
    have hne : ¬ (x.cps.toList[a + j + 1]? = some u ∧ x.cps.toList[a + j + 1 + 1]? = some v) := fun h => by
      rw [hA.2] at h
      exact huv (Option.some.inj h.1).symm
    rw [if_neg hne, Nat.zero_add, ih]
    simp
    omega

theorem count2 (x : Str) {u v : Nat} (huv : u ≠ v) : (Builtin.Str.occurrences x ⟨#[u, v]⟩ 0 x.length (x.length + 1)).length = occ2 u v x.cps.toList := by
  obtain ⟨f, hG, hn⟩ := StrLaws.occ_tight x ⟨#[u, v]⟩ (by show 1 ≤ 2; decide)
  have := chain2 x huv _ 0 f hG hn
  rw [List.drop_zero] at this
  exact this.symm

theorem occ2_skip {u v a : Nat} (h : a ≠ u) : ∀ r : List Nat, occ2 u v (a :: r) = occ2 u v r
  | [] => rfl
  | b :: r => by
    show (if a = u ∧ b = v then 1 else 0) + occ2 u v (b :: r) = _
    rw [if_neg fun q => h q.1, Nat.zero_add]

theorem pStr_cps {p : Nat} (hp : p < 5) : (pStr p).cps.toList = [48 + p] := by
  match p, hp with
  | 0, _ => decide +kernel
  | 1, _ => decide +kernel
  | 2, _ => decide +kernel
  | 3, _ => decide +kernel
  | 4, _ => decide +kernel

theorem app_cps (a b : Str) : (a ++ b).cps.toList = a.cps.toList ++ b.cps.toList := by
  show (a.cps ++ b.cps).toList = _
  rw [Array.toList_append]

theorem occ_op {p : Nat} (hp : p < 5) : ∀ out : List TK, (∀ tk ∈ out, ∀ q, tk = .op q → q < 5) → occ2 91 (48 + p) (tksStr out).cps.toList = out.countP (isOp p)
  | [], _ => by
    show occ2 91 (48 + p) (Str.ofString "").cps.toList = 0
    rw [show (Str.ofString "").cps = #[] by decide +kernel]
    rfl
  | tk :: out, h => by
    have ih := occ_op hp out fun tk htk => h tk (List.mem_cons_of_mem _ htk)
    show occ2 91 (48 + p) (tkStr tk ++ tksStr out).cps.toList = _
    rw [app_cps, List.countP_cons, ← ih]
    cases tk with
    | op q =>
      have hq := h _ (List.mem_cons_self ..) q rfl
      show occ2 91 (48 + p) ((Str.ofString "[" ++ pStr q).cps.toList ++ _) = _
      rw [app_cps, pStr_cps hq, show (Str.ofString "[").cps.toList = [91] by decide +kernel]
      show (if 91 = 91 ∧ 48 + q = 48 + p then 1 else 0) + occ2 91 (48 + p) ((48 + q) :: (tksStr out).cps.toList) = _
      rw [occ2_skip (by omega), Nat.add_comm]
      congr 1
      simp [isOp]
    | em q =>
      show occ2 91 (48 + p) ((Str.ofString "[]").cps.toList ++ _) = _
      rw [show (Str.ofString "[]").cps.toList = [91, 93] by decide +kernel]
      show (if 91 = 91 ∧ 93 = 48 + p then 1 else 0) + occ2 91 (48 + p) (93 :: (tksStr out).cps.toList) = _
      rw [occ2_skip (by decide), if_neg (by omega)]
      simp [isOp]
    | sep =>
      show occ2 91 (48 + p) ((Str.ofString ", ").cps.toList ++ _) = _
      rw [show (Str.ofString ", ").cps.toList = [44, 32] by decide +kernel]
      show occ2 91 (48 + p) (44 :: 32 :: (tksStr out).cps.toList) = _
      rw [occ2_skip (by decide), occ2_skip (by decide)]
      simp [isOp]
    | cl =>
      show occ2 91 (48 + p) ((Str.ofString "]").cps.toList ++ _) = _
      rw [show (Str.ofString "]").cps.toList = [93] by decide +kernel]
      show occ2 91 (48 + p) (93 :: (tksStr out).cps.toList) = _
      rw [occ2_skip (by decide)]
      simp [isOp]

theorem occ_em : ∀ out : List TK, (∀ tk ∈ out, ∀ q, tk = .op q → q < 5) → occ2 91 93 (tksStr out).cps.toList = out.countP isEm
  | [], _ => by
    show occ2 91 93 (Str.ofString "").cps.toList = 0
    rw [show (Str.ofString "").cps = #[] by decide +kernel]
    rfl
  | tk :: out, h => by
    have ih := occ_em out fun tk htk => h tk (List.mem_cons_of_mem _ htk)
    show occ2 91 93 (tkStr tk ++ tksStr out).cps.toList = _
    rw [app_cps, List.countP_cons, ← ih]
    cases tk with
    | op q =>
      have hq := h _ (List.mem_cons_self ..) q rfl
      show occ2 91 93 ((Str.ofString "[" ++ pStr q).cps.toList ++ _) = _
      rw [app_cps, pStr_cps hq, show (Str.ofString "[").cps.toList = [91] by decide +kernel]
      show (if 91 = 91 ∧ 48 + q = 93 then 1 else 0) + occ2 91 93 ((48 + q) :: (tksStr out).cps.toList) = _
      rw [occ2_skip (by omega), if_neg (by omega)]
      simp [isEm]
    | em q =>
      show occ2 91 93 ((Str.ofString "[]").cps.toList ++ _) = _
      rw [show (Str.ofString "[]").cps.toList = [91, 93] by decide +kernel]
      show (if 91 = 91 ∧ 93 = 93 then 1 else 0) + occ2 91 93 (93 :: (tksStr out).cps.toList) = _
      rw [occ2_skip (by decide), if_pos ⟨rfl, rfl⟩, Nat.add_comm]
      rfl
    | sep =>
      show occ2 91 93 ((Str.ofString ", ").cps.toList ++ _) = _
      rw [show (Str.ofString ", ").cps.toList = [44, 32] by decide +kernel]
      show occ2 91 93 (44 :: 32 :: (tksStr out).cps.toList) = _
      rw [occ2_skip (by decide), occ2_skip (by decide)]
      simp [isEm]
    | cl =>
      show occ2 91 93 ((Str.ofString "]").cps.toList ++ _) = _
      rw [show (Str.ofString "]").cps.toList = [93] by decide +kernel]
      show occ2 91 93 (93 :: (tksStr out).cps.toList) = _
      rw [occ2_skip (by decide)]
      simp [isEm]
end Mine
end

/- part P7 -/
section
open PySem PySem.W PyProof.Rows PySem.W.X
set_option maxRecDepth 100000
namespace Mine

def sumN (f : Nat → Nat) : Nat → Nat
  | 0 => 0
  | n + 1 => sumN f n + f n
theorem sumN_congr {f g : Nat → Nat} : ∀ n, (∀ o < n, f o = g o) → sumN f n = sumN g n
  | 0, _ => rfl
  | n + 1, h => by
    show sumN f n + f n = sumN g n + g n
    rw [sumN_congr n fun o ho => h o (Nat.lt_succ_of_lt ho), h n (Nat.lt_succ_self _)]
theorem sumN_add (f g : Nat → Nat) : ∀ n, sumN (fun o => f o + g o) n = sumN f n + sumN g n
  | 0 => rfl
  | n + 1 => by
    show sumN (fun o => f o + g o) n + (f n + g n) = (sumN f n + f n) + (sumN g n + g n)
    rw [sumN_add f g n]; omega
theorem sumN_zero : ∀ n, sumN (fun _ => 0) n = 0
  | 0 => rfl
  | n + 1 => by show sumN (fun _ => 0) n + 0 = 0; rw [sumN_zero n]
theorem sumN_mul (c : Nat) (f : Nat → Nat) : ∀ n, sumN (fun o => c * f o) n = c * sumN f n
  | 0 => rfl
  | n + 1 => by
    show sumN (fun o => c * f o) n + c * f n = c * (sumN f n + f n)
    rw [sumN_mul c f n, Nat.mul_add]
theorem sumN_mul_right (c : Nat) (f : Nat → Nat) : ∀ n, sumN (fun o => f o * c) n = sumN f n * c
  | 0 => (Nat.zero_mul _).symm
  | n + 1 => by
    show sumN (fun o => f o * c) n + f n * c = (sumN f n + f n) * c
    rw [sumN_mul_right c f n, Nat.add_mul]
theorem sumN_swap (f : Nat → Nat → Nat) (n : Nat) : ∀ m, sumN (fun o => sumN (fun o' => f o o') n) m = sumN (fun o' => sumN (fun o => f o o') m) n
  | 0 => (sumN_zero n).symm
  | m + 1 => by
    show sumN (fun o => sumN (fun o' => f o o') n) m + sumN (fun o' => f m o') n = sumN (fun o' => sumN (fun o => f o o') m + f m o') n
    rw [sumN_swap f n m, sumN_add]
theorem sumN_one (v : Nat → Nat) {p : Nat} : ∀ n, sumN (fun o => v o * if o = p then 1 else 0) n = if p < n then v p else 0
  | 0 => rfl
  | n + 1 => by
    show sumN (fun o => v o * if o = p then 1 else 0) n + (v n * if n = p then 1 else 0) = _
    rw [sumN_one v n]
    by_cases h : n = p
    · subst h; simp
    · by_cases h2 : p < n
      · rw [if_pos h2, if_neg h, if_pos (by omega)]; simp
      · rw [if_neg h2, if_neg h, if_neg (by omega)]; simp
theorem sumN_count {l : List Nat} {n : Nat} (g : Nat → Nat) (hl : ∀ x ∈ l, x < n) : sumN (fun o => l.count o * g o) n = (l.map g).sum := by
  induction l with
  | nil => simp [sumN_zero]
  | cons a l ih =>
    have e : sumN (fun o => (a :: l).count o * g o) n = sumN (fun o => l.count o * g o) n + sumN (fun o => g o * if o = a then 1 else 0) n := by
      rw [← sumN_add]
      refine sumN_congr n fun o _ => ?_
      rw [List.count_cons, Nat.add_mul]
      by_cases h : a = o
      · subst h; simp
      · simp [h, Ne.symm h]
    rw [e, ih fun x hx => hl x (List.mem_cons_of_mem _ hx), sumN_one, if_pos (hl a (List.mem_cons_self ..)), List.map_cons, List.sum_cons, Nat.add_comm]

section
variable (n : Nat) (row : Nat → Option (List Nat))
def Mv (v : Nat → Nat) (p : Nat) : Nat := sumN (fun o => v o * ((row o).getD []).count p) n
def FR : Nat → (Nat → Nat) → Nat → Nat
  | 0, _, _ => 0
  | k + 1, v, p => v p + FR k (Mv n row v) p
def aheadN : Nat → Nat → Nat
  | 0 => fun p => if p = 0 then 1 else 0
  | j + 1 => Mv n row (aheadN j)
def roadsN : Nat → Nat → Nat
  | 0 => fun _ => 0
  | j + 1 => fun p => roadsN j p + aheadN n row j p
end

section
variable {n : Nat} {row : Nat → Option (List Nat)}
theorem FR_eq (hin : ∀ o < n, ∀ q ∈ (row o).getD [], q < n) {p : Nat} (hp : p < n) : ∀ k v, FR n row k v p = sumN (fun o => v o * Qp row k o p) n
  | 0, v => by
    show 0 = sumN (fun o => v o * 0) n
    rw [sumN_congr (g := fun _ => 0) n fun o _ => Nat.mul_zero _, sumN_zero]
  | k + 1, v => by
    show v p + FR n row k (Mv n row v) p = _
    rw [FR_eq hin hp k]
    have e1 : sumN (fun o => Mv n row v o * Qp row k o p) n = sumN (fun o' => v o' * (((row o').getD []).map fun c => Qp row k c p).sum) n := by
      have s1 : sumN (fun o => Mv n row v o * Qp row k o p) n = sumN (fun o => sumN (fun o' => v o' * (((row o').getD []).count o * Qp row k o p)) n) n := by
        refine sumN_congr n fun o _ => ?_
        unfold Mv
        rw [← sumN_mul_right]
        exact sumN_congr n fun o' _ => Nat.mul_assoc _ _ _
      rw [s1, sumN_swap]
      refine sumN_congr n fun o' ho' => ?_
      rw [sumN_mul, sumN_count _ (hin o' ho')]
    rw [e1]
    have e2 : v p = sumN (fun o => v o * if o = p then 1 else 0) n := by rw [sumN_one, if_pos hp]
    conv => lhs; rw [e2]
    rw [← sumN_add]
    exact sumN_congr n fun o _ => (Nat.mul_add _ _ _).symm

theorem roads_FR (p : Nat) : ∀ j k, roadsN n row (j + k) p = roadsN n row j p + FR n row k (aheadN n row j) p
  | j, 0 => rfl
  | j, k + 1 => by
    have := roads_FR p (j + 1) k
    rw [show j + (k + 1) = j + 1 + k by omega, this]
    show roadsN n row j p + aheadN n row j p + FR n row k (aheadN n row (j + 1)) p = roadsN n row j p + (aheadN n row j p + FR n row k (Mv n row (aheadN n row j)) p)
    rw [Nat.add_assoc]; rfl

theorem roads_eq (S : Small n row) {p : Nat} (hp : p < n) : roadsN n row n p = Qp row n 0 p := by
  have hin : ∀ o < n, ∀ q ∈ (row o).getD [], q < n := fun o ho q hq => by
    cases hr : row o with
    | none => rw [hr] at hq; cases hq
    | some ts => rw [hr] at hq; exact S.inn o ts ho hr q hq
  have h := roads_FR (n := n) (row := row) p 0 n
  rw [Nat.zero_add] at h
  rw [h, FR_eq hin hp]
  show 0 + sumN (fun o => (if o = 0 then 1 else 0) * Qp row n o p) n = _
  rw [Nat.zero_add, sumN_congr (g := fun o => Qp row n o p * if o = 0 then 1 else 0) n fun o _ => Nat.mul_comm _ _, sumN_one (fun o => Qp row n o p), if_pos S.n0]
end
end Mine
end

/- part P8 -/
section
open PySem PySem.W PyProof.Rows PySem.W.X
set_option maxRecDepth 100000
namespace Mine

def t160 (x : Str) : List Nat := x.cps.toList.take 160
theorem t160_pre {x y : Str} (h : pre x y) (hl : 160 ≤ x.length) : t160 x = t160 y := by
  obtain ⟨z, rfl⟩ := h
  unfold t160
  rw [app_cps, List.take_append_of_le_length (by simpa [Str.length] using hl)]

theorem sep_top {W : Web} : ∀ {σ : GSt}, swf W σ → pend σ = [.sep] → ∃ p k rd' ts, stk σ = (p, k) :: rd' ∧ W.row p = some ts ∧ 1 ≤ k ∧ k ≤ ts.length
  | .atSep p k, ⟨ts, h1, h2, h3⟩, _ => ⟨p, k, [], ts, rfl, h1, h2, h3⟩
  | .inside p k σ, ⟨_, hs⟩, h => by
    obtain ⟨p', k', rd', ts, e, r⟩ := sep_top (σ := σ) hs h
    exact ⟨p', k', rd' ++ [(p, k + 1)], ts, by simp only [stk, e]; rfl, r⟩
  | .fresh _, h, _ => h.elim
  | .atInt _, _, h => by cases h
  | .atEmpty _, _, h => by cases h
  | .atClose _, _, h => by cases h

section
variable {n : Nat} {W : Web} {k : Nat}

theorem cond_split {S : TS} (h : condT S = false) : S.rd = [] ∨ 160 ≤ S.text.length := by
  unfold condT at h
  rw [Bool.and_eq_false_iff] at h
  rcases h with h | h
  · left
    simpa using h
  · right
    rw [decide_eq_false_iff_not] at h
    omega
theorem cond_parts {S : TS} (h : condT S = true) : S.rd ≠ [] ∧ S.text.length < 160 := by
  unfold condT at h
  rw [Bool.and_eq_true, decide_eq_true_iff] at h
  exact ⟨fun e => by rw [e] at h; simp at h, h.2⟩

/-- the first loop fell -/
theorem law_fell (S : Small n W.row) {j : Nat} {T : Str} (he : encR W true j = (T, .raise)) (hk : condT (ltN W.row (S0 W.row) k) = false) (hb : ∀ j < k, condT (ltN W.row (S0 W.row) j) = true) :
    (ltN W.row (S0 W.row) k).circ = (T.length : Int) ∧ pre T (ltN W.row (S0 W.row) k).text := by
  have hi := enc_inv W true j
  rw [he] at hi
  obtain ⟨_, i, hT, hc, hn⟩ := hi
  obtain ⟨k₁, C, hl, hC⟩ := law_of_x (row := W.row) i
  obtain rfl := hC hn
  have hbd := x_bound S i hn
  obtain ⟨p, t, rest, ts, e1, e2, e3, e4, e5, e6⟩ := hc
  rw [e1] at hl e6
  have hT' : T = tksStr (xN W.row i).out ++ ", " := by rw [hT, tksStr_app, tksStr_one]; rfl
  generalize tksStr (xN W.row i).out = T₀ at hl hT' hbd
  have hlt : k₁ < k := by
    rcases Nat.lt_or_ge k₁ k with h | h
    · exact h
    · exfalso
      rcases cond_split hk with h1 | h1
      · have := lt_done h h1
        rw [hl] at this
        rw [← this] at h1
        cases h1
      · have := (lt_pre (row := W.row) (S := S0 W.row) h).len
        rw [hl] at this
        have h3 : 160 ≤ T₀.length := Nat.le_trans h1 this
        omega
  obtain ⟨ds, hds⟩ := Option.isSome_iff_exists.mp e5
  have hnext : ltN W.row (S0 W.row) (k₁ + 1) = ⟨(ts.getD (t - 1) 0, 0) :: (p, t + 1) :: rest, (T₀ ++ ", ") ++ "[", ((T₀ ++ ", ").length : Int)⟩ := by
    show ltStep W.row (ltN W.row (S0 W.row) k₁) = _
    rw [hl]
    unfold ltStep
    simp only [e2]
    rw [if_neg (by omega), if_neg (by omega), hds]
    dsimp only
    rw [if_pos ⟨by decide, e6⟩]
  have hpre := lt_pre (row := W.row) (S := S0 W.row) hlt
  have hcir := lt_circ (row := W.row) (S := S0 W.row) hlt (by rw [hnext]; exact Int.natCast_nonneg _)
  rw [hnext] at hpre hcir
  exact ⟨by rw [hcir, hT'], by rw [hT']; exact pre.trans .app hpre⟩

/-- the first loop has come to its end -/
theorem law_ended (S : Small n W.row) {j : Nat} {T : Str} {μ : List Nat} (he : encR W true j = (T, .fin μ)) (hk : condT (ltN W.row (S0 W.row) k) = false) (hb : ∀ j < k, condT (ltN W.row (S0 W.row) j) = true) :
    (ltN W.row (S0 W.row) k).circ = -1 ∧ (ltN W.row (S0 W.row) k).text = T ∧ (ltN W.row (S0 W.row) k).rd = [] ∧ T.length ≤ 153 ∧ ∃ i, NoCirc W.row i ∧ (xN W.row i).rd = [] ∧ T = tksStr (xN W.row i).out := by
  have hi := enc_inv W true j
  rw [he] at hi
  obtain ⟨i, toks, hx, hT, hn⟩ := hi
  have hn := hn rfl
  obtain ⟨k₁, C, hl, hC⟩ := law_of_x (row := W.row) i
  obtain rfl := hC hn
  have hbd := x_bound S i hn
  rw [hx] at hl hbd
  rw [← hT] at hl
  simp only at hbd
  rw [← hT] at hbd
  have hle : k ≤ k₁ := by
    rcases Nat.lt_or_ge k₁ k with h | h
    · have := (cond_parts (hb k₁ h)).1
      rw [hl] at this
      exact absurd rfl this
    · exact h
  have hrd : (ltN W.row (S0 W.row) k).rd = [] := by
    rcases cond_split hk with h1 | h1
    · exact h1
    · have := (lt_pre (row := W.row) (S := S0 W.row) hle).len
      rw [hl] at this
      have : 160 ≤ T.length := Nat.le_trans h1 this
      omega
  have heq := lt_done hle hrd
  rw [← heq, hl]
  exact ⟨rfl, rfl, rfl, by omega, i, hn, by rw [hx], by rw [hx, hT]⟩

/-- what the second loop has told -/
def EndlessOK (W : Web) (T : Str) : Prop := (∃ j μ, encR W false j = (T, .fin μ)) ∨ (160 ≤ T.length ∧ ∃ j T' x σ μ, encR W false j = (T', .yield x σ μ) ∧ T = T' ++ x)

theorem endless_law {T : Str} (h : EndlessOK W T) : ∃ k₂, ((ltN W.row (S0 W.row) k₂).rd = [] ∧ T = (ltN W.row (S0 W.row) k₂).text) ∨ (160 ≤ T.length ∧ pre T (ltN W.row (S0 W.row) k₂).text) := by
  rcases h with ⟨j, μ, he⟩ | ⟨hl, j, T', x, σ, μ, he, rfl⟩
  · have hi := enc_inv W false j
    rw [he] at hi
    obtain ⟨i, toks, hx, hT, _⟩ := hi
    obtain ⟨k₁, C, hk, _⟩ := law_of_x (row := W.row) i
    rw [hx] at hk
    exact ⟨k₁, .inl ⟨by rw [hk], by rw [hk, hT]⟩⟩
  · have hi := enc_inv W false j
    rw [he] at hi
    obtain ⟨i, toks, hx, hT, hs, _⟩ := hi
    rcases pend_two σ with hp | hp
    · obtain ⟨k₁, C, hk, _⟩ := law_of_x (row := W.row) i
      rw [hx] at hk
      refine ⟨k₁, .inr ⟨hl, ?_⟩⟩
      rw [hk, hT, hp, List.append_nil]
      exact .refl _
    · obtain ⟨k₁, C, hk, _⟩ := law_of_x (row := W.row) (i + 1)
      refine ⟨k₁, .inr ⟨hl, ?_⟩⟩
      rw [hk, hT, hp]
      obtain ⟨p, t, rd', ts, e1, e2, e3, e4⟩ := sep_top hs hp
      have e : xN W.row (i + 1) = xStep W.row ⟨stk σ, toks⟩ := by rw [← hx]; rfl
      rw [e, e1]
      unfold xStep
      simp only [e2]
      rw [if_neg (by omega)]
      cases hc : W.row (ts.getD (t - 1) 0) with
      | none =>
        show pre (tksStr (toks ++ [.sep])) (tksStr (toks ++ [.sep, .em (ts.getD (t - 1) 0)]))
        rw [show toks ++ [TK.sep, .em (ts.getD (t - 1) 0)] = (toks ++ [.sep]) ++ [.em (ts.getD (t - 1) 0)] by simp, tksStr_app (toks ++ [TK.sep])]
        exact .app
      | some ds =>
        show pre (tksStr (toks ++ [.sep])) (tksStr (toks ++ [.sep, .op (ts.getD (t - 1) 0)]))
        rw [show toks ++ [TK.sep, .op (ts.getD (t - 1) 0)] = (toks ++ [.sep]) ++ [.op (ts.getD (t - 1) 0)] by simp, tksStr_app (toks ++ [TK.sep])]
        exact .app

theorem law_endless {T : Str} (h : EndlessOK W T) (hk : condT (ltN W.row (S0 W.row) k) = false) :
    t160 (ltN W.row (S0 W.row) k).text = t160 T ∧ ((ltN W.row (S0 W.row) k).rd = [] → (ltN W.row (S0 W.row) k).text.length < 160 → T = (ltN W.row (S0 W.row) k).text) := by
  obtain ⟨k₂, h⟩ := endless_law h
  have p1 := lt_pre (row := W.row) (S := S0 W.row) (Nat.le_max_left k k₂)
  have p2 := lt_pre (row := W.row) (S := S0 W.row) (Nat.le_max_right k k₂)
  rcases h with ⟨hr, rfl⟩ | ⟨hl, hp⟩
  · have d2 := lt_done (row := W.row) (S := S0 W.row) (Nat.le_max_right k k₂) hr
    have both : (ltN W.row (S0 W.row) k).rd = [] → (ltN W.row (S0 W.row) k₂).text = (ltN W.row (S0 W.row) k).text := fun h1 => by
      rw [← d2, lt_done (row := W.row) (S := S0 W.row) (Nat.le_max_left k k₂) h1]
    refine ⟨?_, fun h1 _ => both h1⟩
    rcases cond_split hk with h1 | h1
    · rw [both h1]
    · rw [d2] at p1
      exact t160_pre p1 h1
  · have p3 := hp.trans p2
    have key : (ltN W.row (S0 W.row) k).rd = [] → pre T (ltN W.row (S0 W.row) k).text := fun h1 => by
      rw [← lt_done (row := W.row) (S := S0 W.row) (Nat.le_max_left k k₂) h1]; exact p3
    refine ⟨?_, fun h1 h2 => ?_⟩
    · rcases cond_split hk with h1 | h1
      · exact (t160_pre (key h1) hl).symm
      · rw [t160_pre p1 h1, t160_pre p3 hl]
    · have := (key h1).len
      omega

/-- the counts at the end -/
theorem law_counts (S : Small n W.row) {i : Nat} (hn : NoCirc W.row i) (hd : (xN W.row i).rd = []) :
    occ2 91 93 (tksStr (xN W.row i).out).cps.toList = (((List.range n).filter fun p => (W.row p).isNone).map fun p => roadsN n W.row n p).sum ∧
    ∀ p < n, (W.row p).isSome = true → occ2 91 (48 + p) (tksStr (xN W.row i).out).cps.toList = roadsN n W.row n p := by
  have hkd := x_kinds S i hn
  have hct := fun p => x_count S p i hn
  rw [hd] at hct
  have hct' : ∀ p, cntT p (xN W.row i).out = Qp W.row n 0 p := fun p => by
    have := hct p
    simpa [remQ] using this
  have hop : ∀ tk ∈ (xN W.row i).out, ∀ q, tk = .op q → q < 5 := fun tk htk q e => Nat.lt_of_lt_of_le ((hkd tk htk).1 q e).1 S.n5
  refine ⟨?_, fun p hp hs => ?_⟩
  · rw [occ_em _ hop, em_count n W.row _ fun tk htk => ⟨fun p e => ((hkd tk htk).1 p e).2, fun p e => (hkd tk htk).2 p e⟩]
    congr 1
    refine List.map_congr_left fun p hp => ?_
    rw [List.mem_filter, List.mem_range] at hp
    rw [hct', roads_eq S hp.1]
  · rw [occ_op (Nat.lt_of_lt_of_le hp S.n5) _ hop, op_count fun tk htk q e => ?_, hct', roads_eq S hp]
    rintro rfl
    rw [((hkd tk htk).2 q e).2] at hs
    cases hs
end
end Mine
end

/- part E0 -/
section
set_option maxHeartbeats 40000000
set_option linter.unusedVariables false
set_option maxRecDepth 100000
open PySem PyProof
namespace Mine
open_top hd for PySem.Challenge.rw_ae5040_01
end Mine
end

/- part E1 -/
section
open PySem PySem.W PyProof PyProof.Rows PySem.W.X
set_option maxRecDepth 100000
namespace Mine
noncomputable abbrev hashX (P : Params) (x : Str) : Int := condFn Int x.cps.isEmpty 0 (PySem.W.XFast.xw12210062019545310541 (P.strHash x.cps))
theorem condFn_ite (b : Bool) (x y : Int) : condFn Int b x y = if b then x else y := by cases b <;> rfl
theorem hashX_eq (P : Params) (x : Str) : hashX P x = PyData.keyHash P x := by
  unfold hashX PyData.keyHash PySem.W.XFast.xw12210062019545310541 reduceHash
  simp only [condFn_ite]
  congr <;> exact Subsingleton.elim _ _
noncomputable abbrev ent (P : Params) (x : Str) (t : Tok) (v : Value) : PySem.DictEntry := { hash := hashX P x, key := .str x t, val := v }
noncomputable abbrev encEs (P : Params) (cc : Bool) (t : Nat) : Array PySem.DictEntry :=
  #[ent P "skipkeys" (t+13) (.bool false), ent P "ensure_ascii" (t+15) (.bool true), ent P "check_circular" (t+17) (.bool cc), ent P "sort_keys" (t+19) (.bool false), ent P "tuple_as_array" (t+21) (.bool true), ent P "bigint_as_string" (t+23) (.bool false), ent P "item_sort_key" (t+25) .none, ent P "int_as_string_bitcount" (t+27) .none, ent P "indent" (t+29) .none, ent P "own_default" (t+31) .none]
section
variable {prog : Program} {w : World} {env : Env} {E : Value → Shared → Prop} {s : Shared} {Q : Value → Shared → Prop}
def EncNew (w : World) (cc : Bool) (s : Shared) (Q : Value → Shared → Prop) : Prop := ∀ x d t h' tk, (∀ b o, s.heap.get? b = some o → h'.get? b = some o) → s.heap.get? x = none →
  h'.get? x = some ⟨.ref 132, some d, .plain, #[]⟩ → h'.get? d = some ⟨.type "dict", none, .dict (encEs w.params cc t) 10, #[]⟩ → Q (.ref x) { s with heap := h', toks := tk }
theorem EncNew.use {cc : Bool} {x d f : Addr} {o : Obj} {t : Nat} {h' : Heap} {tk : Nat} (n : EncNew w cc s Q)
    (D : Mem s.heap h' [] [(f, o), (x, ⟨.ref 132, some d, .plain, #[]⟩), (d, ⟨.type "dict", none, .dict (encEs w.params cc t) 10, #[]⟩)]) : Q (.ref x) { s with heap := h', toks := tk } :=
  n x d t h' tk (mem_keep D) (D.nw _ (.tail _ (.head _))).2 (D.nw _ (.tail _ (.head _))).1 (D.nw _ (.tail _ (.tail _ (.head _)))).1
set_option maxHeartbeats 0
local macro_rules | `(tactic| x_close) => `(tactic| exact EncNew.use (by assumption) (by assumption))
theorem enc_new (K : (hd.heap_39 w.params).In s.heap) (n : EncNew w true s Q) : wpAny (model prog w) (callerA.deeper env) (call (.ref 132) [] []) Q E s := by
  x_run
theorem enc_newF (K : (hd.heap_39 w.params).In s.heap) (n : EncNew w false s Q) : wpAny (model prog w) (callerA.deeper env) (call (.ref 132) [] [("check_circular", .bool false)]) Q E s := by
  x_run
end
end Mine
end

/- part E2 -/
section
open PySem PySem.W PyProof PyProof.Rows PySem.W.X
set_option maxRecDepth 100000
namespace Mine

def posS : Stmt → Pos
  | .FunctionDef _ _ _ _ _ _ _ _ _ p => p
  | _ => default
def keyDef : Stmt := nthS 4 (bodyS mkDef)
def dictDef : Stmt := nthS 5 (bodyS mkDef)
/-- the defs that `_make_iterencode` makes: where they stand, and their long names -/
def mkDefs : List (Pos × Str) := [(posS intDef, "_make_iterencode.<locals>._encode_int"), (posS listDef, "_make_iterencode.<locals>._iterencode_list"), (posS keyDef, "_make_iterencode.<locals>._stringify_key"),
  (posS dictDef, "_make_iterencode.<locals>._iterencode_dict"), (posS iterDef, "_make_iterencode.<locals>._iterencode")]
theorem mkDefs_one : ∀ d ∈ mkDefs, ∀ d' ∈ mkDefs, d.1.line = d'.1.line → d = d' := by decide +kernel

/-- the table of the codes that `_make_iterencode` has made; no code lies where things change -/
def TabI (hid : List Nat) (h : Heap) : Prop := 188 ∈ hid ∧ ∃ ps, h.get? 188 = some (tabObj ps) ∧ TriplesOk ps.toList ∧ ∀ d ∈ mkDefs, ∀ cv, codeAmong d.1 ps.toList = some cv → (∀ c ∈ hid, cv ≠ .ref c) ∧ h.CodeRec cv d.2

theorem codeRec_on {h h' : Heap} {cv : Value} {q : Str} {hid : List Nat} (x : h.CodeRec cv q) (n : ∀ c ∈ hid, cv ≠ .ref c) (hx : ∀ (b : Nat) o, b ∉ hid → h.get? b = some o → h'.get? b = some o) : h'.CodeRec cv q :=
  let ⟨c, o, vs, t, e, g, r⟩ := x
  ⟨c, o, vs, t, e, hx c o (fun q => n c q e) g, r⟩

theorem TabI.on {hid : List Nat} {h h' : Heap} (x : TabI hid h) (hk : ∀ (b : Nat) o, b ∉ hid → h.get? b = some o → h'.get? b = some o) (ht : h'.get? 188 = h.get? 188) : TabI hid h' :=
  let ⟨z, ps, a, b, c⟩ := x; ⟨z, ps, ht.trans a, b, fun d hd cv e => ⟨(c d hd cv e).1, codeRec_on (c d hd cv e).2 (c d hd cv e).1 hk⟩⟩
theorem TabI.keeps {hid : List Nat} {h h' : Heap} (x : TabI hid h) (hk : ∀ b o, h.get? b = some o → h'.get? b = some o) : TabI hid h' :=
  x.on (fun b o _ e => hk b o e) (let ⟨_, _, a, _⟩ := x; (hk _ _ a).trans a.symm)
theorem TabI.more {hid hid' : List Nat} {h : Heap} (x : TabI hid h) (h1 : 188 ∈ hid') (hk : ∀ c ∈ hid', c ∈ hid ∨ h.objs.size ≤ c) : TabI hid' h := by
  obtain ⟨_, ps, a, b, c⟩ := x
  refine ⟨h1, ps, a, b, fun d hd cv e => ⟨fun q hq e2 => ?_, (c d hd cv e).2⟩⟩
  rcases hk q hq with hq | hq
  · exact (c d hd cv e).1 q hq e2
  · obtain ⟨c', o, vs, t, e1, g, r⟩ := (c d hd cv e).2
    rw [e2] at e1; cases e1
    exact Nat.lt_irrefl _ (Nat.lt_of_lt_of_le (Heap.lt_size g) hq)

/-- the table, with the codes in a heap that stays -/
def TabB (B h : Heap) : Prop := ∃ ps, h.get? 188 = some (tabObj ps) ∧ TriplesOk ps.toList ∧ ∀ d ∈ mkDefs, ∀ cv, codeAmong d.1 ps.toList = some cv → B.CodeRec cv d.2
theorem TabB.tabI {B h : Heap} {hid : List Nat} (x : TabB B h) (h0 : 188 ∈ hid) (hk : ∀ b o, B.get? b = some o → h.get? b = some o) (hn : ∀ c ∈ hid, B.get? c = none) : TabI hid h := by
  obtain ⟨ps, a, b, c⟩ := x
  refine ⟨h0, ps, a, b, fun d hd cv e => ⟨fun q hq e2 => ?_, (c d hd cv e).keeps hk⟩⟩
  obtain ⟨c', o, vs, t, e1, g, r⟩ := c d hd cv e
  rw [e2] at e1; cases e1
  rw [hn _ hq] at g; cases g
theorem TabB.same {B h h' : Heap} (x : TabB B h) (e : h'.get? 188 = h.get? 188) : TabB B h' := let ⟨ps, a, b, c⟩ := x; ⟨ps, e.trans a, b, c⟩

theorem among_snoc {p : Pos} {a b : Int} {c cv : Value} (l : List Value) (h : TriplesOk l) (e : codeAmong p (l ++ [rawInt a, rawInt b, c]) = some cv) : codeAmong p l = some cv ∨ (cv = c ∧ a = p.line ∧ b = p.col) := by
  fun_induction TriplesOk l with
  | case1 =>
    simp only [List.nil_append, codeAmong, rawInt] at e
    split at e
    · rename_i hq
      simp only [Bool.and_eq_true, beq_iff_eq] at hq
      cases e
      exact .inr ⟨rfl, hq.1, hq.2⟩
    · cases e
  | case2 a' t b' u x rest ih =>
    simp only [List.cons_append, codeAmong] at e ⊢
    split at e
    · rename_i hq
      rw [if_pos hq]; exact .inl e
    · rename_i hq
      rw [if_neg hq]; exact ih h e
  | case3 l h1 h2 => exact h.elim

section
variable {M : Model} {A : Around} {E : Value → Shared → Prop} {s : Shared} {name qual : Str} {params : Arguments} {body : List Stmt} {scope : Scope} {env : Env} {pos : Pos} {firstLine : Nat} {mg : Str → Option Value}
  {clos : List (Str × Addr)} {Q : Value → Shared → Prop}

theorem mkfn {hid : List Nat} (hcl : closureFor scope env = pure clos) (hge0 : env.globals = mainGlobals) (hg : s.heap.Ns mainGlobals mg) (hcode : env.code = .ref 192) (C : CodeHd s.heap 192 188) (hT : TabI hid s.heap)
    (hm : (pos, qual) ∈ mkDefs) (hb : s.heap.BuiltinsAt mg 188) (hlt : ∀ c ∈ hid, c < s.heap.objs.size)
    (h : ∀ cv ctv doc pm f h' tk, Heap.ExtBut 188 s.heap h' → s.heap.objs.size ≤ f → s.heap.objs.size ≤ h'.objs.size → h'.get? f = some { cls := .type "function", data := .func (fnX name qual params body scope clos .none .none doc pm none cv ctv) } →
      h'.CodeRec cv qual → TabI hid h' → (∀ c ∈ hid, cv ≠ .ref c) → Q (.ref f) { s with heap := h', toks := tk }) :
    wpAny M A (makeFunction name qual params (.stmts body) scope env [] [] [] pos firstLine) Q E s := by
  obtain ⟨hin, ps, hP, htr, hall⟩ := hT
  have h188 : (188 : Nat) < s.heap.objs.size := Heap.lt_size hP
  cases hc : codeAmong pos ps.toList with
  | some cv =>
    refine makeFunction_hit hcl hge0 hg hcode C hP htr hc hb fun ctv doc h' tk hk hsz => ?_
    have hk2 : ∀ b o, s.heap.get? b = some o → (h'.push { cls := .type "function", data := .func (fnX name qual params body scope clos .none .none doc ((mg "__name__").getD .none) none cv ctv) }).get? b = some o := fun b o e => Heap.get?_push_of_some _ (hk b o e)
    exact h cv ctv doc _ h'.objs.size _ tk (fun b o _ e => hk2 b o e) hsz (Nat.le_trans hsz (by rw [Heap.size_push]; omega)) (Heap.get?_push_size _ rfl) ((hall _ hm cv hc).2.keeps hk2)
      (TabI.keeps ⟨hin, ps, hP, htr, hall⟩ hk2) (hall _ hm cv hc).1
  | none =>
    refine makeFunction_K hcl hge0 hg hcode C hP htr hc (by decide) hb fun c' ctv doc h' tk hx hge hlt' hrec htb => ?_
    have hx2 : Heap.ExtBut 188 s.heap (h'.push (fnMade name qual params body scope clos doc ((mg "__name__").getD .none) c' ctv)) := fun b o n e => Heap.get?_push_of_some _ (hx b o n e)
    have hc' : ∀ c ∈ hid, (Value.ref c') ≠ .ref c := fun c q e => by
      have h1 : c' = c := by injection e
      exact Nat.lt_irrefl _ (Nat.lt_of_lt_of_le (hlt c q) (h1 ▸ hge))
    refine h (.ref c') ctv doc _ h'.objs.size _ tk hx2 (Nat.le_of_lt (Nat.lt_of_le_of_lt hge hlt')) (Nat.le_of_lt (Nat.lt_of_le_of_lt hge (Nat.lt_of_lt_of_le hlt' (by rw [Heap.size_push]; omega)))) (Heap.get?_push_size _ rfl) (hrec.push _)
      ⟨hin, _, Heap.get?_push_of_some _ htb, ?_, fun d hd cv ec => ?_⟩ hc'
    · rw [Array.toList_append]; exact TriplesOk_snoc _ _ _ _ htr
    · rw [Array.toList_append] at ec
      rcases among_snoc _ htr ec with ec | ⟨rfl, hl, _⟩
      · exact ⟨(hall d hd cv ec).1, codeRec_on (hid := hid) (hall d hd cv ec).2 (hall d hd cv ec).1 fun b o n e => hx2 b o (fun q => n (q ▸ hin)) e⟩
      · have := mkDefs_one _ hm _ hd (by exact_mod_cast hl)
        subst this
        exact ⟨hc', hrec.push _⟩
end
end Mine
end

/- part E3 -/
section
open PySem PySem.W PyProof PyProof.Rows PySem.W.X
set_option maxRecDepth 100000
namespace Mine

theorem TabI.cell {hid : List Nat} {h h' : Heap} {c : Nat} {v : Option Value} (x : TabI hid h) (hc : h.IsCell c v) (hs : Heap.SameBut c h h') : TabI hid h' := by
  obtain ⟨z, ps, a, b, d⟩ := x
  obtain ⟨oc, h1, h2⟩ := hc
  have hne : ∀ (b : Nat) o vs, h.get? b = some o → o.data = .fields vs → b ≠ c := fun b o vs e1 e2 q => by
    subst q; rw [h1] at e1; cases e1; rw [h2] at e2; cases e2
  refine ⟨z, ps, (hs.2 188 (hne 188 _ _ a rfl)).trans a, b, fun e he cv ec => ⟨(d e he cv ec).1, ?_⟩⟩
  obtain ⟨c', o, vs, t, e1, e2, e3, e4⟩ := (d e he cv ec).2
  exact ⟨c', o, vs, t, e1, (hs.2 c' (hne c' _ _ e2 e3)).trans e2, e3, e4⟩

abbrev envM (L : Nat) : Env := envOfC "_make_iterencode" (scopeS mkDef) L 193 (.ref 192)
abbrev csM (L : Nat) : List (Str × Addr) := cellsFrom (L + 1) (scopeS mkDef).names []

structure Mk (B : Heap) (hid : List Nat) (L : Nat) (s : Shared) (m cm : Str → Option Value) : Prop where
  fr : Fr B L s.heap m
  cl : Cl L (csM L) s.heap cm
  tab : TabI hid s.heap
  sz : L + 15 < s.heap.objs.size
  hlt : ∀ c ∈ hid, c < L

section
variable {w : World} {M : Model} {A : Around} {E : Value → Shared → Prop} {s : Shared} {B : Heap} {hid : List Nat} {L : Nat} {m cm mg : Str → Option Value} {Q : Flow → Shared → Prop}

theorem Mk.store {x : Str} {c : Addr} {v : Value} {h' : Heap} {tk : Nat} (X : Mk B hid L s m cm) (hc : (csM L).lookup x = some c) (hv : h'.IsCell c (some v)) (hs : Heap.SameBut c s.heap h') : Mk B hid L { s with heap := h', toks := tk } m (fun y => if y = x then some v else cm y) := by
  have hLc : L < c := X.cl.above x c (mem_of_lookup hc)
  refine ⟨⟨X.fr.ns.sameBut hs (Nat.ne_of_lt hLc), fun b o e => (hs.2 b (Nat.ne_of_lt (Nat.lt_trans (Nat.lt_of_lt_of_le (Heap.lt_size e) X.fr.above) hLc))).trans (X.fr.keep b o e), X.fr.above⟩, ⟨fun n c' e => ?_, X.cl.apart, X.cl.above⟩, X.tab.cell (X.cl.cell x c hc) hs, ?_, X.hlt⟩
  · by_cases hn : n = x
    · subst hn
      rw [hc] at e; cases e
      simpa using hv
    · have hcc : c' ≠ c := fun q => hn (name_of_addr X.cl.apart (mem_of_lookup e) (q ▸ mem_of_lookup hc))
      simpa [hn] using (X.cl.cell n c' e).sameBut hs hcc
  · show L + 15 < h'.objs.size
    rw [hs.1]; exact X.sz

theorem Mk.grow {h' : Heap} {tk : Nat} (X : Mk B hid L s m cm) (hn : B.get? 188 = none) (hx : Heap.ExtBut 188 s.heap h') (ht : TabI hid h') (hsz : s.heap.objs.size ≤ h'.objs.size) : Mk B hid L { s with heap := h', toks := tk } m cm := by
  have h1 : (188 : Nat) < L := X.hlt 188 X.tab.1
  exact ⟨⟨X.fr.ns.extBut hx (neN (by omega)), fun b o e => hx b o (fun q => by rw [q, hn] at e; cases e) (X.fr.keep b o e), X.fr.above⟩, X.cl.extBut hx (Nat.le_of_lt h1), ht, Nat.lt_of_lt_of_le X.sz hsz, X.hlt⟩

theorem mk_def {nm qual : Str} {params : Arguments} {body : List Stmt} {scope : Scope} {pos : Pos} {clos : List (Str × Addr)} {c : Addr} (X : Mk B hid L s m cm) (hn : B.get? 188 = none) (C : CodeHd B 192 188) (g : B.Ns mainGlobals mg) (hb : B.BuiltinsAt mg 188)
    (hd0 : params.defaults = []) (hk0 : params.kw_defaults = []) (ha : annTrees params none (envM L) = []) (hq : qualnameIn (envM L) nm nm = qual) (hcl : closureFor scope (envM L) = pure clos) (hm : (pos, qual) ∈ mkDefs)
    (hc : (csM L).lookup nm = some c) (hc15 : (c : Nat) ≤ L + 15) (hkn : (envM L).kindOf nm = some .cell)
    (h : ∀ f cv ctv doc pm h' tk, Mk B hid L { s with heap := h', toks := tk } m (fun y => if y = nm then some (.ref f) else cm y) → (∀ (b : Nat) o, b ≠ 188 → (∀ v, o.data ≠ .cell v) → s.heap.get? b = some o → h'.get? b = some o) → (L + 15 < f) →
      h'.get? f = some { cls := .type "function", data := .func (fnX nm qual params body scope clos .none .none doc pm none cv ctv) } → h'.CodeRec cv qual → (∀ c ∈ hid, cv ≠ .ref c) → Q .next { s with heap := h', toks := tk }) :
    wpAny M A (exec (.FunctionDef nm params body [] none [] scope none nm pos) (envM L)) Q E s := by
  have h1 : (188 : Nat) < L := X.hlt 188 X.tab.1
  refine nestDef_K hd0 hk0 ha ?_
  rw [hq]
  refine mkfn (hid := hid) hcl rfl (g.keeps X.fr.keep) rfl (C.keeps X.fr.keep) X.tab hm (hb.keeps X.fr.keep) (fun c hc => Nat.lt_trans (X.hlt c hc) (by have := X.sz; omega)) fun cv ctv doc pm f h' tk hx hf hsz hfo hrec ht hcv => ?_
  have X1 := X.grow (tk := tk) hn hx ht hsz
  refine wpAny_storeName_cell rfl hkn hc (X1.cl.cell _ _ hc) fun h₂ hv hs => ?_
  have hLf : L + 15 < f := Nat.lt_of_lt_of_le X.sz hf
  obtain ⟨oc, q1, q2⟩ := X1.cl.cell _ _ hc
  have hk : ∀ (b : Nat) o, (∀ v, o.data ≠ .cell v) → h'.get? b = some o → h₂.get? b = some o := fun b o hd e => (hs.2 b (fun q => by subst q; rw [e] at q1; cases q1; exact hd _ q2)).trans e
  refine h f cv ctv doc pm h₂ tk (X1.store (tk := tk) hc hv hs) (fun b o hb hd e => hk b o hd (hx b o hb e)) hLf (hk f _ (fun v q => by cases q) hfo) ?_ hcv
  obtain ⟨c', o, vs, t, e1, e2, e3, e4⟩ := hrec
  exact ⟨c', o, vs, t, e1, hk c' o (fun v q => by rw [e3] at q; cases q) e2, e3, e4⟩
end
end Mine
end

/- part E4 -/
section
open PySem PySem.W PyProof PyProof.Rows PySem.W.X
set_option maxRecDepth 100000
namespace Mine

theorem cell_kinds {scope : Scope} {binds : List (Str × Value)} {n : Nat} (h : (binds.all fun x => decide (scope.names.lookup x.1 = some .local) || (decide (scope.names.lookup x.1 = some .cell) && ((cellsFrom n scope.names []).lookup x.1).isSome)) = true) :
    ∀ x ∈ binds, scope.names.lookup x.1 = some .local ∨ (scope.names.lookup x.1 = some .cell ∧ ((cellsFrom n scope.names []).lookup x.1).isSome = true) := fun x hx => by
  have := List.all_eq_true.mp h x hx
  simpa using this

structure EncBase (B : Heap) (mg mb : Str → Option Value) : Prop where
  g : B.Ns mainGlobals mg
  b : B.Ns builtinsNs mb
  bt : ∀ x : Str, x ≠ "__name__" → mb x = bootBuiltins x
  nolimit : B.NoLimit
  nG : ∀ x ∈ (["isinstance", "str", "bool", "int", "list", "ValueError"] : List Str), mg x = none
  gO : mg "is_open" = some (.ref 143)
  gR : mg "RawJSON" = some (.ref 55)
  gS : mg "string_types" = some (.type "str")
  gT : mg "integer_types" = some (.type "int")
  raw : ∃ d cd sl, B.get? 55 = some (clsObj d cd sl)
  isOpen : ∃ o pm cd doc, B.get? 143 = some o ∧ o.data = .func (openFd pm cd doc) ∧ B.CodeRec cd "is_open"

section
variable {prog : Program} {w : World} {A : Around} {E : Value → Shared → Prop} {s : Shared} {B₀ : Heap} {hid : List Nat} {mg mb : Str → Option Value} {Q : Value → Shared → Prop}
theorem make_obj (K : (hd.heap_39 w.params).In s.heap) : ∃ o pm doc, s.heap.get? 193 = some o ∧ o.data = .func (Calls.docDef "_make_iterencode" (argsS mkDef) (bodyS mkDef) (scopeS mkDef) pm (.ref 192) doc) :=
  ⟨_, _, _, K 193 _ rfl, by rfl⟩
theorem make_code (K : (hd.heap_39 w.params).In s.heap) : s.heap.CodeRec (.ref 192) "_make_iterencode" :=
  ⟨192, _, _, _, rfl, K 192 _ rfl, rfl, by rfl⟩
theorem make_tab {h : Heap} (K : (hd.heap_39 w.params).In h) : CodeHd h 192 188 := codeHd_of_K K (by kernel_rfl)
def closOf (sc : Scope) (L : Nat) : List (Str × Addr) := ((sc.names.filter fun x => x.2 == .free).map fun x => (x.1, ((csM L).lookup x.1).getD 0)).reverse
theorem clos_int {L : Nat} : closureFor (scopeS intDef) (envM L) = pure (closOf (scopeS intDef) L) := by rfl
theorem clos_list {L : Nat} : closureFor (scopeS listDef) (envM L) = pure (closOf (scopeS listDef) L) := by rfl
theorem clos_key {L : Nat} : closureFor (scopeS keyDef) (envM L) = pure (closOf (scopeS keyDef) L) := by rfl
theorem clos_dict {L : Nat} : closureFor (scopeS dictDef) (envM L) = pure (closOf (scopeS dictDef) L) := by rfl
theorem clos_iter {L : Nat} : closureFor (scopeS iterDef) (envM L) = pure (closOf (scopeS iterDef) L) := by rfl

def FnI (f : Addr) (cv : Value) (nm qual : Str) (d : Stmt) (L : Nat) (h : Heap) : Prop := (∃ o doc pm ct, h.get? f = some o ∧ o.data = .func (fnX nm qual (argsS d) (bodyS d) (scopeS d) (closOf (scopeS d) L) .none .none doc pm none cv ct)) ∧ h.CodeRec cv qual
abbrev mkBinds (vm v1 v2 v4 v5 v7 v8 v10 : Value) : List (Str × Value) := [("markers", vm), ("_default", v1), ("_encoder", v2), ("_indent", .none), ("_key_separator", v4), ("_item_separator", v5), ("_sort_keys", .bool false), ("_skipkeys", v7), ("_tuple_as_array", v8), ("_int_as_string_bitcount", .none), ("_item_sort_key", v10)]

set_option maxHeartbeats 4000000 in
theorem make_body {B : Heap} {L : Nat} {m cm : Str → Option Value} {Q : Flow → Shared → Prop} (X : Mk B hid L s m cm) (hn : B.get? 188 = none) (K : (hd.heap_39 w.params).In B) (g : B.Ns mainGlobals mg) (hb : B.BuiltinsAt mg 188)
    (h6 : m "_sort_keys" = some (.bool false)) (h9 : cm "_int_as_string_bitcount" = some .none)
    (h : ∀ f1 c1 f2 c2 f3 f4 f5 c5 h' tk, Mk B hid L { s with heap := h', toks := tk } m (fun y => if y = "_iterencode" then some (.ref f5) else if y = "_iterencode_dict" then some (.ref f4) else if y = "_stringify_key" then some (.ref f3) else if y = "_iterencode_list" then some (.ref f2) else if y = "_encode_int" then some (.ref f1) else cm y) →
      FnI f1 c1 "_encode_int" "_make_iterencode.<locals>._encode_int" intDef L (hideAll h' hid) → FnI f2 c2 "_iterencode_list" "_make_iterencode.<locals>._iterencode_list" listDef L (hideAll h' hid) → FnI f5 c5 "_iterencode" "_make_iterencode.<locals>._iterencode" iterDef L (hideAll h' hid) →
      Q (.ret (.ref f5)) { s with heap := h', toks := tk }) :
    wpAny (model prog w) A (execs (bodyS mkDef) (envM L)) Q E s := by
  have C : CodeHd B 192 188 := make_tab (w := w) K
  refine wpAny_execs_cons (wpAny_If (wpAny_isTrue_BoolOp (wpAny_allTrue_And_cons (wpAny_isTrue_value (ldLoc X.fr h6 (wpAny_truthy_bool ?_))))))
  refine ite_f rfl (ite_f rfl (wpAny_execs_nil ?_))
  refine wpAny_execs_cons (wpAny_If (wpAny_isTrue_BoolOp (wpAny_allTrue_And_cons (wpAny_isTrue_Compare1 (ldC X.cl (c := L + 9) (by kernel_rfl) h9 (wpAny_Constant_none (isnot_none_none (wpAny_truthy_bool ?_))))))))
  refine ite_f rfl (ite_f rfl (wpAny_execs_nil ?_))
  refine wpAny_execs_cons (mk_def (qual := "_make_iterencode.<locals>._encode_int") (c := L + 11) X hn C g hb rfl rfl rfl (by kernel_rfl) clos_int (.head _) (by kernel_rfl) (by show L + 11 ≤ L + 15; omega) (by kernel_rfl) fun f1 c1 ct1 d1 pm1 h1 tk1 X1 k1 l1 o1 r1 n1 => ?_)
  refine wpAny_execs_cons (mk_def (qual := "_make_iterencode.<locals>._iterencode_list") (c := L + 14) X1 hn C g hb rfl rfl rfl (by kernel_rfl) clos_list (.tail _ (.head _)) (by kernel_rfl) (by show L + 14 ≤ L + 15; omega) (by kernel_rfl) fun f2 c2 ct2 d2 pm2 h2 tk2 X2 k2 l2 o2 r2 n2 => ?_)
  refine wpAny_execs_cons (mk_def (qual := "_make_iterencode.<locals>._stringify_key") (c := L + 15) X2 hn C g hb rfl rfl rfl (by kernel_rfl) clos_key (.tail _ (.tail _ (.head _))) (by kernel_rfl) (by show L + 15 ≤ L + 15; omega) (by kernel_rfl) fun f3 c3 ct3 d3 pm3 h3 tk3 X3 k3 l3 o3 r3 n3 => ?_)
  refine wpAny_execs_cons (mk_def (qual := "_make_iterencode.<locals>._iterencode_dict") (c := L + 13) X3 hn C g hb rfl rfl rfl (by kernel_rfl) clos_dict (.tail _ (.tail _ (.tail _ (.head _)))) (by kernel_rfl) (by show L + 13 ≤ L + 15; omega) (by kernel_rfl) fun f4 c4 ct4 d4 pm4 h4 tk4 X4 k4 l4 o4 r4 n4 => ?_)
  refine wpAny_execs_cons (mk_def (qual := "_make_iterencode.<locals>._iterencode") (c := L + 12) X4 hn C g hb rfl rfl rfl (by kernel_rfl) clos_iter (.tail _ (.tail _ (.tail _ (.tail _ (.head _))))) (by kernel_rfl) (by show L + 12 ≤ L + 15; omega) (by kernel_rfl) fun f5 c5 ct5 d5 pm5 h5 tk5 X5 k5 l5 o5 r5 n5 => ?_)
  refine wpAny_execs_cons (wpAny_Return_some (ldC X5.cl (c := L + 12) (by kernel_rfl) (v := .ref f5) (by rfl) ?_))
  have hh : ∀ (f : Nat), L + 15 < f → f ∉ hid := fun f hf q => by have := X.hlt f q; omega
  have n188 : ∀ (f : Nat), L + 15 < f → f ≠ 188 := fun f hf q => hh f hf (q ▸ X.tab.1)
  have fin : ∀ {h : Heap} {f : Nat} {cv ct doc pm : Value} {nm qual : Str} {d : Stmt}, (∀ (b : Nat) o, b ≠ 188 → (∀ v, o.data ≠ .cell v) → h.get? b = some o → h5.get? b = some o) → L + 15 < f →
      h.get? f = some { cls := .type "function", data := .func (fnX nm qual (argsS d) (bodyS d) (scopeS d) (closOf (scopeS d) L) .none .none doc pm none cv ct) } → h.CodeRec cv qual → (∀ c ∈ hid, cv ≠ .ref c) → FnI f cv nm qual d L (hideAll h5 hid) :=
    fun k hf e r n => ⟨⟨_, _, _, _, hideAll_get _ (k _ _ (n188 _ hf) (fun v q => by cases q) e) (hh _ hf), rfl⟩,
      let ⟨c, o, vs, t, e1, e2, e3, e4⟩ := r
      ⟨c, o, vs, t, e1, hideAll_get _ (k c o (fun q => n 188 X.tab.1 (by rw [e1, q])) (fun v q => by rw [e3] at q; cases q) e2) (fun q => n c q e1), e3, e4⟩⟩
  exact h f1 c1 f2 c2 f3 f4 f5 c5 h5 tk5 X5 (fin (fun b o a c e => k5 b o a c (k4 b o a c (k3 b o a c (k2 b o a c e)))) l1 o1 r1 n1) (fin (fun b o a c e => k5 b o a c (k4 b o a c (k3 b o a c e))) l2 o2 r2 n2) (fin (fun b o a c e => e) l5 o5 r5 n5)

theorem call_make {vm v1 v2 v4 v7 v8 v10 : Value} {t5 : Tok} (hroom : A.depth < recursionLimit) (K : (hd.heap_39 w.params).In s.heap) (G : s.heap.Ns mainGlobals mg) (hb : s.heap.BuiltinsAt mg 188) (lim : s.heap.NoLimit) (T : TabI hid s.heap) (hlt : ∀ c ∈ hid, c < s.heap.objs.size)
    (hB : ∀ (b : Nat) o, B₀.get? b = some o → b ∉ hid ∧ s.heap.get? b = some o) (Bs : EncBase B₀ mg mb)
    (h : ∀ (D : EncD) h' tk, Heap.ExtBut 188 s.heap h' → s.heap.objs.size ≤ h'.objs.size → TabI hid h' → D.marks = vm → D.In (hideAll h' hid) → Q (.ref D.fT) { s with heap := h', toks := tk }) :
    wpAny (model prog w) A (call (.ref 193) [vm, v1, v2, .none, v4, .str ", " t5, .bool false, v7, v8, .none, v10]) Q E s := by
  obtain ⟨o, pm, doc, ho, hdat⟩ := make_obj (w := w) K
  refine wpAny_call (call_cells (binds := mkBinds vm v1 v2 v4 (.str ", " t5) v7 v8 v10) hroom ho hdat lim (make_code (w := w) K) rfl (cell_kinds (by kernel_rfl)) (fun h₁ tk F X => ?_))
  generalize hL : s.heap.objs.size = L at F X ⊢
  have h188 : (188 : Nat) < L := hL ▸ hlt 188 T.1
  have hBget : ∀ (b : Nat) o, b ≠ 188 → s.heap.get? b = some o → (hideAll s.heap [188]).get? b = some o := fun b o n e => hideAll_get _ e (fun q => n (List.mem_singleton.mp q))
  have hn : (hideAll s.heap [188]).get? 188 = none := hideAll_none _ (.head _)
  have K' : (hd.heap_39 w.params).In (hideAll s.heap [188]) := fun a o e => hBget a o (fun q => by subst q; cases e) (K a o e)
  have X0 : Mk (hideAll s.heap [188]) hid L { s with heap := h₁, toks := tk } _ _ :=
    ⟨⟨F.ns, fun b o e => F.keep b o (of_hideAll _ e), by rw [hideAll_size]; exact Nat.le_of_eq hL⟩, X, T.keeps F.keep, ?_, hL ▸ hlt⟩
  rotate_left
  · obtain ⟨oc, e, _⟩ := X.cell "_stringify_key" (L + 15) (by kernel_rfl)
    exact Heap.lt_size e
  have hb' : (hideAll s.heap [188]).BuiltinsAt mg 188 := by
    obtain ⟨bm, ob, b1, b2, b3, b4, b5, b6⟩ := hb
    exact ⟨bm, ob, b1, b2, b3, b4, hBget _ _ b4 b5, b6⟩
  have g' : (hideAll s.heap [188]).Ns mainGlobals mg := by
    obtain ⟨og, es, ep, e, r⟩ := G
    exact ⟨og, es, ep, hBget _ _ (by decide) e, r⟩
  refine make_body X0 hn K' g' hb' (by rfl) (by rfl) fun f1 c1 f2 c2 f3 f4 f5 c5 h' tk' X5 i1 i2 i5 => ?_
  have hx : Heap.ExtBut 188 s.heap h' := fun b o n e => X5.fr.keep b o (hBget b o n e)
  have kN : ∀ (b : Nat) o, B₀.get? b = some o → (hideAll h' hid).get? b = some o := fun b o e => hideAll_get _ (hx b o (fun q => (hB b o e).1 (q ▸ T.1)) (hB b o e).2) (hB b o e).1
  have cN : ∀ n c v, (csM L).lookup n = some c → (if n = "_iterencode" then some (Value.ref f5) else if n = "_iterencode_dict" then some (.ref f4) else if n = "_stringify_key" then some (.ref f3) else if n = "_iterencode_list" then some (.ref f2) else if n = "_encode_int" then some (.ref f1) else bindC (envM L).kindOf (mkBinds vm v1 v2 v4 (.str ", " t5) v7 v8 v10) (fun _ => none) n) = some v → (hideAll h' hid).IsCell c (some v) := fun n c v e ev => by
    have z := X5.cl.cell n c e
    rw [ev] at z
    obtain ⟨oc, z1, z2⟩ := z
    exact ⟨oc, hideAll_get _ z1 (fun q => Nat.lt_asymm (X5.hlt c q) (X5.cl.above n c (mem_of_lookup e))), z2⟩
  refine h { mg := mg, mb := mb, fI := f1, cdI := c1, clI := closOf (scopeS intDef) L, qI := "_make_iterencode.<locals>._encode_int", fL := f2, cdL := c2, clL := closOf (scopeS listDef) L, qL := "_make_iterencode.<locals>._iterencode_list", fT := f5, cdT := c5, clT := closOf (scopeS iterDef) L, qT := "_make_iterencode.<locals>._iterencode", aO := 143, aR := 55, marks := vm } h' tk' hx (by rw [hL]; exact Nat.le_of_lt (Nat.lt_of_le_of_lt (Nat.le_add_right _ 15) X5.sz)) X5.tab rfl ?_
  obtain ⟨rd, rcd, rsl, hraw⟩ := Bs.raw
  obtain ⟨oo, opm, ocd, odoc, ho1, ho2, ho3⟩ := Bs.isOpen
  exact { g := Bs.g.keeps kN, b := Bs.b.keeps kN, bt := Bs.bt, nolimit := Bs.nolimit.keeps kN, nG := Bs.nG, gO := Bs.gO, gR := Bs.gR, gS := Bs.gS, gT := Bs.gT, raw := ⟨rd, rcd, rsl, kN _ _ hraw⟩, isOpen := ⟨oo, opm, ocd, odoc, kN _ _ ho1, ho2, ho3.keeps kN⟩,
          fnI := i1.1, recI := i1.2, bitsI := ⟨L + 9, by kernel_rfl, cN "_int_as_string_bitcount" _ _ (by kernel_rfl) (by rfl)⟩,
          fnL := i2.1, recL := i2.2, markL := ⟨L + 1, by kernel_rfl, cN "markers" _ _ (by kernel_rfl) (by rfl)⟩, indL := ⟨L + 4, by kernel_rfl, cN "_indent" _ _ (by kernel_rfl) (by rfl)⟩, sepL := ⟨L + 6, t5, by kernel_rfl, cN "_item_separator" _ _ (by kernel_rfl) (by rfl)⟩,
          intL := ⟨L + 11, by kernel_rfl, cN "_encode_int" _ _ (by kernel_rfl) (by rfl)⟩, lstL := ⟨L + 14, by kernel_rfl, cN "_iterencode_list" _ _ (by kernel_rfl) (by rfl)⟩,
          fnT := i5.1, recT := i5.2, lstT := ⟨L + 14, by kernel_rfl, cN "_iterencode_list" _ _ (by kernel_rfl) (by rfl)⟩ }
end
end Mine
end

/- part E5 -/
section
open PySem PySem.W PyProof PyProof.Rows PySem.W.X
set_option maxRecDepth 100000
namespace Mine

def itDef : Stmt := nthS 5 (bodyS (nthS 12 topB))
abbrev envI (L : Nat) : Env := envX "JSONEncoder.iterencode" (scopeS itDef) L 129 (.ref 128) []
noncomputable abbrev encObj (P : Params) (cc : Bool) (t : Nat) : Obj := ⟨.type "dict", none, .dict (encEs P cc t) 10, #[]⟩

def Gen0 (s : Shared) (hid : List Nat) (cc : Bool) (lst : Addr) (v : Value) (s' : Shared) : Prop :=
  ∃ (D : EncD) (mkA : Option Addr) (B : Heap) (b : Nat) (m : Str → Option Value), v = .ref (b + 1) ∧ mkA.isSome = cc ∧ (D.marks = match mkA with | none => .none | some M => .ref M) ∧ D.In B ∧ Fr B b s'.heap m ∧ m "o" = some (.ref lst) ∧
    (∃ i t, m "_current_indent_level" = some (.int i t)) ∧ s'.heap.IsGen (b + 1) s.gens.size ∧ s'.gens = s.gens.push (.fresh (.func (bodyS iterDef) (envT D b))) ∧ s'.os = s.os ∧ s'.drawn = s.drawn ∧
    (∀ (M : Nat), mkA = some M → s.heap.objs.size ≤ M ∧ M < b ∧ B.get? M = none ∧ ∃ k, s'.heap.get? M = some (lsObj #[] k)) ∧ (∀ a ∈ hid, B.get? a = none) ∧ (∀ (a : Nat) o, a ∉ hid → s.heap.get? a = some o → B.get? a = some o) ∧
    Heap.ExtBut 188 s.heap s'.heap ∧ TabI hid s'.heap ∧ TabB B s'.heap ∧ s.heap.objs.size ≤ b

section
variable {prog : Program} {w : World} {A : Around} {E : Value → Shared → Prop} {s : Shared} {B : Heap} {L x d : Addr} {m : Str → Option Value} {cc : Bool} {t : Nat}
theorem at_val {Q : Value → Shared → Prop} {name : Str} {v : Value} {p pos : Pos} (F : Fr B L s.heap m) (K : (hd.heap_39 w.params).In B) (hv : m "self" = some (.ref x)) (hx : B.get? x = some ⟨.ref 132, some d, .plain, #[]⟩) (hdd : B.get? d = some (encObj w.params cc t))
    (hf : findObj (hd.heap_39 w.params) 132 (some (encObj w.params cc t)) name = some (.value v)) (hh : handedIn v = true) (h : Q v { s with toks := s.toks + 1 }) :
    wpAny (model prog w) A (eval (.Attribute (.Name "self" p) name pos) (envI L)) Q E s :=
  Attribute_Name_ (nameX_L F hv (get_value (ox := ⟨.ref 132, some d, .plain, #[]⟩) (od := some (encObj w.params cc t)) (K.keeps F.keep) ⟨F.keep _ _ hx, rfl, rfl, F.keep _ _ hdd⟩ (by kernel_rfl) hf hh h))
theorem at_def {Q : Value → Shared → Prop} {p pos : Pos} (F : Fr B L s.heap m) (K : (hd.heap_39 w.params).In B) (hv : m "self" = some (.ref x)) (hx : B.get? x = some ⟨.ref 132, some d, .plain, #[]⟩) (hdd : B.get? d = some (encObj w.params cc t))
    (h : ∀ v o tk, Q v { s with heap := s.heap.push o, toks := tk }) :
    wpAny (model prog w) A (eval (.Attribute (.Name "self" p) "default" pos) (envI L)) Q E s :=
  Attribute_Name_ (nameX_L F hv (get_bind (ox := ⟨.ref 132, some d, .plain, #[]⟩) (od := some (encObj w.params cc t)) (g := .builtin "function.__get__") (a := .ref 115) (K.keeps F.keep) ⟨F.keep _ _ hx, rfl, rfl, F.keep _ _ hdd⟩ (by kernel_rfl) (by kernel_rfl) (by kernel_rfl)
    (wpAny_call (fn_get (s := { s with toks := s.toks + 1 }) (K.keeps F.keep) (by kernel_rfl) (handed_on rfl (h _ _ _))))))
end
end Mine
end

/- part E6 -/
section
open PySem PySem.W PyProof PyProof.Rows PySem.W.X
set_option maxRecDepth 100000
namespace Mine

structure It (B : Heap) (L : Nat) (s₀ s : Shared) (m : Str → Option Value) : Prop where
  fr : Fr B L s.heap m
  keep : ∀ (a : Nat) o, a ≠ L → s₀.heap.get? a = some o → s.heap.get? a = some o
  sz : s₀.heap.objs.size ≤ s.heap.objs.size
  gens : s.gens = s₀.gens
  os : s.os = s₀.os
  drawn : s.drawn = s₀.drawn
section
variable {B : Heap} {L : Nat} {s₀ s : Shared} {m : Str → Option Value}
theorem It.grow {h' : Heap} {tk : Nat} (X : It B L s₀ s m) (k : ∀ b o, s.heap.get? b = some o → h'.get? b = some o) (sz : s.heap.objs.size ≤ h'.objs.size) : It B L s₀ { s with heap := h', toks := tk } m :=
  ⟨⟨X.fr.ns.keeps k, fun b o e => k b o (X.fr.keep b o e), X.fr.above⟩, fun a o n e => k a o (X.keep a o n e), Nat.le_trans X.sz sz, X.gens, X.os, X.drawn⟩
theorem It.toks {tk : Nat} (X : It B L s₀ s m) : It B L s₀ { s with toks := tk } m := ⟨X.fr, X.keep, X.sz, X.gens, X.os, X.drawn⟩
theorem It.push {tk : Nat} {o : Obj} (X : It B L s₀ s m) : It B L s₀ { s with heap := s.heap.push o, toks := tk } m :=
  X.grow (fun _ _ e => Heap.get?_push_of_some _ e) (by rw [Heap.size_push]; omega)
theorem It.store {h' : Heap} {tk : Nat} {m' : Str → Option Value} (X : It B L s₀ s m) (hn : h'.Ns L m') (hs : Heap.SameBut L s.heap h') : It B L s₀ { s with heap := h', toks := tk } m' :=
  ⟨X.fr.set hn hs, fun a o n e => (hs.2 a n).trans (X.keep a o n e), by show _ ≤ h'.objs.size; rw [hs.1]; exact X.sz, X.gens, X.os, X.drawn⟩
theorem It.tab {hid : List Nat} (X : It B L s₀ s m) (T : TabI hid s₀.heap) (hL : L ∈ hid) (h188 : 188 < L) : TabI hid s.heap :=
  T.on (fun b o n e => X.keep b o (fun q => n (q ▸ hL)) e) (let ⟨_, _, a, _⟩ := T; (X.keep 188 _ (neN (by omega)) a).trans a.symm)
end

section
variable {prog : Program} {w : World} {A : Around} {E : Value → Shared → Prop} {s₀ s : Shared} {B B₀ : Heap} {hid : List Nat} {mg mb : Str → Option Value} {L x d lst : Nat} {m : Str → Option Value} {cc : Bool} {t : Nat}

/-- what `iterencode` leaves -/
structure ItEnd (B' : Heap) (hid : List Nat) (L : Nat) (D : EncD) (b : Nat) (lst : Nat) (s s' : Shared) (m : Str → Option Value) : Prop where
  enc : D.In B'
  fr : Fr B' b s'.heap m
  o : m "o" = some (.ref lst)
  lvl : ∃ i t, m "_current_indent_level" = some (.int i t)
  gob : s'.heap.IsGen (b + 1) s.gens.size
  gens : s'.gens = s.gens.push (.fresh (.func (bodyS iterDef) (envT D b)))
  os : s'.os = s.os
  drawn : s'.drawn = s.drawn
  sub : ∀ (a : Nat) o, a ∉ hid → s.heap.get? a = some o → B'.get? a = some o
  hide : ∀ a ∈ hid, B'.get? a = none
  keep : ∀ (a : Nat) o, a ≠ 188 → a ≠ L → s.heap.get? a = some o → s'.heap.get? a = some o
  tab : TabI hid s'.heap
  low : s.heap.objs.size ≤ b

/-- the last statement's value: `_iterencode(o, 0)` -/
theorem it_gen {Q : Value → Shared → Prop} {D : EncD} {h₀ : Heap} {p1 p2 p3 p4 : Pos} {k4 : Nat} (hroom : A.depth < recursionLimit) (hI : D.In (hideAll h₀ hid)) (F : Fr B L s.heap m) (hlo : m "o" = some (.ref lst)) (hit : m "_iterencode" = some (.ref D.fT))
    (hk : ∀ (a : Nat) o, a ≠ L → h₀.get? a = some o → s.heap.get? a = some o) (hsz : h₀.objs.size ≤ s.heap.objs.size) (T : TabI hid s.heap) (hL : L ∈ hid)
    (h : ∀ b s' m', D.In (hideAll h₀ hid) → Fr (hideAll h₀ hid) b s'.heap m' → m' "o" = some (.ref lst) → (∃ i t, m' "_current_indent_level" = some (.int i t)) → s'.heap.IsGen (b + 1) s.gens.size → s'.gens = s.gens.push (.fresh (.func (bodyS iterDef) (envT D b))) → s'.os = s.os → s'.drawn = s.drawn →
      (∀ (a : Nat) o, s.heap.get? a = some o → s'.heap.get? a = some o) → TabI hid s'.heap → s.heap.objs.size ≤ b → Q (.ref (b + 1)) s') :
    wpAny (model prog w) A (eval (.Call (.Name "_iterencode" p1) [.Name "o" p2, .Constant (.int 0) k4 p3] [] p4) (envI L)) Q E s := by
  have kB : ∀ (a : Nat) o, (hideAll h₀ hid).get? a = some o → s.heap.get? a = some o := fun a o e => hk a o (fun q => by rw [q, hideAll_none hid hL] at e; cases e) (of_hideAll _ e)
  obtain ⟨oT, doc, pm, ct, hoT, hdT⟩ := hI.fnT
  refine call_f (o := oT) (nameX_L F hit ⟨rfl, args2 (nameX_L F hlo (wpAny_Constant_int ⟨⟨kB _ _ hoT, hdT⟩, wpAny_call (codeAny_call_generator hroom (kB _ _ hoT) hdT rfl rfl rfl (hI.recT.keeps kB) ?_)⟩))⟩)
  refine BindsTo.of_eq (binds := [("o", Value.ref lst), ("_current_indent_level", Value.int 0 _)]) rfl _ _ _ _ ?_
  refine wpAny_newFunctionEnv (show ∀ x ∈ (scopeS iterDef).names, x.2 ≠ .cell from by decide +kernel) (locs (by kernel_rfl)) (fun h₂ hn₂ hs₂ => ?_)
  have k₂ : ∀ (a : Nat) o, s.heap.get? a = some o → h₂.get? a = some o := fun a o e => (hs₂.2 a (Nat.ne_of_lt (Heap.lt_size e))).trans (Heap.get?_push_of_some _ e)
  have hsz₂ : h₂.objs.size = s.heap.objs.size + 1 := hs₂.1.trans (Heap.size_push ..)
  refine ⟨hI.nolimit.keeps fun a o e => k₂ a o (kB a o e), ?_⟩
  show Q (.ref h₂.objs.size) _
  rw [hsz₂]
  refine h s.heap.objs.size _ _ hI ⟨hn₂.push _, fun a o e => Heap.get?_push_of_some _ (k₂ a o (kB a o e)), by rw [hideAll_size]; exact hsz⟩ (by rfl) ⟨_, _, by rfl⟩ ?_ rfl rfl rfl (fun a o e => Heap.get?_push_of_some _ (k₂ a o e)) (T.keeps fun a o e => Heap.get?_push_of_some _ (k₂ a o e)) (Nat.le_refl _)
  rw [← hsz₂]
  exact ⟨_, _, _, Heap.get?_push_size _ rfl, rfl, rfl, rfl⟩
end
end Mine
end

/- part E7 -/
section
open PySem PySem.W PyProof PyProof.Rows PySem.W.X
set_option maxRecDepth 100000
namespace Mine
section
variable {prog : Program} {w : World} {A : Around} {E : Value → Shared → Prop} {s₀ s : Shared} {B B₀ : Heap} {hid : List Nat} {mg mb : Str → Option Value} {L x d lst : Nat} {m : Str → Option Value} {cc : Bool} {t : Nat}

set_option maxHeartbeats 4000000 in
theorem it_rest2 {Q : Flow → Shared → Prop} {vm vE : Value} (F : Fr B L s.heap m) (K : (hd.heap_39 w.params).In B) (g : B.Ns mainGlobals mg) (hb : B.BuiltinsAt mg 188) (lim : B.NoLimit) (gM : mg "_make_iterencode" = some (.ref 193))
    (hB : ∀ (b : Nat) o, B₀.get? b = some o → b ∉ hid ∧ B.get? b = some o) (Bs : EncBase B₀ mg mb) (T : TabI hid s.heap) (hL : L ∈ hid) (h188 : 188 < L) (hlt : ∀ c ∈ hid, c < s.heap.objs.size) (hroom : A.depth < recursionLimit)
    (hv : m "self" = some (.ref x)) (hx : B.get? x = some ⟨.ref 132, some d, .plain, #[]⟩) (hdd : B.get? d = some (encObj w.params cc t)) (hlo : m "o" = some (.ref lst)) (hmk : m "markers" = some vm) (hen : m "_encoder" = some vE) (hbc : m "int_as_string_bitcount" = some .none)
    (h : ∀ D B' b s' m', D.In B' → D.marks = vm → Fr B' b s'.heap m' → m' "o" = some (.ref lst) → (∃ i t, m' "_current_indent_level" = some (.int i t)) → s'.heap.IsGen (b + 1) s.gens.size → s'.gens = s.gens.push (.fresh (.func (bodyS iterDef) (envT D b))) → s'.os = s.os → s'.drawn = s.drawn →
      (∀ (a : Nat) o, a ∉ hid → s.heap.get? a = some o → B'.get? a = some o) → (∀ a ∈ hid, B'.get? a = none) → (∀ (a : Nat) o, a ≠ 188 → a ≠ L → s.heap.get? a = some o → s'.heap.get? a = some o) → TabI hid s'.heap → TabB B' s'.heap → s.heap.objs.size ≤ b → Q (.ret (.ref (b + 1))) s') :
    wpAny (model prog w) A (execs (List.drop 3 (bodyS itDef)) (envI L)) Q E s := by
  have X2 : It B L s s m := ⟨F, fun _ _ _ e => e, Nat.le_refl _, rfl, rfl, rfl⟩
  obtain ⟨om, pmm, docm, hom, hdm⟩ := make_obj (w := w) (s := { s with heap := B }) K
  refine wpAny_execs_cons (wpAny_Assign_Name (call_f (a := 193) (o := om) (fd := Calls.docDef "_make_iterencode" (argsS mkDef) (bodyS mkDef) (scopeS mkDef) pmm (.ref 192) docm) (nm_G X2.fr g gM ⟨rfl, ?_⟩)))
  refine wpAny_items_cons (nameX_L X2.fr (v := vm) hmk ?_)
  refine wpAny_items_cons (at_def X2.fr K hv hx hdd fun v1 o1 tk1 => ?_)
  have X3 := X2.push (tk := tk1) (o := o1)
  refine wpAny_items_cons (nameX_L X3.fr (v := vE) hen ?_)
  refine wpAny_items_cons (at_val X3.fr K hv hx hdd (v := .none) (by kernel_rfl) rfl ?_)
  have X4 := X3.toks (tk := tk1 + 1)
  refine wpAny_items_cons (at_val X4.fr K hv hx hdd (v := .str ": " 453) (by kernel_rfl) rfl ?_)
  have X5 := X4.toks (tk := tk1 + 1 + 1)
  refine wpAny_items_cons (at_val X5.fr K hv hx hdd (v := .str ", " 451) (by kernel_rfl) rfl ?_)
  have X6 := X5.toks (tk := tk1 + 1 + 1 + 1)
  refine wpAny_items_cons (at_val X6.fr K hv hx hdd (v := .bool false) (by kernel_rfl) rfl ?_)
  have X7 := X6.toks (tk := tk1 + 1 + 1 + 1 + 1)
  refine wpAny_items_cons (at_val X7.fr K hv hx hdd (v := .bool false) (by kernel_rfl) rfl ?_)
  have X8 := X7.toks (tk := tk1 + 1 + 1 + 1 + 1 + 1)
  refine wpAny_items_cons (at_val X8.fr K hv hx hdd (v := .bool true) (by kernel_rfl) rfl ?_)
  have X9 := X8.toks (tk := tk1 + 1 + 1 + 1 + 1 + 1 + 1)
  refine wpAny_items_cons (nameX_L X9.fr (v := .none) hbc ?_)
  refine wpAny_items_cons (at_val X9.fr K hv hx hdd (v := .none) (by kernel_rfl) rfl ?_)
  have X10 := X9.toks (tk := tk1 + 1 + 1 + 1 + 1 + 1 + 1 + 1)
  refine wpAny_items_nil ?_
  refine ⟨⟨X10.fr.keep _ _ hom, hdm⟩, ?_⟩
  refine call_make (B₀ := B₀) (hid := hid) hroom (K.keeps X10.fr.keep) (g.keeps X10.fr.keep) (hb.keeps X10.fr.keep) (lim.keeps X10.fr.keep) (X10.tab T hL h188) (fun c hc => Nat.lt_of_lt_of_le (hlt c hc) X10.sz) (fun b o e => ⟨(hB b o e).1, X10.fr.keep _ _ (hB b o e).2⟩) Bs fun D h' tk' hx' hz' T' hm' hI => ?_
  refine wpAny_storeName_local (m := fun y => _) (by rfl) (X10.fr.ns.extBut hx' (neN (by omega))) fun h3 hn3 hs3 => ?_
  have n188 : (188 : Nat) ≠ L := by omega
  have k3 : ∀ (a : Nat) o, a ≠ L → h'.get? a = some o → h3.get? a = some o := fun a o n e => (hs3.2 a n).trans e
  have F3 : Fr (hideAll B [188]) L h3 _ := ⟨hn3, fun b o e => k3 b o (fun q => by subst q; exact Nat.lt_irrefl _ (Nat.lt_of_lt_of_le (Heap.lt_size (of_hideAll _ e)) F.above)) (hx' b o (fun q => by rw [q, hideAll_none _ (.head _)] at e; cases e) (X10.fr.keep b o (of_hideAll _ e))), by rw [hideAll_size]; exact F.above⟩
  have T3 : TabI hid h3 := T'.on (fun b o n e => k3 b o (fun q => n (q ▸ hL)) e) (hs3.2 188 n188)
  refine wpAny_execs_cons (wpAny_Return_some (it_gen (h₀ := h') hroom hI F3 (lst := lst) ((if_neg (by decide)).trans hlo) (if_pos rfl) k3 (Nat.le_of_eq hs3.1.symm) T3 hL fun b s' m' hI' F' ho' hl' hg' hgs' hos' hd' hk' hT' hb' => ?_))
  refine h D _ b s' m' hI' hm' F' ho' hl' hg' hgs' hos' hd' (fun a o n e => hideAll_get _ (hx' a o (fun q => n (q ▸ T.1)) (X10.keep a o (fun q => n (q ▸ hL)) e)) n) (fun a ha => hideAll_none _ ha) (fun a o n1 n2 e => hk' a o (k3 a o n2 (hx' a o n1 (X10.keep a o n2 e)))) hT' (let ⟨_, ps, ta, tb, tc⟩ := T'; ⟨ps, hk' _ _ (k3 _ _ n188 ta), tb, fun d hd cv e => let ⟨c, o, vs, t, e1, e2, e3, e4⟩ := (tc d hd cv e).2; ⟨c, o, vs, t, e1, hideAll_get _ e2 (fun q => (tc d hd cv e).1 c q e1), e3, e4⟩⟩) ?_
  exact Nat.le_trans (Nat.le_trans X10.sz hz') (Nat.le_trans (Nat.le_of_eq hs3.1.symm) hb')

set_option maxHeartbeats 4000000 in
theorem it_rest {Q : Flow → Shared → Prop} {vm vE : Value} (F : Fr B L s.heap m) (K : (hd.heap_39 w.params).In B) (g : B.Ns mainGlobals mg) (hb : B.BuiltinsAt mg 188) (lim : B.NoLimit) (gE : mg "encode_basestring_ascii" = some vE) (gM : mg "_make_iterencode" = some (.ref 193))
    (hB : ∀ (b : Nat) o, B₀.get? b = some o → b ∉ hid ∧ B.get? b = some o) (Bs : EncBase B₀ mg mb) (T : TabI hid s.heap) (hL : L ∈ hid) (h188 : 188 < L) (hlt : ∀ c ∈ hid, c < s.heap.objs.size) (hroom : A.depth < recursionLimit)
    (hv : m "self" = some (.ref x)) (hx : B.get? x = some ⟨.ref 132, some d, .plain, #[]⟩) (hdd : B.get? d = some (encObj w.params cc t)) (hlo : m "o" = some (.ref lst)) (hmk : m "markers" = some vm)
    (h : ∀ D B' b s' m', D.In B' → D.marks = vm → Fr B' b s'.heap m' → m' "o" = some (.ref lst) → (∃ i t, m' "_current_indent_level" = some (.int i t)) → s'.heap.IsGen (b + 1) s.gens.size → s'.gens = s.gens.push (.fresh (.func (bodyS iterDef) (envT D b))) → s'.os = s.os → s'.drawn = s.drawn →
      (∀ (a : Nat) o, a ∉ hid → s.heap.get? a = some o → B'.get? a = some o) → (∀ a ∈ hid, B'.get? a = none) → (∀ (a : Nat) o, a ≠ 188 → a ≠ L → s.heap.get? a = some o → s'.heap.get? a = some o) → TabI hid s'.heap → TabB B' s'.heap → s.heap.objs.size ≤ b → Q (.ret (.ref (b + 1))) s') :
    wpAny (model prog w) A (execs (List.drop 1 (bodyS itDef)) (envI L)) Q E s := by
  have X0 : It B L s s m := ⟨F, fun _ _ _ e => e, Nat.le_refl _, rfl, rfl, rfl⟩
  refine wpAny_execs_cons (wpAny_If (wpAny_isTrue_value (at_val X0.fr K hv hx hdd (v := .bool true) (by kernel_rfl) rfl (wpAny_truthy_bool (ite_t rfl ?_)))))
  refine wpAny_execs_cons (wpAny_Assign_Name (nm_G (X0.toks (tk := s.toks + 1)).fr g gE ?_))
  refine wpAny_storeName_local (by rfl) X0.fr.ns fun h1 hn1 hs1 => wpAny_execs_nil ?_
  have X1 := (X0.toks (tk := s.toks + 1)).store (tk := s.toks + 1 + 1) hn1 hs1
  refine wpAny_execs_cons (wpAny_Assign_Name (wpAny_IfExp (wpAny_isTrue_value (at_val X1.fr K hv hx hdd (v := .bool false) (by kernel_rfl) rfl (wpAny_truthy_bool (ite_f rfl ?_))))))
  refine at_val X1.fr K hv hx hdd (v := .none) (by kernel_rfl) rfl ?_
  refine wpAny_storeName_local (by rfl) X1.fr.ns fun h2 hn2 hs2 => ?_
  have X2 := X1.store (tk := s.toks + 1 + 1 + 1 + 1 + 1) hn2 hs2
  have e1 : ∀ {α : Type} {y z : Str} {a b : α}, y ≠ z → (if y = z then a else b) = b := fun n => if_neg n
  refine it_rest2 (mg := mg) (mb := mb) (hid := hid) (B₀ := B₀) X2.fr K g hb lim gM hB Bs (X2.tab T hL h188) hL h188 (fun c hc => Nat.lt_of_lt_of_le (hlt c hc) X2.sz) hroom ((e1 (by decide)).trans ((e1 (by decide)).trans hv)) hx hdd ((e1 (by decide)).trans ((e1 (by decide)).trans hlo)) ((e1 (by decide)).trans ((e1 (by decide)).trans hmk)) ((e1 (by decide)).trans (if_pos rfl)) (if_pos rfl) fun D B' b s' m' q1 q2 q3 q4 q5 q6 q7 q8 q9 q10 q11 q12 q13 qB q14 => ?_
  exact h D B' b s' m' q1 q2 q3 q4 q5 q6 q7 q8 q9 (fun a o n e => q10 a o n (X2.keep a o (fun q => n (q ▸ hL)) e)) q11 (fun a o n1 n2 e => q12 a o n1 n2 (X2.keep a o n2 e)) q13 qB (Nat.le_trans X2.sz q14)
end
end Mine
end

/- part E8 -/
section
open PySem PySem.W PyProof PyProof.Rows PySem.W.X
set_option maxRecDepth 100000
namespace Mine
section
variable {prog : Program} {w : World} {A : Around} {E : Value → Shared → Prop} {s₀ s : Shared} {B₀ : Heap} {hid : List Nat} {mg mb : Str → Option Value} {x d lst : Nat} {cc : Bool} {t : Nat}

theorem iter_obj (K : (hd.heap_39 w.params).In s.heap) : ∃ o pm doc ct, s.heap.get? 129 = some o ∧ o.data = .func (fnX "iterencode" "JSONEncoder.iterencode" (argsS itDef) (bodyS itDef) (scopeS itDef) [] .none .none doc pm none (.ref 128) ct) :=
  ⟨_, _, _, _, K 129 _ rfl, by rfl⟩
theorem iter_code (K : (hd.heap_39 w.params).In s.heap) : s.heap.CodeRec (.ref 128) "JSONEncoder.iterencode" :=
  ⟨128, _, _, _, rfl, K 128 _ rfl, rfl, by rfl⟩

set_option maxHeartbeats 4000000 in
theorem call_iter {Q : Value → Shared → Prop} {vE : Value} (K : (hd.heap_39 w.params).In s.heap) (G : s.heap.Ns mainGlobals mg) (hb : s.heap.BuiltinsAt mg 188) (lim : s.heap.NoLimit) (gE : mg "encode_basestring_ascii" = some vE) (gM : mg "_make_iterencode" = some (.ref 193))
    (hB : ∀ (b : Nat) o, B₀.get? b = some o → b ∉ hid ∧ s.heap.get? b = some o) (Bs : EncBase B₀ mg mb) (T : TabI hid s.heap) (hlt : ∀ c ∈ hid, c < s.heap.objs.size) (hroom : A.depth + 1 < recursionLimit)
    (hx : s.heap.get? x = some ⟨.ref 132, some d, .plain, #[]⟩) (hdd : s.heap.get? d = some (encObj w.params cc t)) (h : ∀ v s', Gen0 s hid cc lst v s' → Q v s') :
    wpAny (model prog w) A (call (.ref 129) [.ref x, .ref lst]) Q E s := by
  obtain ⟨o, pm, doc, ct, ho, hdat⟩ := iter_obj (w := w) K
  refine wpAny_call (codeAny_call_def (binds := [("self", Value.ref x), ("o", Value.ref lst)]) (Nat.lt_of_succ_lt hroom) ho hdat lim (iter_code (w := w) K) rfl (BindsTo.of_eq rfl) (show ∀ x ∈ (scopeS itDef).names, x.2 ≠ .cell from by decide +kernel) (locs (by kernel_rfl)) (fun h₀ hns hk => ?_))
  show wpAny _ (A.deeper (envI s.heap.objs.size)) (execs (bodyS itDef) (envI s.heap.objs.size)) _ _ _
  have h188 : (188 : Nat) < s.heap.objs.size := hlt 188 T.1
  have hBget : ∀ (b : Nat) o, b ≠ 188 → s.heap.get? b = some o → (hideAll s.heap [188]).get? b = some o := fun b o n e => hideAll_get _ e (fun q => n (List.mem_singleton.mp q))
  have hn : (hideAll s.heap [188]).get? 188 = none := hideAll_none _ (.head _)
  have K' : (hd.heap_39 w.params).In (hideAll s.heap [188]) := fun a o e => hBget a o (fun q => by subst q; cases e) (K a o e)
  have n188 : ∀ (a : Nat) o, s.heap.get? a = some o → o.cls ≠ .none → a ≠ 188 := fun a o e hc q => by
    subst q
    obtain ⟨_, ps, e2, _⟩ := T
    rw [e2] at e; cases e; exact hc rfl
  have g' : (hideAll s.heap [188]).Ns mainGlobals mg := by
    obtain ⟨og, es, ep, e, r⟩ := G
    exact ⟨og, es, ep, hBget _ _ (by decide) e, r⟩
  have hb' : (hideAll s.heap [188]).BuiltinsAt mg 188 := by
    obtain ⟨bm, ob, b1, b2, b3, b4, b5, b6⟩ := hb
    exact ⟨bm, ob, b1, b2, b3, b4, hBget _ _ b4 b5, b6⟩
  have lim' : (hideAll s.heap [188]).NoLimit := Bs.nolimit.keeps fun b o e => hBget b o (fun q => (hB b o e).1 (q ▸ T.1)) (hB b o e).2
  have hx' := hBget x _ (n188 x _ hx (by simp)) hx
  have hdd' := hBget d _ (n188 d _ hdd (by simp)) hdd
  have F : Fr (hideAll s.heap [188]) s.heap.objs.size h₀ _ := ⟨hns, fun b o e => hk b o (of_hideAll _ e), by rw [hideAll_size]; exact Nat.le_refl _⟩
  have hL0 : s.heap.objs.size < h₀.objs.size := hns.lt
  have hB' : ∀ (b : Nat) o, B₀.get? b = some o → b < s.heap.objs.size ∧ b ∉ hid ∧ (hideAll s.heap [188]).get? b = some o := fun b o e => ⟨Heap.lt_size (hB b o e).2, (hB b o e).1, hBget b o (fun q => (hB b o e).1 (q ▸ T.1)) (hB b o e).2⟩
  generalize hL : s.heap.objs.size = L at *
  have lt0 : ∀ (a : Nat) o, s.heap.get? a = some o → a < L := fun a o e => hL ▸ Heap.lt_size e
  refine wpAny_execs_cons (wpAny_If (wpAny_isTrue_value (at_val (m := fun y => _) F K' (by rfl) hx' hdd' (v := .bool cc) (by kernel_rfl) rfl (wpAny_truthy_bool ?_))))
  cases cc with
  | true =>
    refine ite_t rfl (wpAny_execs_cons (wpAny_Assign_Name (wpAny_List (wpAny_items_nil ⟨by decide, ?_⟩))))
    refine wpAny_storeName_local (by rfl) (hns.push _) fun h1 hn1 hs1 => wpAny_execs_nil ?_
    have kp : ∀ (a : Nat) o, h₀.get? a = some o → (h₀.push { cls := .type "list", data := .seq ([] : List Value).toArray }).get? a = some o := fun a o e => Heap.get?_push_of_some _ e
    have k1 : ∀ (a : Nat) o, a ≠ L → h₀.get? a = some o → h1.get? a = some o := fun a o n e => (hs1.2 a n).trans (kp a o e)
    have F1 : Fr (hideAll s.heap [188]) L h1 _ := Fr.set ⟨hns.push _, fun b o e => kp b o (F.keep b o e), F.above⟩ hn1 hs1
    have hsz1 : h1.objs.size = h₀.objs.size + 1 := hs1.1.trans (Heap.size_push ..)
    have T0 : TabI (h₀.objs.size :: L :: hid) h₀ := (T.more (hid' := h₀.objs.size :: L :: hid) (.tail _ (.tail _ T.1)) (fun c hc => by
      rcases List.mem_cons.mp hc with rfl | hc
      · exact .inr (by omega)
      · rcases List.mem_cons.mp hc with rfl | hc
        · exact .inr (by omega)
        · exact .inl hc)).keeps hk
    have T1 : TabI (h₀.objs.size :: L :: hid) h1 := T0.on (fun b o n e => k1 b o (fun q => n (q ▸ .tail _ (.head _))) e) (let ⟨_, _, a, _⟩ := T0; (k1 188 _ (neN (by omega)) a).trans a.symm)
    have hM : h1.get? h₀.objs.size = some (lsObj #[] 0) := (hs1.2 _ (Nat.ne_of_gt hL0)).trans (Heap.get?_push_size _ rfl)
    refine it_rest (mg := mg) (mb := mb) (hid := h₀.objs.size :: L :: hid) (B₀ := B₀) F1 K' g' hb' lim' gE gM (fun b o e => ⟨fun q => ?_, (hB' b o e).2.2⟩) Bs T1 (.tail _ (.head _)) h188 (fun c hc => ?_) hroom (by rfl) hx' hdd' (by rfl) (if_pos rfl) fun D B' b s' m' q1 q2 q3 q4 q5 q6 q7 q8 q9 q10 q11 q12 q13 qB q14 => ?_
    · have hlb := (hB' b o e).1
      rcases List.mem_cons.mp q with q | q
      · omega
      · rcases List.mem_cons.mp q with q | q
        · omega
        · exact (hB' b o e).2.1 q
    · show c < h1.objs.size
      rcases List.mem_cons.mp hc with rfl | hc
      · omega
      · rcases List.mem_cons.mp hc with rfl | hc
        · omega
        · have := hlt c hc; omega
    · have hb1 : h1.objs.size ≤ b := q14
      refine h _ s' ⟨D, some h₀.objs.size, B', b, m', rfl, rfl, q2, q1, q3, q4, q5, q6, q7, q8, q9, fun M hM' => ?_, fun a ha => q11 a (.tail _ (.tail _ ha)), fun a o n e => q10 a o (fun q => ?_) (k1 a o (Nat.ne_of_lt (lt0 a o e)) (hk a o e)), fun a o n e => q12 a o n (Nat.ne_of_lt (lt0 a o e)) (k1 a o (Nat.ne_of_lt (lt0 a o e)) (hk a o e)), q13.more T.1 (fun c hc => .inl (.tail _ (.tail _ hc))), qB, ?_⟩
      · cases hM'
        exact ⟨by rw [hL]; exact Nat.le_of_lt hL0, by omega, q11 _ (.head _), 0, q12 _ _ (neN (by omega)) (Nat.ne_of_gt hL0) hM⟩
      · have hla : a < L := hL ▸ Heap.lt_size e
        rcases List.mem_cons.mp q with q | q
        · omega
        · rcases List.mem_cons.mp q with q | q
          · omega
          · exact n q
      · rw [hL]; omega
  | false =>
    refine ite_f rfl (wpAny_execs_cons (wpAny_Assign_Name (wpAny_Constant_none ?_)))
    refine wpAny_storeName_local (by rfl) hns fun h1 hn1 hs1 => wpAny_execs_nil ?_
    have k1 : ∀ (a : Nat) o, a ≠ L → h₀.get? a = some o → h1.get? a = some o := fun a o n e => (hs1.2 a n).trans e
    have F1 : Fr (hideAll s.heap [188]) L h1 _ := Fr.set F hn1 hs1
    have hsz1 : h1.objs.size = h₀.objs.size := hs1.1
    have T0 : TabI (L :: hid) h₀ := (T.more (hid' := L :: hid) (.tail _ T.1) (fun c hc => by
      rcases List.mem_cons.mp hc with rfl | hc
      · exact .inr (by omega)
      · exact .inl hc)).keeps hk
    have T1 : TabI (L :: hid) h1 := T0.on (fun b o n e => k1 b o (fun q => n (q ▸ .head _)) e) (let ⟨_, _, a, _⟩ := T0; (k1 188 _ (neN (by omega)) a).trans a.symm)
    refine it_rest (mg := mg) (mb := mb) (hid := L :: hid) (B₀ := B₀) F1 K' g' hb' lim' gE gM (fun b o e => ⟨fun q => ?_, (hB' b o e).2.2⟩) Bs T1 (.head _) h188 (fun c hc => ?_) hroom (by rfl) hx' hdd' (by rfl) (if_pos rfl) fun D B' b s' m' q1 q2 q3 q4 q5 q6 q7 q8 q9 q10 q11 q12 q13 qB q14 => ?_
    · have hlb := (hB' b o e).1
      rcases List.mem_cons.mp q with q | q
      · omega
      · exact (hB' b o e).2.1 q
    · show c < h1.objs.size
      rcases List.mem_cons.mp hc with rfl | hc
      · omega
      · have := hlt c hc; omega
    · have hb1 : h1.objs.size ≤ b := q14
      refine h _ s' ⟨D, none, B', b, m', rfl, rfl, q2, q1, q3, q4, q5, q6, q7, q8, q9, fun M hM' => (nomatch hM'), fun a ha => q11 a (.tail _ ha), fun a o n e => q10 a o (fun q => ?_) (k1 a o (Nat.ne_of_lt (lt0 a o e)) (hk a o e)), fun a o n e => q12 a o n (Nat.ne_of_lt (lt0 a o e)) (k1 a o (Nat.ne_of_lt (lt0 a o e)) (hk a o e)), q13.more T.1 (fun c hc => .inl (.tail _ hc)), qB, ?_⟩
      · have hla : a < L := hL ▸ Heap.lt_size e
        rcases List.mem_cons.mp q with q | q
        · omega
        · exact n q
      · rw [hL]; omega
end
end Mine
end

/- part E9 -/
section
open PySem PySem.W PyProof PyProof.Rows PySem.W.X
set_option maxRecDepth 100000
namespace Mine

/-- what stands at the law's start: the program's objects, the globals -/
structure LB (w : World) (B : Heap) (mg mb : Str → Option Value) : Prop where
  K : (hd.heap_39 w.params).In B
  g : B.Ns mainGlobals mg
  b : B.Ns builtinsNs mb
  bt : ∀ x : Str, x ≠ "__name__" → mb x = bootBuiltins x
  nolimit : B.NoLimit
  bu : B.BuiltinsAt mg 188
  n188 : B.get? 188 = none

noncomputable def esMain (P : Params) : Array DictEntry := match (hd.heap_39 P).lookup 3 with
  | some ⟨_, _, .dict es _, _⟩ => es
  | _ => #[]

section
variable {w : World} {B : Heap} {mg mb : Str → Option Value}
theorem LB.at_ (I : LB w B mg mb) (x : Str) : mg x = nsFind (esMain w.params) x := by
  obtain ⟨o, es, ep, e, hdat, _, hf⟩ := I.g
  have h3 := I.K 3 _ rfl
  rw [show B.get? 3 = some o from e] at h3
  cases h3
  cases hdat
  exact (hf x).symm
theorem LB.val (I : LB w B mg mb) {x : Str} {v : Option Value} (h : nsFind (esMain w.params) x = v) : mg x = v := (I.at_ x).trans h
theorem none_all {P : Params} {l : List Str} (h : (l.all fun x => (nsFind (esMain P) x).isNone) = true) : ∀ x ∈ l, nsFind (esMain P) x = none := fun x hx => by
  have := List.all_eq_true.mp h x hx
  simpa using this
theorem LB.gl (I : LB w B mg mb) : Gl B mg mb :=
  ⟨I.g, I.b, fun x hx => I.val (none_all (by kernel_rfl) x hx), I.bt, I.nolimit⟩
theorem LB.enc (I : LB w B mg mb) : EncBase B mg mb where
  g := I.g
  b := I.b
  bt := I.bt
  nolimit := I.nolimit
  nG := fun x hx => I.val (none_all (by kernel_rfl) x hx)
  gO := I.val (by kernel_rfl)
  gR := I.val (by kernel_rfl)
  gS := I.val (by kernel_rfl)
  gT := I.val (by kernel_rfl)
  raw := ⟨_, _, _, I.K 55 _ rfl⟩
  isOpen := ⟨_, _, .ref 142, _, I.K 143 _ rfl, by rfl, ⟨142, _, _, _, rfl, I.K 142 _ rfl, rfl, by rfl⟩⟩
theorem LB.gE (I : LB w B mg mb) : mg "encode_basestring_ascii" = some (.ref 85) := I.val (by kernel_rfl)
theorem LB.gM (I : LB w B mg mb) : mg "_make_iterencode" = some (.ref 193) := I.val (by kernel_rfl)
theorem LB.gJ (I : LB w B mg mb) : mg "JSONEncoder" = some (.ref 132) := I.val (by kernel_rfl)
theorem LB.gQ (I : LB w B mg mb) : mg "_law_rest" = some (.ref 194) := I.val (by kernel_rfl)
theorem LB.gX (I : LB w B mg mb) : mg "_law_text" = some (.ref 199) := I.val (by kernel_rfl)
theorem LB.rest (I : LB w B mg mb) : ∃ o t0 t1 t2 t3 t4 t5, B.get? 194 = some o ∧ o = { cls := .type "tuple", data := .seq #[.int 3 t0, .int 41 t1, .int 62 t2, .int 65 t3, .int 13 t4, .int 0 t5] } :=
  ⟨_, _, _, _, _, _, _, I.K 194 _ rfl, rfl⟩
theorem LB.text (I : LB w B mg mb) : ∃ o pm doc, B.get? 199 = some o ∧ o.data = .func (Calls.docDef "_law_text" (argsS textDef) (bodyS textDef) (scopeS textDef) pm (.ref 198) doc) ∧ B.CodeRec (.ref 198) "_law_text" :=
  ⟨_, _, _, I.K 199 _ rfl, by rfl, ⟨198, _, _, _, rfl, I.K 198 _ rfl, rfl, by rfl⟩⟩
end
end Mine
end

/- part C1 -/
section
open PySem PySem.W PyProof PyProof.Rows PySem.W.X
set_option maxRecDepth 100000
namespace Mine

/-- the comprehension's tests, as the loop takes them -/
abbrev testsOf (ifs : List Expr) (cenv : Env) : Sem Bool := forIn ifs true fun c r => if r = true then do let ok ← PySem.isTrue c cenv (eval c cenv); pure (ForInStep.yield ok) else pure (ForInStep.yield r)

section
variable {prog : Program} {w : World} {A : Around} {s : Shared} {R : Result → Shared → Prop}

/-- a loop of a list comprehension: whatever holds of the turns done, the items so far and the heap -/
theorem comp_loop {elt target iter : Expr} {ifs : List Expr} {scope : Scope} {pos : Pos} {I D : Nat} {fp wr : List Addr} {n : Nat} {P : Nat → Value → Prop} {St : Nat → Heap → Prop} {cenv : Env}
    (W : Walks prog w A I fp wr n P St) (mu : Nat → Prop) (fr : List Nat) (J : Nat → List Value → Heap → Prop) (Fo : Heap → Prop) (Bd : Value → Heap → Prop)
    (hwr : ∀ b ∈ wr, mu b) (hD : mu D) (hfr : ∀ b ∈ fr, mu b) (hDf : D ∉ fp) (hDr : D ∉ fr) (hfp : ∀ b ∈ fr, b ∉ fp) (hsz : n ≤ sizeLine)
    (hJ : ∀ i ys h h', (∀ (b : Nat) o, ¬ mu b → h.get? b = some o → h'.get? b = some o) → J i ys h → J i ys h')
    (hFo : ∀ h h', (∀ b ∈ fr, ∀ o, h.get? b = some o → h'.get? b = some o) → Fo h → Fo h') (hBd : ∀ v h h', (∀ b ∈ fr, ∀ o, h.get? b = some o → h'.get? b = some o) → Bd v h → Bd v h')
    (hassign : ∀ v (s₁ : Shared) (Q : Unit → Shared → Prop) (E : Value → Shared → Prop), Fo s₁.heap → (∀ h' tk, Fo h' → Bd v h' → (∀ (b : Nat) o, b ∉ fr → s₁.heap.get? b = some o → h'.get? b = some o) → Q () { s₁ with heap := h', toks := tk }) → wpAny (model prog w) A (assign target cenv v) Q E s₁)
    (turn : ∀ i v ys h' tk (E : Value → Shared → Prop), i < n → P i v → Fo h' → Bd v h' → J i ys h' → ys.length ≤ i → (∀ (b : Nat) o, ¬ mu b → s.heap.get? b = some o → h'.get? b = some o) →
      wpAny (model prog w) A (testsOf ifs cenv) (fun ok s₂ => Keeps { s with heap := h', toks := tk } s₂ ∧ if ok = true then wpAny (model prog w) A (eval elt cenv) (fun y s₃ => Keeps s₂ s₃ ∧ J (i + 1) (ys ++ [y]) s₃.heap) E s₂ else J (i + 1) ys s₂.heap) E { s with heap := h', toks := tk })
    (hst : St 0 s.heap) (hacc : s.heap.PlainList D #[]) (h0 : J 0 [] s.heap) (hF0 : Fo s.heap)
    (hR : ∀ h' tk ys, J n ys h' → Fo h' → h'.PlainList D ys.toArray → (∀ (b : Nat) o, ¬ mu b → s.heap.get? b = some o → h'.get? b = some o) → R (.ok .next) { s with heap := h', toks := tk })
    (ht : ∀ v, letOwnedTupleGo target (.ref I) v = pure () := by intro _; rfl) :
    codeAny (model prog w) A (.compLoop (.ListComp elt [⟨target, iter, ifs, 0⟩] scope pos) 0 (.ref I) (.ref D) cenv) R s := by
  refine codeAny_compLoop_tests
    (fun k s' => ∃ h' tk i ys, s' = { s with heap := h', toks := tk } ∧ St i h' ∧ h'.PlainList D ys ∧ Fo h' ∧ J i ys.toList h' ∧ i ≤ n ∧ ys.size ≤ i ∧ k = n + 1 - i ∧ (∀ (b : Nat) o, ¬ mu b → s.heap.get? b = some o → h'.get? b = some o)) ?_ (n + 1)
    ⟨s.heap, s.toks, 0, #[], rfl, hst, hacc, hF0, h0, Nat.zero_le _, Nat.le_refl _, rfl, fun _ _ _ e => e⟩ ht
  rintro k s' ⟨H, tk, i, ys, rfl, hst', hacc', hFo', hJ', hi, hys, rfl, hk⟩
  have hDw : D ∉ wr := fun h => hDf (W.sub _ h)
  by_cases hlt : i < n
  · refine W.item i _ _ _ hlt hst' fun v h₁ tk₁ hPv hst₁ hk₁ => ?_
    have hFo₁ : Fo h₁ := hFo _ _ (fun b hb o e => hk₁ b o (fun q => hfp b hb (W.sub _ q)) e) hFo'
    refine hassign v _ _ _ hFo₁ fun h₂ tk₂ hFo₂ hBd₂ hk₂ => ?_
    have up₂ : ∀ (b : Nat) o, ¬ mu b → H.get? b = some o → h₂.get? b = some o := fun b o hm e => hk₂ b o (fun q => hm (hfr b q)) (hk₁ b o (fun q => hm (hwr b q)) e)
    have hst₂ : St (i + 1) h₂ := W.frame _ _ _ hst₁ fun b hb o e => hk₂ b o (fun q => hfp b q hb) e
    refine wpAny_mono (turn i v ys.toList h₂ tk₂ _ hlt hPv hFo₂ hBd₂ (hJ _ _ _ _ up₂ hJ') (by simpa using hys) (fun b o hm e => up₂ b o hm (hk b o hm e))) (fun ok s₃ h₃ => ?_) fun _ _ e => e
    obtain ⟨⟨h₃, tk₃, rfl, hk₃⟩, hgo⟩ := h₃
    have hst₃ : St (i + 1) h₃ := W.frame _ _ _ hst₂ fun b _ o e => hk₃ b o e
    have hacc₃ : h₃.PlainList D ys := hacc'.at fun o e => hk₃ _ o (hk₂ D o hDr (hk₁ D o hDw e))
    have hFo₃ : Fo h₃ := hFo _ _ (fun b _ o e => hk₃ b o e) hFo₂
    have k3 : ∀ (b : Nat) o, ¬ mu b → s.heap.get? b = some o → h₃.get? b = some o := fun b o hm e => hk₃ b o (up₂ b o hm (hk b o hm e))
    cases ok with
    | false =>
      rw [if_neg Bool.false_ne_true] at hgo ⊢
      exact ⟨n + 1 - (i + 1), by omega, h₃, tk₃, i + 1, ys, rfl, hst₃, hacc₃, hFo₃, hgo, hlt, by omega, rfl, k3⟩
    | true =>
      rw [if_pos rfl] at hgo ⊢
      refine wpAny_mono hgo (fun y s₄ h₄ => ?_) fun _ _ e => e
      obtain ⟨⟨h₄, tk₄, rfl, hk₄⟩, hJ₄⟩ := h₄
      refine wpAny_list_append_plain (hsz := by omega) (hacc₃.at fun o e => hk₄ _ o e) fun h₅ hl₅ hs₅ => ?_
      refine ⟨n + 1 - (i + 1), by omega, h₅, tk₄, i + 1, ys.push y, rfl, ?_, hl₅, ?_, ?_, hlt, (by rw [Array.size_push]; omega), rfl, fun b o hm e => hs₅.extBut b o (fun q => hm (q ▸ hD)) (hk₄ b o (k3 b o hm e))⟩
      · exact W.frame _ _ h₅ hst₃ fun b hb o e => hs₅.extBut b o (fun h => hDf (h ▸ hb)) (hk₄ b o e)
      · exact hFo _ _ (fun b hb o e => hs₅.extBut b o (fun h => hDr (h ▸ hb)) (hk₄ b o e)) hFo₃
      · rw [Array.toList_push]
        exact hJ _ _ _ _ (fun b o hm e => hs₅.extBut b o (fun q => hm (q ▸ hD)) e) hJ₄
  · have hin : i = n := by omega
    refine W.done _ _ _ (hin ▸ hst') fun h₁ tk₁ hk₁ => ?_
    refine hR h₁ tk₁ ys.toList (hJ _ _ _ _ (fun b o hm e => hk₁ b o (fun q => hm (hwr b q)) e) (hin ▸ hJ')) (hFo _ _ (fun b hb o e => hk₁ b o (fun q => hfp b hb (W.sub _ q)) e) hFo') (hacc'.at fun o e => hk₁ _ o hDw e) fun b o hm e => hk₁ b o (fun q => hm (hwr b q)) (hk b o hm e)
end
end Mine
end

/- part C2 -/
section
open PySem PySem.W PyProof PyProof.Rows PySem.W.X
set_option maxRecDepth 100000
namespace Mine
section
variable {M : Model} {prog : Program} {w : World} {A : Around} {E : Value → Shared → Prop} {s s₂ : Shared}

theorem newEnv_any {scope : Scope} {cl : List (Str × Addr)} {env : Env} {Q : Env → Shared → Prop}
    (hQ : Q { scope := scope, locals := s.heap.objs.size, globals := env.globals, cells := cellsFrom (s.heap.objs.size + 1) scope.names cl, qual := env.qual, func := none, code := env.code, frame := env.frame, builtins := env.builtins } { s with heap := pushCells (s.heap.push { cls := .type "dict", data := .dict #[] }) scope.names }) :
    wpAny M A (newFunctionEnv scope env.globals cl [] env.qual none .none (some env)) Q E s := by
  simp only [newFunctionEnv, Option.isSome_some, if_true]
  refine wpAny_bind (wpAny_alloc ?_)
  refine wpAny_bind (wpAny_layCells _ (fun name kind cells => by cases hkc : kind == NameKind.cell <;> simp [hkc]) _ _ _ _ ?_)
  rw [List.forIn_nil]
  refine wpAny_bind (wpAny_pure (wpAny_pure ?_))
  rw [show ({ s with heap := s.heap.push { cls := .type "dict", data := .dict #[] } } : Shared).heap.objs.size = s.heap.objs.size + 1 from Heap.size_push ..]
  exact hQ

def muOf (wr fr : List Nat) (n₀ : Nat) (b : Nat) : Prop := b ∈ wr ∨ b = n₀ ∨ b ∈ fr
abbrev compHeap (h : Heap) (scope : Scope) : Heap := pushCells ((h.push { cls := .type "list", data := .seq ([] : List Value).toArray }).push { cls := .type "dict", data := .dict #[] }) scope.names
abbrev compEnvN (scope : Scope) (cl : List (Str × Addr)) (n₀ : Nat) (env : Env) : Env := compEnvC scope (cellsFrom (n₀ + 2) scope.names cl) (n₀ + 1) env

def TurnJ (prog : Program) (w : World) (A : Around) (cenv : Env) (ifs : List Expr) (elt : Expr) (s : Shared) (mu : Nat → Prop) (n : Nat) (P : Nat → Value → Prop) (Fo : Heap → Prop) (Bd : Value → Heap → Prop) (J : Nat → List Value → Heap → Prop) : Prop :=
  ∀ i v ys h' tk (E : Value → Shared → Prop), i < n → P i v → Fo h' → Bd v h' → J i ys h' → ys.length ≤ i → (∀ (b : Nat) o, ¬ mu b → s.heap.get? b = some o → h'.get? b = some o) →
    wpAny (model prog w) A (testsOf ifs cenv) (fun ok s₂ => Keeps { s with heap := h', toks := tk } s₂ ∧ if ok = true then wpAny (model prog w) A (eval elt cenv) (fun y s₃ => Keeps s₂ s₃ ∧ J (i + 1) (ys ++ [y]) s₃.heap) E s₂ else J (i + 1) ys s₂.heap) E { s with heap := h', toks := tk }

theorem comp_block {elt target iter : Expr} {ifs : List Expr} {scope : Scope} {cl : List (Str × Addr)} {env : Env} {pos : Pos} {I n₀ : Nat} {fp wr fr : List Nat} {n : Nat} {P : Nat → Value → Prop} {St : Nat → Heap → Prop} {J : Nat → List Value → Heap → Prop} {Fo : Heap → Prop} {Bd : Value → Heap → Prop}
    {RR : Value → Addr → Result → Shared → Prop}
    (W : Walks prog w A I fp wr n P St) (hn₀ : s₂.heap.objs.size = n₀) (hsz : n ≤ sizeLine) (hst : St 0 s₂.heap) (hfp : ∀ b ∈ fp, b < n₀) (hfr : ∀ b ∈ fr, n₀ < b)
    (hJ : ∀ i ys h h', (∀ (b : Nat) o, ¬ muOf wr fr n₀ b → h.get? b = some o → h'.get? b = some o) → J i ys h → J i ys h')
    (hFo : ∀ h h', (∀ b ∈ fr, ∀ o, h.get? b = some o → h'.get? b = some o) → Fo h → Fo h') (hBd : ∀ v h h', (∀ b ∈ fr, ∀ o, h.get? b = some o → h'.get? b = some o) → Bd v h → Bd v h')
    (hext : ∀ (b : Nat) o, (s₂.heap.push { cls := .type "list", data := .seq ([] : List Value).toArray }).get? b = some o → (compHeap s₂.heap scope).get? b = some o) (hF0 : Fo (compHeap s₂.heap scope))
    (hassign : ∀ v (s₁ : Shared) (Q : Unit → Shared → Prop) (E : Value → Shared → Prop), Fo s₁.heap → (∀ h' tk, Fo h' → Bd v h' → (∀ (b : Nat) o, b ∉ fr → s₁.heap.get? b = some o → h'.get? b = some o) → Q () { s₁ with heap := h', toks := tk }) → wpAny (model prog w) A (assign target (compEnvN scope cl n₀ env) v) Q E s₁)
    (h0 : ∀ h', (∀ (b : Nat) o, s₂.heap.get? b = some o → h'.get? b = some o) → J 0 [] h')
    (turn : TurnJ prog w A (compEnvN scope cl n₀ env) ifs elt s₂ (muOf wr fr n₀) n P Fo Bd J)
    (hRR : ∀ h' tk ys, J n ys h' → Fo h' → h'.PlainList n₀ ys.toArray → (∀ (b : Nat) o, ¬ muOf wr fr n₀ b → s₂.heap.get? b = some o → h'.get? b = some o) → RR (.ref n₀) (n₀ + 1) (.ok .next) { s₂ with heap := h', toks := tk })
    (ht : ∀ v, letOwnedTupleGo target (.ref I) v = pure () := by intro _; rfl) :
    wpAny (model prog w) A (newList []) (fun acc s₃ => wpAny (model prog w) A (newFunctionEnv scope env.globals cl [] env.qual none .none (some env)) (fun cenv s₄ =>
      codeAny (model prog w) A (.compStart (.ListComp elt [⟨target, iter, ifs, 0⟩] scope pos) 0 (.ref I) acc { cenv with scope := relabel scope env }) (RR acc cenv.locals) s₄) E s₃) E s₂ := by
  refine wpAny_newObj_type (newEnv_any ?_)
  dsimp only
  rw [hn₀, Heap.size_push, hn₀]
  have old : ∀ (b : Nat) o, s₂.heap.get? b = some o → (compHeap s₂.heap scope).get? b = some o := fun b o e => hext b o (Heap.get?_push_of_some _ e)
  have hacc : (compHeap s₂.heap scope).PlainList n₀ #[] := ⟨0, hext n₀ _ (hn₀ ▸ Heap.get?_push_size _ rfl)⟩
  have hst₁ : St 0 (compHeap s₂.heap scope) := W.frame _ _ _ hst fun b _ o e => old b o e
  have loop : codeAny (model prog w) A (.compLoop (.ListComp elt [⟨target, iter, ifs, 0⟩] scope pos) 0 (.ref I) (.ref n₀) (compEnvN scope cl n₀ env)) (RR (.ref n₀) (n₀ + 1)) { s₂ with heap := compHeap s₂.heap scope } := by
    refine comp_loop W (muOf wr fr n₀) fr J Fo Bd (fun b hb => .inl hb) (.inr (.inl rfl)) (fun b hb => .inr (.inr hb)) (fun h => Nat.lt_irrefl _ (hfp _ h)) (fun h => Nat.lt_irrefl _ (hfr _ h)) (fun b hb q => Nat.lt_asymm (hfr b hb) (hfp b q)) hsz hJ hFo hBd hassign
      (fun i v ys h' tk E hi hP hF hB hJ' hl hk => turn i v ys h' tk E hi hP hF hB hJ' hl fun b o hm e => hk b o hm (old b o e)) hst₁ hacc (h0 _ old) hF0 (fun h' tk ys hJ' hF' hl hk => hRR h' tk ys hJ' hF' hl fun b o hm e => hk b o hm (old b o e)) ht
  exact codeAny_compStart_list loop (W.self 0 _ _ _ hst₁ loop)
end
end Mine
end

/- part C3 -/
section
open PySem PySem.W PyProof PyProof.Rows PySem.W.X
set_option maxRecDepth 100000
namespace Mine

/-- what a comprehension needs behind its first iterator -/
def CompG (prog : Program) (w : World) (A : Around) (cenv : Nat → Env) (frOf : Nat → List Nat) (Fo : Nat → Heap → Prop) (Bd : Nat → Value → Heap → Prop) (ifs : List Expr) (elt : Expr) (fin : Nat → Shared → Prop) (it : Value) (s₂ : Shared) : Prop :=
  ∃ (I : Nat) (fp wr : List Nat) (n : Nat) (P : Nat → Value → Prop) (St : Nat → Heap → Prop) (J : Nat → List Value → Heap → Prop) (n₀ : Nat), it = .ref I ∧ Walks prog w A I fp wr n P St ∧ s₂.heap.objs.size = n₀ ∧ n ≤ sizeLine ∧ St 0 s₂.heap ∧ (∀ b ∈ fp, b < n₀) ∧
    (∀ i ys h h', (∀ (b : Nat) o, ¬ muOf wr (frOf n₀) n₀ b → h.get? b = some o → h'.get? b = some o) → J i ys h → J i ys h') ∧
    (∀ h', (∀ (b : Nat) o, s₂.heap.get? b = some o → h'.get? b = some o) → J 0 [] h') ∧
    TurnJ prog w A (cenv n₀) ifs elt s₂ (muOf wr (frOf n₀) n₀) n P (Fo n₀) (Bd n₀) J ∧
    (∀ h' tk ys, J n ys h' → h'.PlainList n₀ ys.toArray → (∀ (b : Nat) o, ¬ muOf wr (frOf n₀) n₀ b → s₂.heap.get? b = some o → h'.get? b = some o) → fin n₀ { s₂ with heap := h', toks := tk })

section
variable {prog : Program} {w : World} {A : Around} {E : Value → Shared → Prop} {s : Shared} {env : Env}
abbrev FoL (n₀ : Nat) (h : Heap) : Prop := ∃ m, h.Ns (n₀ + 1) m
abbrev BdL (x : Str) (n₀ : Nat) (v : Value) (h : Heap) : Prop := ∃ m, h.Ns (n₀ + 1) m ∧ m x = some v
abbrev CompL (prog : Program) (w : World) (A : Around) (env : Env) (scope : Scope) (cl : List (Str × Addr)) (x : Str) (ifs : List Expr) (elt : Expr) (fin : Nat → Shared → Prop) (it : Value) (s₂ : Shared) : Prop :=
  CompG prog w A (fun n₀ => compEnvC scope cl (n₀ + 1) env) (fun n₀ => [n₀ + 1]) FoL (BdL x) ifs elt fin it s₂

theorem block_l {elt iter : Expr} {x : Str} {px : Pos} {ifs : List Expr} {scope : Scope} {cl : List (Str × Addr)} {pos : Pos} {RR : Value → Addr → Result → Shared → Prop} {fin : Nat → Shared → Prop} {it : Value} {s₂ : Shared}
    (hpc : ∀ h, pushCells h scope.names = h) (hcf : ∀ n, cellsFrom n scope.names cl = cl) (hkind : scope.kind = .function) (hx : scope.names.lookup x = some .local)
    (h : CompL prog w A env scope cl x ifs elt fin it s₂) (hRR : ∀ n₀ s', (∃ m, s'.heap.Ns (n₀ + 1) m) → fin n₀ s' → (∀ h', Heap.SameBut (n₀ + 1) s'.heap h' → fin n₀ { s' with heap := h' }) → RR (.ref n₀) (n₀ + 1) (.ok .next) s') :
    wpAny (model prog w) A (newList []) (fun acc s₃ => wpAny (model prog w) A (newFunctionEnv scope env.globals cl [] env.qual none .none (some env)) (fun cenv s₄ =>
      codeAny (model prog w) A (.compStart (.ListComp elt [⟨.Name x px, iter, ifs, 0⟩] scope pos) 0 it acc { cenv with scope := relabel scope env }) (RR acc cenv.locals) s₄) E s₃) E s₂ := by
  obtain ⟨I, fp, wr, n, P, St, J, n₀, rfl, W, hn₀, hsz, hst, hfp, hJ, h0, turn, hfin⟩ := h
  have hkx : (compEnvC scope cl (n₀ + 1) env).kindOf x = some .local := lookup_relabel_local hx
  have hcn : compEnvN scope cl n₀ env = compEnvC scope cl (n₀ + 1) env := by unfold compEnvN; rw [hcf]
  refine comp_block (fr := [n₀ + 1]) (Fo := FoL n₀) (Bd := BdL x n₀) (J := J) W hn₀ hsz hst hfp (fun b hb => by rw [List.mem_singleton.mp hb]; exact Nat.lt_succ_self _) hJ (fun h h' k ⟨m, hm⟩ => ⟨m, hm.at' fun o e => k _ (.head _) o e⟩) (fun v h h' k ⟨m, hm, hv⟩ => ⟨m, hm.at' fun o e => k _ (.head _) o e, hv⟩)
    (fun b o e => by unfold compHeap; rw [hpc]; exact Heap.get?_push_of_some _ e) (by unfold compHeap; rw [hpc]; refine ⟨fun _ => none, ?_⟩; rw [← hn₀, ← Heap.size_push s₂.heap { cls := .type "list", data := .seq ([] : List Value).toArray }]; exact Heap.Ns.new ..) ?_ h0 (hcn ▸ turn) ?_
  · intro v s₁ Q E' hF hQ
    obtain ⟨m, hm⟩ := hF
    refine wpAny_assign_Name ?_
    rw [hcn]
    refine wpAny_storeName_local hkx hm (fun h' hn hs => hQ h' _ ⟨_, hn⟩ ⟨_, hn, if_pos rfl⟩ fun b o hb e => (hs.2 b fun q => hb (by rw [q]; exact .head _)).trans e) (by simp [compEnvC, relabel, hkind])
  · intro h' tk ys hJ' hF' hl hk
    refine hRR n₀ _ hF' (hfin h' tk ys hJ' hl hk) fun h'' hs => hfin h'' tk ys (hJ _ _ _ _ (fun b o hm e => (hs.2 b fun q => hm (.inr (.inr (by rw [q]; exact .head _)))).trans e) hJ') ?_ fun b o hm e => (hs.2 b fun q => hm (.inr (.inr (by rw [q]; exact .head _)))).trans (hk b o hm e)
    obtain ⟨k, e⟩ := hl
    exact ⟨k, (hs.2 n₀ (Nat.ne_of_lt (Nat.lt_succ_self _))).trans e⟩

/-- a list comprehension over a local name -/
theorem lcL {elt iter : Expr} {x : Str} {px : Pos} {ifs : List Expr} {scope : Scope} {cl : List (Str × Addr)} {pos : Pos} {Q : Value → Shared → Prop}
    (hclos : closureFor scope env = pure cl) (hpc : ∀ h, pushCells h scope.names = h) (hcf : ∀ n, cellsFrom n scope.names cl = cl) (hkind : scope.kind = .function)
    (hnames : ∀ y ∈ scope.names, y.2 = .local → scope.names.lookup y.1 = some .local) (hx : scope.names.lookup x = some .local)
    (h : wpAny (model prog w) A (eval iter env) (fun xv s₁ => wpAny (model prog w) A (pyIter xv) (CompL prog w A env scope cl x ifs elt (fun n₀ s' => Q (.ref n₀) s')) E s₁) E s)
    (hs : ∀ x, foldedSetIterable iter env x = pure x := by intro _; rfl) :
    wpAny (model prog w) A (eval (.ListComp elt [⟨.Name x px, iter, ifs, 0⟩] scope pos) env) Q E s := by
  rw [eval_ListComp]
  refine wpAny_comprehension_free (use := none) rfl hs hclos hkind hnames (wpAny_mono h (fun xv s₁ h₁ => wpAny_mono h₁ (fun it s₂ h₂ => ?_) fun _ _ e => e) fun _ _ e => e)
  refine block_l (RR := fun acc C => compPost (model prog w) A E none Q acc C) hpc hcf hkind hx h₂ fun n₀ s' hm hf hfin => ?_
  obtain ⟨m, hm⟩ := hm
  exact ⟨m, hm, fun h' hs' => hfin h' hs'⟩
end
end Mine
end

/- part C4 -/
section
open PySem PySem.W PyProof PyProof.Rows PySem.W.X
set_option maxRecDepth 100000
namespace Mine
section
variable {prog : Program} {w : World} {A : Around} {E : Value → Shared → Prop} {s : Shared} {env : Env}

abbrev FoC (n₀ : Nat) (h : Heap) : Prop := (∃ m, h.Ns (n₀ + 1) m) ∧ ∃ v, h.IsCell (n₀ + 2) v
abbrev BdC (n₀ : Nat) (v : Value) (h : Heap) : Prop := (∃ m, h.Ns (n₀ + 1) m) ∧ h.IsCell (n₀ + 2) (some v)
abbrev CompC (prog : Program) (w : World) (A : Around) (env : Env) (scope : Scope) (cl : List (Str × Addr)) (x : Str) (ifs : List Expr) (elt : Expr) (fin : Nat → Shared → Prop) (it : Value) (s₂ : Shared) : Prop :=
  CompG prog w A (fun n₀ => compEnvC scope ((x, n₀ + 2) :: cl) (n₀ + 1) env) (fun n₀ => [n₀ + 1, n₀ + 2]) FoC BdC ifs elt fin it s₂

theorem block_c {elt iter : Expr} {x : Str} {px : Pos} {ifs : List Expr} {scope : Scope} {cl : List (Str × Addr)} {pos : Pos} {RR : Value → Addr → Result → Shared → Prop} {fin : Nat → Shared → Prop} {it : Value} {s₂ : Shared}
    (hpc : ∀ h, pushCells h scope.names = h.push { cls := .type "cell", data := .cell none }) (hcf : ∀ n, cellsFrom n scope.names cl = (x, n) :: cl) (hkind : scope.kind = .function) (hx : (relabel scope env).names.lookup x = some .cell)
    (h : CompC prog w A env scope cl x ifs elt fin it s₂) (hRR : ∀ n₀ s', (∃ m, s'.heap.Ns (n₀ + 1) m) → fin n₀ s' → (∀ h', Heap.SameBut (n₀ + 1) s'.heap h' → fin n₀ { s' with heap := h' }) → RR (.ref n₀) (n₀ + 1) (.ok .next) s') :
    wpAny (model prog w) A (newList []) (fun acc s₃ => wpAny (model prog w) A (newFunctionEnv scope env.globals cl [] env.qual none .none (some env)) (fun cenv s₄ =>
      codeAny (model prog w) A (.compStart (.ListComp elt [⟨.Name x px, iter, ifs, 0⟩] scope pos) 0 it acc { cenv with scope := relabel scope env }) (RR acc cenv.locals) s₄) E s₃) E s₂ := by
  obtain ⟨I, fp, wr, n, P, St, J, n₀, rfl, W, hn₀, hsz, hst, hfp, hJ, h0, turn, hfin⟩ := h
  have hcn : compEnvN scope cl n₀ env = compEnvC scope ((x, n₀ + 2) :: cl) (n₀ + 1) env := by unfold compEnvN; rw [hcf]
  have hs1 : (s₂.heap.push { cls := .type "list", data := .seq ([] : List Value).toArray }).objs.size = n₀ + 1 := by rw [Heap.size_push, hn₀]
  have hs2 : ((s₂.heap.push { cls := .type "list", data := .seq ([] : List Value).toArray }).push { cls := .type "dict", data := .dict #[] }).objs.size = n₀ + 2 := by rw [Heap.size_push, hs1]
  refine comp_block (fr := [n₀ + 1, n₀ + 2]) (Fo := FoC n₀) (Bd := BdC n₀) (J := J) W hn₀ hsz hst hfp (fun b hb => ?_) hJ (fun h h' k ⟨⟨m, hm⟩, v, o, e, hv⟩ => ⟨⟨m, hm.at' fun o e => k _ (.head _) o e⟩, v, o, k _ (.tail _ (.head _)) o e, hv⟩) (fun v h h' k ⟨⟨m, hm⟩, o, e, hv⟩ => ⟨⟨m, hm.at' fun o e => k _ (.head _) o e⟩, o, k _ (.tail _ (.head _)) o e, hv⟩)
    (fun b o e => by unfold compHeap; rw [hpc]; exact Heap.get?_push_of_some _ (Heap.get?_push_of_some _ e)) (by
      unfold compHeap; rw [hpc]
      refine ⟨⟨fun _ => none, ?_⟩, none, { cls := .type "cell", data := .cell none }, ?_, rfl⟩
      · rw [← hs1]; exact (Heap.Ns.new ..).push _
      · rw [← hs2]; exact Heap.get?_push_size _ rfl) ?_ h0 (hcn ▸ turn) ?_
  · rcases List.mem_cons.mp hb with rfl | hb
    · exact Nat.lt_succ_self _
    · rw [List.mem_singleton.mp hb]; omega
  · intro v s₁ Q E' hF hQ
    obtain ⟨⟨m, hm⟩, v₀, hc⟩ := hF
    refine wpAny_assign_Name ?_
    rw [hcn]
    refine wpAny_storeName_cell (c := n₀ + 2) (by simp [compEnvC, relabel, hkind]) hx (by simp [compEnvC]) hc (fun h' hv hs => ?_)
    have hm' := hm.sameBut hs (Nat.ne_of_lt (Nat.lt_succ_self _))
    exact hQ h' _ ⟨⟨m, hm'⟩, _, hv⟩ ⟨⟨m, hm'⟩, hv⟩ fun b o hb e => (hs.2 b fun q => hb (by rw [q]; exact .tail _ (.head _))).trans e
  · intro h' tk ys hJ' hF' hl hk
    refine hRR n₀ _ hF'.1 (hfin h' tk ys hJ' hl hk) fun h'' hs => hfin h'' tk ys (hJ _ _ _ _ (fun b o hm e => (hs.2 b fun q => hm (.inr (.inr (by rw [q]; exact .head _)))).trans e) hJ') ?_ fun b o hm e => (hs.2 b fun q => hm (.inr (.inr (by rw [q]; exact .head _)))).trans (hk b o hm e)
    obtain ⟨k, e⟩ := hl
    exact ⟨k, (hs.2 n₀ (Nat.ne_of_lt (Nat.lt_succ_self _))).trans e⟩

/-- a list comprehension over a name that an inner one captures -/
theorem lcC {elt iter : Expr} {x : Str} {px : Pos} {ifs : List Expr} {scope : Scope} {cl : List (Str × Addr)} {pos : Pos} {Q : Value → Shared → Prop}
    (hclos : closureFor scope env = pure cl) (hpc : ∀ h, pushCells h scope.names = h.push { cls := .type "cell", data := .cell none }) (hcf : ∀ n, cellsFrom n scope.names cl = (x, n) :: cl) (hkind : scope.kind = .function)
    (hnames : ∀ y ∈ scope.names, y.2 = .local → scope.names.lookup y.1 = some .local) (hx : (relabel scope env).names.lookup x = some .cell)
    (h : wpAny (model prog w) A (eval iter env) (fun xv s₁ => wpAny (model prog w) A (pyIter xv) (CompC prog w A env scope cl x ifs elt (fun n₀ s' => Q (.ref n₀) s')) E s₁) E s)
    (hs : ∀ x, foldedSetIterable iter env x = pure x := by intro _; rfl) :
    wpAny (model prog w) A (eval (.ListComp elt [⟨.Name x px, iter, ifs, 0⟩] scope pos) env) Q E s := by
  rw [eval_ListComp]
  refine wpAny_comprehension_free (use := none) rfl hs hclos hkind hnames (wpAny_mono h (fun xv s₁ h₁ => wpAny_mono h₁ (fun it s₂ h₂ => ?_) fun _ _ e => e) fun _ _ e => e)
  refine block_c (RR := fun acc C => compPost (model prog w) A E none Q acc C) hpc hcf hkind hx h₂ fun n₀ s' hm hf hfin => ?_
  obtain ⟨m, hm⟩ := hm
  exact ⟨m, hm, fun h' hs' => hfin h' hs'⟩

/-- a list comprehension over a local name, assigned to a local name at once -/
theorem asgL {elt iter : Expr} {x y : Str} {px py : Pos} {ifs : List Expr} {scope : Scope} {cl : List (Str × Addr)} {pos spos : Pos} {Q : Flow → Shared → Prop}
    (hsw : swapsWith (.ListComp elt [⟨.Name x px, iter, ifs, 0⟩] scope pos) (some (.Name y py)) spos.line env = pure true) (hy : env.kindOf y = some .local) (hp : (env.scope.kind == .class || (env.scope.kind == .module && env.locals != env.globals)) = false)
    (hclos : closureFor scope env = pure cl) (hpc : ∀ h, pushCells h scope.names = h) (hcf : ∀ n, cellsFrom n scope.names cl = cl) (hkind : scope.kind = .function)
    (hnames : ∀ y ∈ scope.names, y.2 = .local → scope.names.lookup y.1 = some .local) (hx : scope.names.lookup x = some .local)
    (h : wpAny (model prog w) A (eval iter env) (fun xv s₁ => wpAny (model prog w) A (pyIter xv) (CompL prog w A env scope cl x ifs elt (fun n₀ s' => ∃ m, s'.heap.Ns env.locals m ∧ env.locals ≠ n₀ + 1 ∧
      ∀ h', h'.Ns env.locals (fun z => if z = y then some (.ref n₀) else m z) → (∀ (b : Nat) o, b ≠ env.locals → b ≠ n₀ + 1 → s'.heap.get? b = some o → h'.get? b = some o) → Q .next { s' with heap := h', toks := s'.toks + 1 })) E s₁) E s)
    (hs : ∀ x, foldedSetIterable iter env x = pure x := by intro _; rfl) :
    wpAny (model prog w) A (exec (.Assign [.Name y py] (.ListComp elt [⟨.Name x px, iter, ifs, 0⟩] scope pos) spos) env) Q E s := by
  rw [exec_Assign_Name_used _ _ _ _ hsw]
  refine wpAny_bind (wpAny_standAt (wpAny_bind ?_))
  show wpAny _ A (do let _ ← comprehension (.ListComp elt [⟨.Name x px, iter, ifs, 0⟩] scope pos) scope env _ (newList []) false (eval iter env) (some (assign (.Name y py) env))) _ _ s
  refine wpAny_bind (wpAny_mono (wpAny_comprehension_free (use := some (assign (.Name y py) env)) (Q := fun _ s' => Q .next s') rfl hs hclos hkind hnames
    (wpAny_mono h (fun xv s₁ h₁ => wpAny_mono h₁ (fun it s₂ h₂ => ?_) fun _ _ e => e) fun _ _ e => e)) (fun _ s' hq => wpAny_pure (wpAny_pure hq)) fun _ _ e => e)
  refine block_l (RR := fun acc C => compPost (model prog w) A E (some (assign (.Name y py) env)) (fun _ s' => Q .next s') acc C) hpc hcf hkind hx h₂ fun n₀ s' hm hf _ => ?_
  obtain ⟨mC, hmC⟩ := hm
  obtain ⟨m, hml, hne, hgo⟩ := hf
  show wpAny _ _ (assign (.Name y py) env (.ref n₀)) _ _ _
  refine wpAny_assign_Name (wpAny_storeName_local hy hml (fun h₁ hn₁ hs₁ => ⟨mC, hmC.sameBut hs₁ (Ne.symm hne), fun h₂ hs₂ => ?_⟩) hp)
  exact hgo h₂ (hn₁.sameBut hs₂ hne) fun b o h1 h2 e => (hs₂.2 b h2).trans ((hs₁.2 b h1).trans e)
end
end Mine
end

/- part C5 -/
section
open PySem PySem.W PyProof PyProof.Rows PySem.W.X
set_option maxRecDepth 100000
namespace Mine
section
variable {prog : Program} {w : World} {A : Around} {E : Value → Shared → Prop} {s : Shared} {e : Env} {x : Str} {p pos : Pos} {v : Value} {B : Heap} {m mg mb : Str → Option Value} {c : Addr} {Q : Value → Shared → Prop}

theorem eL (hn : s.heap.Ns e.locals m) (hv : m x = some v) (h : Q v s) (hk : e.scope.kind = .function := by rfl) (hx : e.kindOf x = some .local := by rfl) (hd : (x == ("__debug__" : Str)) = false := by decide) :
    wpAny (model prog w) A (eval (.Name x p) e) Q E s := wpAny_Name (wpAny_loadName_local hk hx hn hv h) hd
theorem eCl (hc : e.cells.lookup x = some c) (hv : s.heap.IsCell c (some v)) (h : Q v s) (hk : e.scope.kind = .function := by rfl) (hx : e.kindOf x = some .cell := by rfl) (hd : (x == ("__debug__" : Str)) = false := by decide) :
    wpAny (model prog w) A (eval (.Name x p) e) Q E s := wpAny_Name (wpAny_loadName_cell hk hx hc hv h) hd
theorem eB (G : Gl B mg mb) (k : ∀ b o, B.get? b = some o → s.heap.get? b = some o) (hm : x ∈ (["len", "str", "range", "enumerate", "sum", "ValueError"] : List Str)) (hv : bootBuiltins x = some v) (h : Q v s)
    (hg : e.globals = mainGlobals := by rfl) (hb : e.builtins = builtinsNs := by rfl) (hk : e.scope.kind = .function := by rfl) (hx : e.kindOf x = some .globalImplicit := by rfl) (hd : (x == ("__debug__" : Str)) = false := by decide) :
    wpAny (model prog w) A (eval (.Name x p) e) Q E s :=
  Calls.Name_function_global hk hx (Calls.loadGlobal_builtin (env := e) (hg ▸ G.g.keeps k) (G.boot hm hv).1 (hb ▸ G.b.keeps k) (G.boot hm hv).2 h) hd
theorem eG (g : B.Ns mainGlobals mg) (k : ∀ b o, B.get? b = some o → s.heap.get? b = some o) (hv : mg x = some v) (h : Q v s)
    (hg : e.globals = mainGlobals := by rfl) (hk : e.scope.kind = .function := by rfl) (hx : e.kindOf x = some .globalImplicit := by rfl) (hd : (x == ("__debug__" : Str)) = false := by decide) :
    wpAny (model prog w) A (eval (.Name x p) e) Q E s :=
  Calls.Name_function_global hk hx (Calls.loadGlobal_global (env := e) (hg ▸ g.keeps k) hv h) hd

/-- iter(range(n)) -/
theorem range_it {a : Expr} {K : Value → Shared → Prop} (G : Gl B mg mb) (k : ∀ b o, B.get? b = some o → s.heap.get? b = some o)
    (h : wpAny (model prog w) A (eval a e) (fun nv s₁ => ∃ (n : Nat) (t : Tok), nv = .int (n : Int) t ∧ n < 2 ^ 60 ∧ ∀ I h' tk, (∀ (b : Nat) o, s₁.heap.get? b = some o → h'.get? b = some o) → s₁.heap.objs.size ≤ I → I < h'.objs.size →
      IsRangeIter h' I (0 + ((0 : Nat) : Int) * 1) ((n : Int) - ((0 : Nat) : Int)) 1 → K (.ref I) { s₁ with heap := h', toks := tk }) E s)
    (hst : backTo pos (starEach [a] e) = [(false, eval a e)] := by rfl)
    (hg : e.globals = mainGlobals := by rfl) (hb : e.builtins = builtinsNs := by rfl) (hk : e.scope.kind = .function := by rfl) (hx : e.kindOf "range" = some .globalImplicit := by rfl) :
    wpAny (model prog w) A (eval (.Call (.Name "range" p) [a] [] pos) e) (fun xv s₁ => wpAny (model prog w) A (pyIter xv) K E s₁) E s := by
  refine wpAny_Call_ofName (eB G k (by decide) (v := .type "range") (by decide +kernel) ?_ hg hb hk hx)
  rw [hst]
  refine PySem.callWith_type rfl (Calls.evalArgs_plain (Calls.spliced_cons (wpAny_mono h (fun nv s₁ h₁ => Calls.spliced_nil ?_) fun _ _ e => e)))
  obtain ⟨n, t, rfl, hn, hK⟩ := h₁
  refine call_range_1 ?_
  refine wpAny_pyIter_range (IsRange.new ..) (small_one (by decide) (by decide) (by omega) (by omega)) ?_
  have hsz : Builtin.Range.rangeSize 0 (n : Int) 1 = (n : Int) := by rw [rangeSize_one]; split <;> omega
  refine hK _ _ _ (fun b o e => Heap.get?_push_of_some _ (Heap.get?_push_of_some _ e)) (by simp [Heap.size_push]) (by simp [Heap.size_push]) ?_
  have e1 : (0 + ((0 : Nat) : Int) * 1) = 0 := by simp
  have e2 : ((n : Int) - ((0 : Nat) : Int)) = Builtin.Range.rangeSize 0 n 1 := by rw [hsz]; simp
  rw [e1, e2]
  exact Heap.get?_push_size _ rfl
end
end Mine
end

/- part L1 -/
section
open PySem PySem.W PyProof PyProof.Rows PySem.W.X
set_option maxRecDepth 100000
namespace Mine

abbrev csL (L : Nat) : List (Str × Addr) := cellsFrom (L + 1) (scopeS lawDef).names []
abbrev envW (L fa : Nat) (cd : Value) : Env := envX "law" (scopeS lawDef) L fa cd (csL L)
abbrev hidL (L : Nat) : List Nat := [188, L, L + 1, L + 2, L + 3, L + 4, L + 5, L + 6, L + 7]

/-- the law's own frame and its cells -/
structure LwS (B : Heap) (L : Nat) (s : Shared) (m cm : Str → Option Value) : Prop where
  fr : Fr B L s.heap m
  cl : Cl L (csL L) s.heap cm
  tab : TabI (hidL L) s.heap
  h188 : 188 < L

/-- what stands outside the law's frame stands -/
structure Stp (L : Nat) (s s' : Shared) : Prop where
  keep : ∀ (b : Nat) o, b ∉ hidL L → s.heap.get? b = some o → s'.heap.get? b = some o
  gens : s'.gens = s.gens
  os : s'.os = s.os
  drawn : s'.drawn = s.drawn
theorem Stp.refl (L : Nat) (s : Shared) : Stp L s s := ⟨fun _ _ _ e => e, rfl, rfl, rfl⟩
theorem Stp.trans {L : Nat} {s s' s'' : Shared} (a : Stp L s s') (b : Stp L s' s'') : Stp L s s'' := ⟨fun c o n e => b.keep c o n (a.keep c o n e), b.gens.trans a.gens, b.os.trans a.os, b.drawn.trans a.drawn⟩
theorem Stp.grow {L : Nat} {s : Shared} {h' : Heap} {tk : Nat} (k : ∀ (b : Nat) o, s.heap.get? b = some o → h'.get? b = some o) : Stp L s { s with heap := h', toks := tk } := ⟨fun b o _ e => k b o e, rfl, rfl, rfl⟩

section
variable {B : Heap} {L fa : Nat} {cd : Value} {s : Shared} {m cm : Str → Option Value}
theorem LwS.size (X : LwS B L s m cm) : L + 7 < s.heap.objs.size := let ⟨_, e, _⟩ := X.cl.cell "ahead" (L + 7) (by kernel_rfl); Heap.lt_size e
theorem LwS.lt (X : LwS B L s m cm) : ∀ c ∈ hidL L, c < s.heap.objs.size := fun c hc => by
  have := X.size
  have := X.h188
  simp only [hidL, List.mem_cons, List.not_mem_nil, or_false] at hc
  omega
theorem LwS.grow {h' : Heap} {tk : Nat} (X : LwS B L s m cm) (k : ∀ (b : Nat) o, s.heap.get? b = some o → h'.get? b = some o) : LwS B L { s with heap := h', toks := tk } m cm :=
  ⟨⟨X.fr.ns.keeps k, fun b o e => k b o (X.fr.keep b o e), X.fr.above⟩, X.cl.keeps k, X.tab.keeps k, X.h188⟩
theorem mem_hid {L : Nat} : L ∈ hidL L := .tail _ (.head _)
theorem cell_hid {L c : Nat} {x : Str} (h : (csL L).lookup x = some c) : c ∈ hidL L := by
  have h1 := mem_of_lookup h
  rw [show csL L = ([("ahead", L + 7), ("roads", L + 6), ("told", L + 5), ("web", L + 4), ("many", L + 3), ("draw", L + 2), ("script", L + 1)] : List (Str × Addr)) from by rfl] at h1
  simp only [List.mem_cons, List.not_mem_nil, or_false, Prod.mk.injEq] at h1
  rcases h1 with ⟨_, h⟩ | ⟨_, h⟩ | ⟨_, h⟩ | ⟨_, h⟩ | ⟨_, h⟩ | ⟨_, h⟩ | ⟨_, h⟩ <;> rw [h] <;> simp [hidL]

theorem LwS.set {h' : Heap} {tk : Nat} {m' : Str → Option Value} (X : LwS B L s m cm) (hn : h'.Ns L m') (hs : Heap.SameBut L s.heap h') : LwS B L { s with heap := h', toks := tk } m' cm ∧ Stp L s { s with heap := h', toks := tk } := by
  have kp : ∀ (b : Nat) o, b ∉ hidL L → s.heap.get? b = some o → h'.get? b = some o := fun b o n e => (hs.2 b fun q => n (q ▸ mem_hid)).trans e
  exact ⟨⟨X.fr.set hn hs, X.cl.sameBut hs (Nat.le_refl _), X.tab.on kp (hs.2 188 (Nat.ne_of_lt X.h188)), X.h188⟩, kp, rfl, rfl, rfl⟩
theorem LwS.setC {h' : Heap} {tk : Nat} {x : Str} {c : Nat} {v : Value} (X : LwS B L s m cm) (hc : (csL L).lookup x = some c) (hv : h'.IsCell c (some v)) (hs : Heap.SameBut c s.heap h') : LwS B L { s with heap := h', toks := tk } m (fun y => if y = x then some v else cm y) ∧ Stp L s { s with heap := h', toks := tk } := by
  have hLc : L < c := X.cl.above x c (mem_of_lookup hc)
  have kp : ∀ (b : Nat) o, b ∉ hidL L → s.heap.get? b = some o → h'.get? b = some o := fun b o n e => (hs.2 b fun q => n (q ▸ cell_hid hc)).trans e
  refine ⟨⟨⟨X.fr.ns.sameBut hs (Nat.ne_of_lt hLc), fun b o e => (hs.2 b (Nat.ne_of_lt (Nat.lt_trans (Nat.lt_of_lt_of_le (Heap.lt_size e) X.fr.above) hLc))).trans (X.fr.keep b o e), X.fr.above⟩, ⟨fun n c' e => ?_, X.cl.apart, X.cl.above⟩, X.tab.on kp (hs.2 188 (Nat.ne_of_lt (Nat.lt_trans X.h188 hLc))), X.h188⟩, kp, rfl, rfl, rfl⟩
  by_cases hn : n = x
  · subst hn
    rw [hc] at e; cases e
    simpa using hv
  · have hcc : c' ≠ c := fun q => hn (name_of_addr X.cl.apart (mem_of_lookup e) (q ▸ mem_of_lookup hc))
    simpa [hn] using (X.cl.cell n c' e).sameBut hs hcc
end

section
variable {prog : Program} {w : World} {A : Around} {E : Value → Shared → Prop} {B : Heap} {L fa : Nat} {cd : Value} {s : Shared} {m cm : Str → Option Value} {x : Str} {v : Value} {p : Pos}
theorem stL {Q : Unit → Shared → Prop} (X : LwS B L s m cm) (h : ∀ s', LwS B L s' (fun y => if y = x then some v else m y) cm → Stp L s s' → s'.toks = s.toks + 1 → Q () s')
    (hx : (envW L fa cd).kindOf x = some .local := by rfl) : wpAny (model prog w) A (storeName (envW L fa cd) x v) Q E s :=
  wpAny_storeName_local hx X.fr.ns fun h' hn hs => let ⟨a, b⟩ := X.set hn hs; h _ a b rfl
theorem stCl {c : Nat} {Q : Unit → Shared → Prop} (X : LwS B L s m cm) (hc : (csL L).lookup x = some c) (h : ∀ s', LwS B L s' m (fun y => if y = x then some v else cm y) → Stp L s s' → Q () s')
    (hx : (envW L fa cd).kindOf x = some .cell := by rfl) : wpAny (model prog w) A (storeName (envW L fa cd) x v) Q E s :=
  wpAny_storeName_cell rfl hx hc (X.cl.cell x c hc) fun h' hv hs => let ⟨a, b⟩ := X.setC hc hv hs; h _ a b
theorem ldL {Q : Value → Shared → Prop} (X : LwS B L s m cm) (hv : m x = some v) (h : Q v s) (hx : (envW L fa cd).kindOf x = some .local := by rfl) (hd : (x == ("__debug__" : Str)) = false := by decide) :
    wpAny (model prog w) A (eval (.Name x p) (envW L fa cd)) Q E s := eL X.fr.ns hv h rfl hx hd
theorem ldCl {c : Nat} {Q : Value → Shared → Prop} (X : LwS B L s m cm) (hc : (csL L).lookup x = some c) (hv : cm x = some v) (h : Q v s) (hx : (envW L fa cd).kindOf x = some .cell := by rfl) (hd : (x == ("__debug__" : Str)) = false := by decide) :
    wpAny (model prog w) A (eval (.Name x p) (envW L fa cd)) Q E s := eCl (e := envW L fa cd) hc (hv ▸ X.cl.cell x c hc) h rfl hx hd
end
end Mine
end

/- part L2 -/
section
open PySem PySem.W PyProof PyProof.Rows PySem.W.X
set_option maxRecDepth 100000
namespace Mine

theorem keeps_refl (s : Shared) : Keeps s s := ⟨s.heap, s.toks, rfl, fun _ _ e => e⟩
theorem Keeps.tr {s s' s'' : Shared} (a : Keeps s s') (b : Keeps s' s'') : Keeps s s'' := by
  obtain ⟨h1, t1, rfl, k1⟩ := a
  obtain ⟨h2, t2, rfl, k2⟩ := b
  exact ⟨h2, t2, rfl, fun c o e => k2 c o (k1 c o e)⟩

section
variable {prog : Program} {w : World} {A : Around} {E : Value → Shared → Prop} {s : Shared} {env : Env} {B : Heap} {mg mb : Str → Option Value}

abbrev numsTo (p : Nat → Bool) (f : Nat → Int) (i : Nat) : List Int := ((List.range i).filter p).map f
theorem numsTo_yes {p : Nat → Bool} {f : Nat → Int} {i : Nat} (h : p i = true) : numsTo p f (i + 1) = numsTo p f i ++ [f i] := by
  unfold numsTo
  rw [List.range_succ, List.filter_append, List.map_append]
  simp [h]
theorem numsTo_no {p : Nat → Bool} {f : Nat → Int} {i : Nat} (h : p i = false) : numsTo p f (i + 1) = numsTo p f i := by
  unfold numsTo
  rw [List.range_succ, List.filter_append, List.map_append]
  simp [h]

/-- a comprehension over range(n) that makes ints -/
theorem compInts {elt : Expr} {x : Str} {ifs : List Expr} {scope : Scope} {cl : List (Str × Addr)} {fin : Nat → Shared → Prop} {n I : Nat} {s₂ : Shared} (hh : A.handled = none) (p : Nat → Bool) (f : Nat → Int) (hsz : n ≤ sizeLine)
    (hI : IsRangeIter s₂.heap I (0 + ((0 : Nat) : Int) * 1) ((n : Int) - ((0 : Nat) : Int)) 1) (hIlt : I < s₂.heap.objs.size) (hnew : ∀ o, s.heap.get? I = some o → False) (hk : ∀ (b : Nat) o, s.heap.get? b = some o → s₂.heap.get? b = some o)
    (htest : ∀ i C m h' tk (E : Value → Shared → Prop) t, i < n → h'.Ns C m → m x = some (.int (i : Int) t) → (∀ (b : Nat) o, s.heap.get? b = some o → h'.get? b = some o) →
      wpAny (model prog w) A (testsOf ifs (compEnvC scope cl C env)) (fun ok s₃ => Keeps { s₂ with heap := h', toks := tk } s₃ ∧ ok = p i) E { s₂ with heap := h', toks := tk })
    (helt : ∀ i C m h' tk (E : Value → Shared → Prop) t, i < n → p i = true → h'.Ns C m → m x = some (.int (i : Int) t) → (∀ (b : Nat) o, s.heap.get? b = some o → h'.get? b = some o) →
      wpAny (model prog w) A (eval elt (compEnvC scope cl C env)) (fun y s₃ => Keeps { s₂ with heap := h', toks := tk } s₃ ∧ ∃ t, y = .int (f i) t) E { s₂ with heap := h', toks := tk })
    (hfin : ∀ a h' tk vs, s₂.heap.objs.size = a → (∀ (b : Nat) o, s.heap.get? b = some o → h'.get? b = some o) → h'.PlainList a vs.toArray → IntsAre vs (numsTo p f n) → fin a { s₂ with heap := h', toks := tk }) :
    CompL prog w A env scope cl x ifs elt fin (.ref I) s₂ := by
  have hmu : ∀ (b : Nat) o, s.heap.get? b = some o → ¬ muOf [I] [s₂.heap.objs.size + 1] s₂.heap.objs.size b := fun b o e q => by
    have hb := Heap.lt_size (hk b o e)
    rcases q with q | q | q
    · rw [List.mem_singleton.mp q] at e; exact hnew o e
    · exact Nat.ne_of_lt hb q
    · rw [List.mem_singleton.mp q] at hb; exact Nat.lt_asymm hb (Nat.lt_succ_self _)
  refine ⟨I, [I], [I], n, _, _, fun i ys h => IntsAre ys (numsTo p f i), s₂.heap.objs.size, rfl, Walks.range hh I 0 1 n, rfl, hsz, hI, fun b hb => by rw [List.mem_singleton.mp hb]; exact hIlt, fun _ _ _ _ _ j => j, fun _ _ => .nil, ?_, ?_⟩
  · intro i v ys h' tk E' hi hP hF hB hJ hl hkk
    obtain ⟨t, rfl⟩ := hP
    obtain ⟨m, hm, hmx⟩ := hB
    rw [Int.mul_one, Int.zero_add] at hmx
    have kk : ∀ (b : Nat) o, s.heap.get? b = some o → h'.get? b = some o := fun b o e => hkk b o (hmu b o e) (hk b o e)
    refine wpAny_mono (htest i _ m h' tk E' t hi hm hmx kk) (fun ok s₃ h₃ => ?_) fun _ _ e => e
    obtain ⟨k3, rfl⟩ := h₃
    refine ⟨k3, ?_⟩
    cases hp : p i with
    | false => rw [if_neg Bool.false_ne_true]; show IntsAre ys (numsTo p f (i + 1)); rw [numsTo_no hp]; exact hJ
    | true =>
      rw [if_pos rfl]
      obtain ⟨h3, t3, rfl, kk3⟩ := k3
      refine wpAny_mono (helt i _ m h3 t3 E' t hi hp (hm.keeps kk3) hmx fun b o e => kk3 b o (kk b o e)) (fun y s₄ h₄ => ?_) fun _ _ e => e
      obtain ⟨k4, t4, rfl⟩ := h₄
      refine ⟨k4, ?_⟩
      show IntsAre (ys ++ [.int (f i) t4]) (numsTo p f (i + 1))
      rw [numsTo_yes hp]
      exact hJ.append (.cons _ _ .nil)
  · intro h' tk ys hJ hl hkk
    exact hfin _ h' tk ys rfl (fun b o e => hkk b o (hmu b o e) (hk b o e)) hl hJ
end
end Mine
end

/- part L3 -/
section
open PySem PySem.W PyProof PyProof.Rows PySem.W.X
set_option maxRecDepth 100000
namespace Mine

def restL : List Int := [3, 41, 62, 65, 13, 0]
def drawI (zs : List Int) (k : Nat) : Int := (if k < zs.length then zs.getD k 0 else restL.getD k 0).fmod 10007

section
variable {prog : Program} {w : World} {A : Around} {E : Value → Shared → Prop} {s : Shared} {B : Heap} {mg mb : Str → Option Value} {L fa : Nat} {cd : Value} {m cm : Str → Option Value} {Q : Flow → Shared → Prop}

theorem ints_at {vs : List Value} {ns : List Int} (h : IntsAre vs ns) {i : Nat} (hi : i < ns.length) : ∃ t, vs.toArray[((i : Nat) : Int).toNat]? = some (.int (ns.getD i 0) t) := by
  have hl : i < vs.length := by rw [h.length]; exact hi
  obtain ⟨t, e⟩ := h.int_at i vs[i] (List.getElem?_eq_getElem hl)
  refine ⟨t, ?_⟩
  rw [Int.toNat_natCast, List.getElem?_toArray, List.getElem?_eq_getElem hl, e]

theorem lst_keep {h h' : Heap} {a : Addr} {its : Array Value} (x : h.IsList a its) (k : ∀ b o, h.get? b = some o → h'.get? b = some o) : h'.IsList a its := let ⟨o, e, r⟩ := x; ⟨o, k _ _ e, r⟩
theorem lst_keepN {h h' : Heap} {a : Nat} {its : Array Value} {hid : List Nat} (x : h.IsList a its) (n : a ∉ hid) (k : ∀ (b : Nat) o, b ∉ hid → h.get? b = some o → h'.get? b = some o) : h'.IsList a its := let ⟨o, e, r⟩ := x; ⟨o, k _ _ n e, r⟩

theorem fresh_hid {B : Heap} {L : Nat} {s : Shared} {m cm : Str → Option Value} (X : LwS B L s m cm) {a : Nat} (h : s.heap.objs.size ≤ a) : a ∉ hidL L := fun q => Nat.lt_irrefl _ (Nat.lt_of_lt_of_le (X.lt a q) h)

set_option maxHeartbeats 2000000 in
theorem s_draw (X : LwS B L s m cm) (I : LB w B mg mb) (hA : A.handled = none) {ax : Nat} {vs : List Value} {zs : List Int} (hsc : cm "script" = some (.ref ax)) (hl : s.heap.IsList ax vs.toArray) (hv : IntsAre vs zs) (hlen : zs.length ≤ 63)
    (h : ∀ s' ad vs', LwS B L s' m (fun y => if y = "draw" then some (.ref ad) else cm y) → Stp L s s' → s'.heap.IsList ad vs'.toArray → ad ∉ hidL L → s.heap.objs.size ≤ ad → IntsAre vs' (numsTo (fun _ => true) (drawI zs) 6) → Q .next s') :
    wpAny (model prog w) A (exec (nthS 0 (bodyS lawDef)) (envW L fa cd)) Q E s := by
  have G := I.gl
  refine wpAny_Assign_Name (lcL (cl := [("script", L + 1)]) (by rfl) (fun h => by rfl) (fun n => by rfl) (by rfl) (by decide +kernel) (by decide +kernel) ?_)
  refine range_it G X.fr.keep (wpAny_Constant_int ⟨6, _, rfl, by decide, fun Ia h' tk k hI1 hI2 hI => ?_⟩)
  refine compInts (s := s) hA (fun _ => true) (drawI zs) (by decide) hI hI2 (fun o e => Nat.lt_irrefl _ (Nat.lt_of_lt_of_le (Heap.lt_size e) hI1)) k (fun i C mm h₂ tk₂ E' t hi hm hx kk => wpAny_pure ⟨keeps_refl _, rfl⟩) (fun i C mm h₂ tk₂ E' t hi _ hm hx kk => ?_) (fun a h₂ tk₂ vs' ha kk hp hvs => ?_)
  · have hcell := (X.cl.cell "script" (L + 1) (by kernel_rfl)).keeps kk
    rw [hsc] at hcell
    have hl₂ := lst_keep hl kk
    obtain ⟨oR, t0, t1, t2, t3, t4, t5, hR, rfl⟩ := I.rest
    have hR₂ := kk _ _ (X.fr.keep _ _ hR)
    have hlenv : vs.toArray.size = zs.length := by rw [List.size_toArray, hv.length]
    refine wpAny_BinOp (wpAny_IfExp (wpAny_isTrue_Compare1 (eL (m := mm) hm hx (call_b (eB G (fun b o e => kk _ _ (X.fr.keep b o e)) (by decide) (v := .builtin "len") (by decide +kernel) ⟨rfl, args1 (eCl (c := L + 1) (by rfl) hcell (len_list hl₂ (by rw [hlenv]; omega) (P.lt_int (wpAny_truthy_bool ?_))))⟩)))))
    rw [hlenv]
    by_cases hc : i < zs.length
    · rw [if_pos (decide_eq_true (by omega))]
      obtain ⟨tv, ev⟩ := ints_at hv hc
      refine Subscript_ (eCl (c := L + 1) (by rfl) hcell (eL (m := mm) hm hx (item_list hl₂ (by omega) (by omega) ev (wpAny_Constant_int (mod_int' (by decide) ?_)))))
      exact ⟨⟨h₂, _, rfl, fun _ _ e => e⟩, _, congrArg (fun z => Value.int z _) (by unfold drawI; rw [if_pos hc])⟩
    · rw [if_neg (by rw [decide_eq_true_eq]; omega)]
      have hi' : i < 6 := hi
      have ht2 : IsTup h₂ 194 #[.int 3 t0, .int 41 t1, .int 62 t2, .int 65 t3, .int 13 t4, .int 0 t5] := ⟨_, hR₂, rfl, _, rfl⟩
      have h6 : i = 0 ∨ i = 1 ∨ i = 2 ∨ i = 3 ∨ i = 4 ∨ i = 5 := by omega
      have hat : ∃ tx, (#[Value.int 3 t0, .int 41 t1, .int 62 t2, .int 65 t3, .int 13 t4, .int 0 t5] : Array Value)[i]? = some (.int (restL.getD i 0) tx) := by
        rcases h6 with rfl | rfl | rfl | rfl | rfl | rfl <;> exact ⟨_, rfl⟩
      have hsq : seqIndex? (i : Int) 6 = some i := by rcases h6 with rfl | rfl | rfl | rfl | rfl | rfl <;> decide
      obtain ⟨tx, hat⟩ := hat
      refine Subscript_ (eG I.g (fun b o e => kk _ _ (X.fr.keep b o e)) I.gQ (eL (m := mm) hm hx (item_tuple ht2 (by omega) (by omega) hsq hat (wpAny_Constant_int (mod_int' (by decide) ?_)))))
      exact ⟨⟨h₂, _, rfl, fun _ _ e => e⟩, _, congrArg (fun z => Value.int z _) (by unfold drawI; rw [if_neg hc])⟩
  · have X₂ : LwS B L { s with heap := h₂, toks := tk₂ } m cm := X.grow kk
    refine stCl (c := L + 2) X₂ (by kernel_rfl) fun s' X' S' => ?_
    have hle : s.heap.objs.size ≤ a := by rw [← ha]; exact Nat.le_of_lt (Nat.lt_of_le_of_lt hI1 hI2)
    have hah := fresh_hid X hle
    obtain ⟨k0, hp⟩ := hp
    exact h s' a vs' X' ((Stp.grow kk).trans S') ⟨_, S'.keep _ _ hah hp, rfl, _, rfl⟩ hah hle hvs
end
end Mine
end

/- part L4 -/
section
open PySem PySem.W PyProof PyProof.Rows PySem.W.X
set_option maxRecDepth 100000
namespace Mine

def dr (zs : List Int) (k : Nat) : Nat := (drawI zs k).toNat
theorem drawI_eq (zs : List Int) (k : Nat) : drawI zs k = (dr zs k : Int) := by
  unfold dr drawI
  have := Int.fmod_nonneg_of_pos (if k < zs.length then zs.getD k 0 else restL.getD k 0) (b := 10007) (by decide)
  omega
theorem dr_lt (zs : List Int) (k : Nat) : dr zs k < 10007 := by
  have h := Int.fmod_lt_of_pos (if k < zs.length then zs.getD k 0 else restL.getD k 0) (b := 10007) (by decide)
  have h2 : drawI zs k < 10007 := h
  rw [drawI_eq] at h2
  omega
def nOf (zs : List Int) : Nat := 2 + dr zs 0 % 4
theorem nOf_le (zs : List Int) : nOf zs ≤ 5 := by unfold nOf; omega
theorem nOf_ge (zs : List Int) : 2 ≤ nOf zs := by unfold nOf; omega

theorem numsTo_all (f : Nat → Int) (n : Nat) : numsTo (fun _ => true) f n = (List.range n).map f := by
  unfold numsTo
  rw [List.filter_eq_self.mpr fun _ _ => rfl]

abbrev DrawL (h : Heap) (ad : Nat) (zs : List Int) : Prop := ∃ vs : List Value, h.IsList ad vs.toArray ∧ IntsAre vs (numsTo (fun _ => true) (drawI zs) 6)
theorem DrawL.keep {h h' : Heap} {ad : Nat} {zs : List Int} (x : DrawL h ad zs) (k : ∀ b o, h.get? b = some o → h'.get? b = some o) : DrawL h' ad zs := let ⟨vs, a, b⟩ := x; ⟨vs, lst_keep a k, b⟩
theorem DrawL.keepN {h h' : Heap} {ad : Nat} {zs : List Int} {hid : List Nat} (x : DrawL h ad zs) (n : ad ∉ hid) (k : ∀ (b : Nat) o, b ∉ hid → h.get? b = some o → h'.get? b = some o) : DrawL h' ad zs := let ⟨vs, a, b⟩ := x; ⟨vs, lst_keepN a n k, b⟩
theorem DrawL.at_ {h : Heap} {ad : Nat} {zs : List Int} (x : DrawL h ad zs) {k : Nat} (hk : k < 6) : ∃ vs : List Value, h.IsList ad vs.toArray ∧ ∃ t, vs.toArray[((k : Nat) : Int).toNat]? = some (.int (dr zs k : Int) t) := by
  obtain ⟨vs, hl, hv⟩ := x
  refine ⟨vs, hl, ?_⟩
  rw [numsTo_all] at hv
  obtain ⟨t, e⟩ := ints_at hv (i := k) (by simpa using hk)
  refine ⟨t, ?_⟩
  rw [e, ← drawI_eq]
  simp [hk]

section
variable {prog : Program} {w : World} {A : Around} {E : Value → Shared → Prop} {s : Shared} {B : Heap} {mg mb : Str → Option Value} {L fa : Nat} {cd : Value} {m cm : Str → Option Value} {zs : List Int} {ad aw : Nat}

theorem draw0 {e : Env} {c : Addr} {Q : Value → Shared → Prop} {p1 p2 p3 : Pos} {k4 : Nat} (hc : e.cells.lookup ("draw" : Str) = some c) (hv : s.heap.IsCell c (some (.ref ad))) (hl : DrawL s.heap ad zs) (h : ∀ t tk, Q (.int (dr zs 0 : Int) t) { s with toks := tk })
    (hk : e.scope.kind = .function := by rfl) (hx : e.kindOf "draw" = some .cell := by rfl) : wpAny (model prog w) A (eval (.Subscript (.Name "draw" p1) (.Constant (.int 0) k4 p2) p3) e) Q E s := by
  obtain ⟨vs, hl, t, e0⟩ := hl.at_ (k := 0) (by decide)
  exact Subscript_ (eCl hc hv (wpAny_Constant_int (item_list hl (by decide) (by decide) e0 (h t _))) hk hx)

theorem s_many {Q : Flow → Shared → Prop} (X : LwS B L s m cm) (hd : cm "draw" = some (.ref ad)) (hl : DrawL s.heap ad zs)
    (h : ∀ s' t, LwS B L s' m (fun y => if y = "many" then some (.int (nOf zs : Int) t) else cm y) → Stp L s s' → Q .next s') :
    wpAny (model prog w) A (exec (nthS 1 (bodyS lawDef)) (envW L fa cd)) Q E s := by
  have hc := X.cl.cell "draw" (L + 2) (by kernel_rfl)
  rw [hd] at hc
  refine wpAny_Assign_Name (wpAny_BinOp (wpAny_Constant_int (wpAny_BinOp (draw0 (e := envW L fa cd) (c := L + 2) (by kernel_rfl) hc hl fun t tk => wpAny_Constant_int (mod_int' (by decide) (P.add_int ?_))))))
  have X₂ := X.grow (tk := tk + 1 + 1 + 1) (h' := s.heap) fun _ _ e => e
  refine stCl (c := L + 3) X₂ (by kernel_rfl) fun s' X' S' => ?_
  have e : (2 + ((dr zs 0 : Nat) : Int).fmod 4) = (nOf zs : Int) := by
    unfold nOf
    rw [Int.fmod_eq_emod_of_nonneg _ (by decide)]
    omega
  rw [e] at X'
  exact h s' _ X' ((Stp.grow fun _ _ e => e).trans S')
end
end Mine
end

/- part L5 -/
section
open PySem PySem.W PyProof PyProof.Rows PySem.W.X
set_option maxRecDepth 100000
namespace Mine

def tsOf (zs : List Int) (p : Nat) : List Nat := (List.range (dr zs (1 + p) % 3)).map fun k => dr zs (1 + p) / 3 / 6 ^ k % 6 % nOf zs
abbrev RowL (h : Heap) (a p : Nat) (ts : List Nat) : Prop := ∃ vs : List Value, h.PlainList a vs.toArray ∧ IntsAre vs ((p :: ts).map fun (x : Nat) => (x : Int))

theorem fdivN (a b : Nat) : ((a : Nat) : Int).fdiv (b : Int) = ((a / b : Nat) : Int) := by
  rw [Int.fdiv_eq_ediv_of_nonneg _ (Int.natCast_nonneg b)]; rfl
theorem fmodN (a b : Nat) : ((a : Nat) : Int).fmod (b : Int) = ((a % b : Nat) : Int) := by
  rw [Int.fmod_eq_emod_of_nonneg _ (Int.natCast_nonneg b)]; rfl

section
variable {prog : Program} {w : World} {A : Around} {E : Value → Shared → Prop} {s : Shared} {B : Heap} {mg mb : Str → Option Value} {L fa : Nat} {cd : Value} {m cm : Str → Option Value} {zs : List Int} {ad aw : Nat}

theorem add_ls {l b : Addr} {vs ws : List Value} {Q : Value → Shared → Prop} (hl : s.heap.PlainList l vs.toArray) (hb : s.heap.PlainList b ws.toArray)
    (h : Q (.ref s.heap.objs.size) { s with heap := s.heap.push { cls := .type "list", data := .seq (vs ++ ws).toArray } }) (hsz : vs.length + ws.length ≤ sizeLine) :
    wpAny (model prog w) A (binaryOp .Add (.ref l) (.ref b)) Q E s := by
  obtain ⟨n, ho⟩ := hl
  obtain ⟨n2, ho2⟩ := hb
  have e : vs.toArray ++ ws.toArray = (vs ++ ws).toArray := by simp
  refine concat_meets ⟨_, ho, rfl⟩ ⟨_, ho2, rfl⟩ noFill_list_add seq_list_add PySem.F.slot_list_add PySem.F.entry_list_add (PySem.F.args_list_add_2 _ _) (list_addW l b vs.toArray ws.toArray n n2 none none #[] #[] (by simpa using hsz)) ⟨ho, ho2, ?_⟩
  rw [e]
  exact h

/-- draw[1 + place] -/
theorem draw1 {e : Env} {c cp : Addr} {Q : Value → Shared → Prop} {p1 p2 p3 p4 p5 : Pos} {k4 p : Nat} {tp : Tok} (hc : e.cells.lookup ("draw" : Str) = some c) (hv : s.heap.IsCell c (some (.ref ad))) (hl : DrawL s.heap ad zs) (hcp : e.cells.lookup ("place" : Str) = some cp) (hvp : s.heap.IsCell cp (some (.int (p : Int) tp))) (hp : p < 5)
    (h : ∀ t tk, Q (.int (dr zs (1 + p) : Int) t) { s with toks := tk })
    (hk : e.scope.kind = .function := by rfl) (hx : e.kindOf "draw" = some .cell := by rfl) (hx2 : e.kindOf "place" = some .cell := by rfl) : wpAny (model prog w) A (eval (.Subscript (.Name "draw" p1) (.BinOp (.Constant (.int 1) k4 p2) .Add (.Name "place" p4) p5) p3) e) Q E s := by
  obtain ⟨vs, hl, t, e0⟩ := hl.at_ (k := 1 + p) (by omega)
  refine Subscript_ (eCl hc hv (wpAny_BinOp (wpAny_Constant_int (eCl hcp hvp (P.add_int (item_list hl (by omega) (by omega) ?_ (h t _))) hk hx2))) hk hx)
  have : (1 + (p : Int)) = ((1 + p : Nat) : Int) := by omega
  rw [this]; exact e0

def webScope : Scope := match nthS 2 (bodyS lawDef) with
  | .Assign _ (.ListComp _ _ sc _) _ => sc
  | _ => default
def rowExpr : Expr := match nthS 2 (bodyS lawDef) with
  | .Assign _ (.ListComp e _ _ _) _ => e
  | _ => default
def compOf : Expr → Expr
  | .BinOp _ _ r _ => r
  | _ => default
def scopeE : Expr → Scope
  | .ListComp _ _ sc _ => sc
  | _ => default
abbrev clWeb (L : Nat) : List (Str × Addr) := [("many", L + 3), ("draw", L + 2)]
abbrev clRow (L n₀ : Nat) : List (Str × Addr) := [("place", n₀ + 2), ("many", L + 3), ("draw", L + 2)]
abbrev envP (L fa : Nat) (cd : Value) (n₀ : Nat) : Env := compEnvC webScope (("place", n₀ + 2) :: clWeb L) (n₀ + 1) (envW L fa cd)

theorem row_elt {Q : Value → Shared → Prop} {n₀ C p i : Nat} {mm : Str → Option Value} {tp ti tm : Tok} (hp : p < 5) (hm : s.heap.Ns C mm) (hx : mm "k" = some (.int (i : Int) ti)) (hi : i < 3)
    (hc : s.heap.IsCell (L + 2) (some (.ref ad))) (hn : s.heap.IsCell (L + 3) (some (.int (nOf zs : Int) tm))) (hpl : s.heap.IsCell (n₀ + 2) (some (.int (p : Int) tp))) (hl : DrawL s.heap ad zs)
    (h : ∀ t tk, Q (.int ((dr zs (1 + p) / 3 / 6 ^ i % 6 % nOf zs : Nat) : Int) t) { s with toks := tk }) :
    wpAny (model prog w) A (eval (match compOf rowExpr with | .ListComp e _ _ _ => e | _ => default) (compEnvC (scopeE (compOf rowExpr)) (clRow L n₀) C (envP L fa cd n₀))) Q E s := by
  have h6 : i = 0 ∨ i = 1 ∨ i = 2 := by omega
  have hpw : ((6 : Int) ^ ((i : Int)).toNat) = ((6 ^ i : Nat) : Int) := by rcases h6 with rfl | rfl | rfl <;> decide
  have hpos : (6 ^ i : Nat) ≠ 0 ∧ (6 ^ i : Nat) < 1000 := by rcases h6 with rfl | rfl | rfl <;> decide
  have hn2 := nOf_ge zs
  refine wpAny_BinOp (wpAny_BinOp (wpAny_BinOp (wpAny_BinOp (draw1 (c := L + 2) (cp := n₀ + 2) (by rfl) hc hl (by rfl) hpl hp fun t tk => wpAny_Constant_int (floordiv_int (by decide) ?_ (.inl (noPylong_small (by decide))))))))
  refine wpAny_BinOp (wpAny_Constant_int (eL (m := mm) hm hx (pow_int_small (by omega) (by omega) (by decide) ?_)))
  rw [hpw]
  generalize 6 ^ i = q at hpos ⊢ h
  refine floordiv_int (by omega) (wpAny_Constant_int (mod_int' (by decide) (eCl (c := L + 3) (by rfl) hn (mod_int' (by omega) ?_)))) (.inl (noPylong_small (by rw [Int.natAbs_natCast]; omega)))
  have e : (((((dr zs (1 + p) : Nat) : Int).fdiv 3).fdiv (q : Int)).fmod 6).fmod (nOf zs : Int) = ((dr zs (1 + p) / 3 / q % 6 % nOf zs : Nat) : Int) := by
    rw [show (3 : Int) = ((3 : Nat) : Int) from rfl, show (6 : Int) = ((6 : Nat) : Int) from rfl, fdivN, fdivN, fmodN, fmodN]
  rw [e]
  exact h _ _
end
end Mine
end

/- part L6 -/
section
open PySem PySem.W PyProof PyProof.Rows PySem.W.X
set_option maxRecDepth 100000
namespace Mine
section
variable {prog : Program} {w : World} {A : Around} {E : Value → Shared → Prop} {s : Shared} {B : Heap} {mg mb : Str → Option Value} {L fa : Nat} {cd : Value} {m cm : Str → Option Value} {zs : List Int} {ad aw : Nat}

theorem cell_keep {h h' : Heap} {c : Addr} {v : Option Value} (x : h.IsCell c v) (k : ∀ b o, h.get? b = some o → h'.get? b = some o) : h'.IsCell c v := let ⟨o, e, r⟩ := x; ⟨o, k _ _ e, r⟩

set_option maxHeartbeats 2000000 in
theorem row_make {Q : Value → Shared → Prop} {n₀ p : Nat} {tp tm : Tok} (hA : A.handled = none) (G : Gl B mg mb) (kB : ∀ b o, B.get? b = some o → s.heap.get? b = some o) (hp : p < 5)
    (hc : s.heap.IsCell (L + 2) (some (.ref ad))) (hn : s.heap.IsCell (L + 3) (some (.int (nOf zs : Int) tm))) (hpl : s.heap.IsCell (n₀ + 2) (some (.int (p : Int) tp))) (hl : DrawL s.heap ad zs)
    (h : ∀ a h' tk, (∀ (b : Nat) o, s.heap.get? b = some o → h'.get? b = some o) → s.heap.objs.size ≤ a → RowL h' a p (tsOf zs p) → Q (.ref a) { s with heap := h', toks := tk }) :
    wpAny (model prog w) A (eval rowExpr (envP L fa cd n₀)) Q E s := by
  refine wpAny_BinOp (wpAny_List (wpAny_items_cons (eCl (c := n₀ + 2) (by rfl) hpl (wpAny_items_nil ⟨by show 1 ≤ sizeLine; decide, ?_⟩))))
  have k1 : ∀ (b : Nat) o, s.heap.get? b = some o → (s.heap.push { cls := .type "list", data := .seq [Value.int (p : Int) tp].toArray }).get? b = some o := fun b o e => Heap.get?_push_of_some _ e
  have hl1 : (s.heap.push { cls := .type "list", data := .seq [Value.int (p : Int) tp].toArray }).PlainList s.heap.objs.size [Value.int (p : Int) tp].toArray := ⟨0, Heap.get?_push_size _ rfl⟩
  generalize hh1 : s.heap.push { cls := .type "list", data := .seq [Value.int (p : Int) tp].toArray } = h1 at k1 hl1
  have hs1 : s.heap.objs.size < h1.objs.size := let ⟨_, e⟩ := hl1; Heap.lt_size e
  have hdl := hl.keep k1
  refine lcL (cl := clRow L n₀) (env := envP L fa cd n₀) (by rfl) (fun h => by rfl) (fun n => by rfl) (by rfl) (by decide +kernel) (by decide +kernel) ?_
  refine range_it (B := B) G (fun b o e => k1 b o (kB b o e)) (wpAny_BinOp (draw1 (c := L + 2) (cp := n₀ + 2) (by rfl) (cell_keep hc k1) hdl (by rfl) (cell_keep hpl k1) hp fun t tk => wpAny_Constant_int (mod_int' (by decide) ?_)))
  refine ⟨dr zs (1 + p) % 3, _, congrArg (fun z => Value.int z _) (fmodN _ 3), by omega, fun Ia h' tk2 k hI1 hI2 hI => ?_⟩
  refine compInts (s := { s with heap := h1 }) hA (fun _ => true) (fun k => ((dr zs (1 + p) / 3 / 6 ^ k % 6 % nOf zs : Nat) : Int)) (by have : dr zs (1 + p) % 3 < 3 := Nat.mod_lt _ (by decide); rw [sizeLine_eq]; omega) hI hI2 (fun o e => Nat.lt_irrefl _ (Nat.lt_of_lt_of_le (Heap.lt_size e) hI1)) k (fun i C mm h₂ tk₂ E' t hi hm hx kk => wpAny_pure ⟨keeps_refl _, rfl⟩) (fun i C mm h₂ tk₂ E' t hi _ hm hx kk => ?_) (fun a h₂ tk₂ vs' ha kk hpp hvs => ?_)
  · have kk2 : ∀ (b : Nat) o, s.heap.get? b = some o → h₂.get? b = some o := fun b o e => kk b o (k1 b o e)
    exact row_elt hp hm hx (by omega) (cell_keep hc kk2) (cell_keep hn kk2) (cell_keep hpl kk2) (hl.keep kk2) fun t tk => ⟨⟨h₂, _, rfl, fun _ _ e => e⟩, _, rfl⟩
  · have hp1 : h₂.PlainList s.heap.objs.size [Value.int (p : Int) tp].toArray := let ⟨k, e⟩ := hl1; ⟨k, kk _ _ e⟩
    have hlen : vs'.length ≤ 3 := by
      rw [hvs.length, numsTo_all, List.length_map, List.length_range]
      have : dr zs (1 + p) % 3 < 3 := Nat.mod_lt _ (by decide)
      omega
    refine add_ls hp1 hpp ?_ (by rw [sizeLine_eq]; simp only [List.length_singleton]; omega)
    have hbig : s.heap.objs.size ≤ h₂.objs.size := by
      obtain ⟨k0, e⟩ := hp1
      exact Nat.le_of_lt (Heap.lt_size e)
    refine h h₂.objs.size _ _ (fun b o e => Heap.get?_push_of_some _ (kk b o (k1 b o e))) hbig ⟨_, ⟨0, Heap.get?_push_size _ rfl⟩, ?_⟩
    rw [numsTo_all] at hvs
    show IntsAre (Value.int (p : Int) tp :: vs') _
    rw [List.map_cons]
    refine .cons _ _ ?_
    unfold tsOf
    rw [List.map_map]
    exact hvs
end
end Mine
end

/- part L7 -/
section
open PySem PySem.W PyProof PyProof.Rows PySem.W.X
set_option maxRecDepth 100000
namespace Mine

theorem rowL_keep {h h' : Heap} {a p : Nat} {ts : List Nat} (x : RowL h a p ts) (k : ∀ o, h.get? a = some o → h'.get? a = some o) : RowL h' a p ts :=
  let ⟨vs, ⟨n, e⟩, b⟩ := x; ⟨vs, ⟨n, k _ e⟩, b⟩

def snocR (ra : Nat → Nat) (i a : Nat) : Nat → Nat := fun p => if p = i then a else ra p
theorem snocR_at (ra : Nat → Nat) (i a : Nat) : snocR ra i a i = a := if_pos rfl
theorem snocR_ne (ra : Nat → Nat) {i a p : Nat} (h : p ≠ i) : snocR ra i a p = ra p := if_neg h
theorem ra_snoc (ra : Nat → Nat) (i a : Nat) : (List.range i).map (fun p => Value.ref (ra p)) ++ [Value.ref a] = (List.range (i + 1)).map (fun p => Value.ref (snocR ra i a p)) := by
  rw [List.range_succ, List.map_append, List.map_singleton, snocR_at]
  congr 1
  refine List.map_congr_left fun p hp => ?_
  rw [snocR_ne _ (Nat.ne_of_lt (List.mem_range.mp hp))]

section
variable {prog : Program} {w : World} {A : Around} {E : Value → Shared → Prop} {s : Shared} {B : Heap} {mg mb : Str → Option Value} {L fa : Nat} {cd : Value} {m cm : Str → Option Value} {zs : List Int} {ad aw : Nat}

set_option maxHeartbeats 2000000 in
theorem s_web {Q : Flow → Shared → Prop} {tm : Tok} (X : LwS B L s m cm) (I : LB w B mg mb) (hA : A.handled = none) (hd : cm "draw" = some (.ref ad)) (hl : DrawL s.heap ad zs) (hn : cm "many" = some (.int (nOf zs : Int) tm))
    (h : ∀ s' aw (ra : Nat → Nat), LwS B L s' m (fun y => if y = "web" then some (.ref aw) else cm y) → Stp L s s' → aw ∉ hidL L → s.heap.objs.size ≤ aw → s'.heap.PlainList aw ((List.range (nOf zs)).map fun p => Value.ref (ra p)).toArray →
      (∀ p, p < nOf zs → ra p ∉ hidL L ∧ ra p ≠ aw ∧ s.heap.objs.size ≤ ra p ∧ RowL s'.heap (ra p) p (tsOf zs p)) → Q .next s') :
    wpAny (model prog w) A (exec (nthS 2 (bodyS lawDef)) (envW L fa cd)) Q E s := by
  have G := I.gl
  have hcD := X.cl.cell "draw" (L + 2) (by kernel_rfl)
  rw [hd] at hcD
  have hcN := X.cl.cell "many" (L + 3) (by kernel_rfl)
  rw [hn] at hcN
  refine wpAny_Assign_Name (lcC (cl := clWeb L) (env := envW L fa cd) (by rfl) (fun h => by rfl) (fun n => by rfl) (by rfl) (by decide +kernel) (by rfl) ?_)
  refine range_it G X.fr.keep (eCl (c := L + 3) (by rfl) hcN ⟨nOf zs, _, rfl, by have := nOf_le zs; omega, fun Ia h' tk k hI1 hI2 hI => ?_⟩)
  have hmu : ∀ (b : Nat) o, s.heap.get? b = some o → ¬ muOf [Ia] [h'.objs.size + 1, h'.objs.size + 2] h'.objs.size b := fun b o e q => by
    have hb := Heap.lt_size (k b o e)
    have hb0 : b < Ia := Nat.lt_of_lt_of_le (Heap.lt_size e) hI1
    rcases q with q | q | q
    · rw [List.mem_singleton.mp q] at hb0; exact Nat.lt_irrefl _ hb0
    · exact Nat.ne_of_lt hb q
    · rcases List.mem_cons.mp q with q | q
      · rw [q] at hb; exact Nat.lt_asymm hb (Nat.lt_succ_self _)
      · rw [List.mem_singleton.mp q] at hb; exact Nat.lt_asymm hb (Nat.lt_add_of_pos_right (by decide))
  have hbig : ∀ (b : Nat), h'.objs.size + 2 < b → ¬ muOf [Ia] [h'.objs.size + 1, h'.objs.size + 2] h'.objs.size b := fun b hb q => by
    rcases q with q | q | q
    · rw [List.mem_singleton.mp q] at hb; omega
    · omega
    · rcases List.mem_cons.mp q with q | q
      · omega
      · rw [List.mem_singleton.mp q] at hb; omega
  refine ⟨Ia, [Ia], [Ia], nOf zs, _, _, fun i ys h => ∃ ra : Nat → Nat, ys = ((List.range i).map fun p => Value.ref (ra p)) ∧ ∀ p, p < i → h'.objs.size + 2 < ra p ∧ RowL h (ra p) p (tsOf zs p), h'.objs.size, rfl, Walks.range hA Ia 0 1 (nOf zs), rfl, by rw [sizeLine_eq]; have := nOf_le zs; omega, hI, fun b hb => by rw [List.mem_singleton.mp hb]; exact hI2, ?_, ?_, ?_, ?_⟩
  · rintro i ys h1 h2 hk ⟨ra, rfl, hr⟩
    exact ⟨ra, rfl, fun p hp => ⟨(hr p hp).1, rowL_keep (hr p hp).2 fun o e => hk _ o (hbig _ (hr p hp).1) e⟩⟩
  · intro h1 hk
    exact ⟨fun _ => 0, rfl, fun p hp => absurd hp (Nat.not_lt_zero p)⟩
  · intro i v ys h₂ tk₂ E' hi hP hF hB hJ hlen hkk
    obtain ⟨t, rfl⟩ := hP
    obtain ⟨_, hpl⟩ := hB
    rw [Int.mul_one, Int.zero_add] at hpl
    obtain ⟨ra, rfl, hr⟩ := hJ
    have kk : ∀ (b : Nat) o, s.heap.get? b = some o → h₂.get? b = some o := fun b o e => hkk b o (hmu b o e) (k b o e)
    have hsz2 : h'.objs.size + 2 < h₂.objs.size := let ⟨_, e, _⟩ := hpl; Heap.lt_size e
    refine wpAny_pure ⟨keeps_refl _, ?_⟩
    rw [if_pos rfl]
    refine row_make (zs := zs) (ad := ad) (n₀ := h'.objs.size) hA G (fun b o e => kk b o (X.fr.keep b o e)) (p := i) (by have := nOf_le zs; omega) (cell_keep hcD kk) (cell_keep hcN kk) hpl (hl.keep kk) fun a h₃ tk₃ k₃ ha hrow => ⟨⟨h₃, tk₃, rfl, k₃⟩, snocR ra i a, ra_snoc ra i a, fun p hp => ?_⟩
    by_cases hpi : p = i
    · subst hpi
      rw [snocR_at]
      exact ⟨Nat.lt_of_lt_of_le hsz2 ha, hrow⟩
    · rw [snocR_ne _ hpi]
      have hp' : p < i := by omega
      exact ⟨(hr p hp').1, rowL_keep (hr p hp').2 fun o e => k₃ _ o e⟩
  · intro h₂ tk₂ ys hJ hpl hkk
    obtain ⟨ra, rfl, hr⟩ := hJ
    have kk : ∀ (b : Nat) o, s.heap.get? b = some o → h₂.get? b = some o := fun b o e => hkk b o (hmu b o e) (k b o e)
    have X₂ : LwS B L { s with heap := h₂, toks := tk₂ } m cm := X.grow kk
    have hle : s.heap.objs.size ≤ h'.objs.size := Nat.le_of_lt (Nat.lt_of_le_of_lt hI1 hI2)
    have hah : h'.objs.size ∉ hidL L := fresh_hid X hle
    refine stCl (c := L + 4) X₂ (by kernel_rfl) fun s' X' S' => ?_
    refine h s' h'.objs.size ra X' ((Stp.grow kk).trans S') hah hle ?_ fun p hp => ?_
    · obtain ⟨k0, e⟩ := hpl
      exact ⟨k0, S'.keep _ _ hah e⟩
    · have h1 := (hr p hp).1
      have hrh : ra p ∉ hidL L := fresh_hid X (by omega)
      exact ⟨hrh, by omega, by omega, rowL_keep (hr p hp).2 fun o e => S'.keep _ o hrh e⟩
end
end Mine
end

/- part L8 -/
section
open PySem PySem.W PyProof PyProof.Rows PySem.W.X
set_option maxRecDepth 100000
namespace Mine

def zOf (zs : List Int) : Nat := dr zs 0 / 12 % nOf zs
def rowOf (zs : List Int) (p : Nat) : Option (List Nat) := if 0 < dr zs 0 / 4 % 3 ∧ p = zOf zs then none else some (tsOf zs p)
abbrev RowO (h : Heap) (a p : Nat) : Option (List Nat) → Prop
  | none => h.PlainList a #[]
  | some ts => RowL h a p ts
theorem rowO_keep {h h' : Heap} {a p : Nat} : ∀ {r : Option (List Nat)}, RowO h a p r → (∀ o, h.get? a = some o → h'.get? a = some o) → RowO h' a p r
  | none, ⟨n, e⟩, k => ⟨n, k _ e⟩
  | some _, x, k => rowL_keep x k

/-- the web in the heap -/
structure WebA (zs : List Int) (L : Nat) (aw : Nat) (ra : Nat → Nat) (h : Heap) : Prop where
  hid : aw ∉ hidL L
  all : h.IsList aw ((List.range (nOf zs)).map fun p => Value.ref (ra p)).toArray
  rows : ∀ p, p < nOf zs → ra p ∉ hidL L ∧ ra p ≠ aw ∧ RowO h (ra p) p (rowOf zs p)
theorem WebA.keep {zs : List Int} {L aw : Nat} {ra : Nat → Nat} {h h' : Heap} (x : WebA zs L aw ra h) (k : ∀ (b : Nat) o, b ∉ hidL L → h.get? b = some o → h'.get? b = some o) : WebA zs L aw ra h' :=
  ⟨x.hid, lst_keepN x.all x.hid k, fun p hp => ⟨(x.rows p hp).1, (x.rows p hp).2.1, rowO_keep (x.rows p hp).2.2 fun o e => k _ o (x.rows p hp).1 e⟩⟩

theorem map_set (ra : Nat → Nat) {n z a : Nat} (hz : z < n) : (((List.range n).map fun p => Value.ref (ra p)).toArray.setIfInBounds z (Value.ref a)) = ((List.range n).map fun p => Value.ref (snocR ra z a p)).toArray := by
  rw [List.setIfInBounds_toArray]
  congr 1
  apply List.ext_getElem?
  intro i
  rw [List.getElem?_set]
  by_cases h : z = i
  · subst h
    rw [if_pos rfl, if_pos (by simpa using hz)]
    simp [hz, snocR_at]
  · rw [if_neg h]
    by_cases hi : i < n
    · simp [hi, snocR_ne ra (Ne.symm h)]
    · simp [hi]

theorem TabI.fields {hid : List Nat} {h h' : Heap} (x : TabI hid h) (k : ∀ (b : Nat) o vs, h.get? b = some o → o.data = .fields vs → h'.get? b = some o) : TabI hid h' := by
  obtain ⟨z, ps, a, b, d⟩ := x
  refine ⟨z, ps, k _ _ _ a rfl, b, fun e he cv ec => ⟨(d e he cv ec).1, ?_⟩⟩
  obtain ⟨c', o, vs, t, e1, e2, e3, e4⟩ := (d e he cv ec).2
  exact ⟨c', o, vs, t, e1, k _ _ _ e2 e3, e3, e4⟩

section
variable {prog : Program} {w : World} {A : Around} {E : Value → Shared → Prop} {s : Shared} {B : Heap} {mg mb : Str → Option Value} {L fa : Nat} {cd : Value} {m cm : Str → Option Value} {zs : List Int} {ad aw : Nat}

theorem blank_test {Q : Bool → Shared → Prop} {p1 p2 p3 p4 p5 p6 p7 p8 p9 : Pos} {k1 k2 k3 k4 : Nat} {wh : Sem Value} (hcD : s.heap.IsCell (L + 2) (some (.ref ad))) (hl : DrawL s.heap ad zs)
    (h : ∀ tk, Q (decide (0 < dr zs 0 / 4 % 3)) { s with toks := tk }) :
    wpAny (model prog w) A (PySem.isTrue (.Compare (.BinOp (.BinOp (.Subscript (.Name "draw" p1) (.Constant (.int 0) k1 p2) p3) .FloorDiv (.Constant (.int 4) k2 p4) p5) .Mod (.Constant (.int 3) k3 p6) p7) [.Gt] [.Constant (.int 0) k4 p8] p9) (envW L fa cd) wh) Q E s := by
  refine wpAny_isTrue_Compare1 (wpAny_BinOp (wpAny_BinOp (draw0 (e := envW L fa cd) (c := L + 2) (by kernel_rfl) hcD hl fun t tk => wpAny_Constant_int (floordiv_int (by decide) (wpAny_Constant_int (mod_int' (by decide) (wpAny_Constant_int (P.gt_int (wpAny_truthy_bool ?_))))) (.inl (noPylong_small (by decide)))))))
  rw [show (4 : Int) = ((4 : Nat) : Int) from rfl, show (3 : Int) = ((3 : Nat) : Int) from rfl, fdivN, fmodN]
  have e : decide ((((dr zs 0 / 4 % 3 : Nat) : Int)) > 0) = decide (0 < dr zs 0 / 4 % 3) := by
    by_cases hb : 0 < dr zs 0 / 4 % 3
    · rw [decide_eq_true hb, decide_eq_true (by omega)]
    · rw [decide_eq_false hb, decide_eq_false (by omega)]
  rw [e]
  exact h _

theorem blank_ix {Q : Value → Shared → Prop} {p1 p2 p3 p4 p5 p6 p7 : Pos} {k1 k2 : Nat} {tm : Tok} (hcD : s.heap.IsCell (L + 2) (some (.ref ad))) (hcN : s.heap.IsCell (L + 3) (some (.int (nOf zs : Int) tm))) (hl : DrawL s.heap ad zs)
    (h : ∀ t tk, Q (.int (zOf zs : Int) t) { s with toks := tk }) :
    wpAny (model prog w) A (eval (.BinOp (.BinOp (.Subscript (.Name "draw" p1) (.Constant (.int 0) k1 p2) p3) .FloorDiv (.Constant (.int 12) k2 p4) p5) .Mod (.Name "many" p6) p7) (envW L fa cd)) Q E s := by
  have hn2 := nOf_ge zs
  refine wpAny_BinOp (wpAny_BinOp (draw0 (e := envW L fa cd) (c := L + 2) (by kernel_rfl) hcD hl fun t2 tk2 => wpAny_Constant_int (floordiv_int (by decide) (eCl (e := envW L fa cd) (c := L + 3) (by kernel_rfl) hcN (mod_int' (by omega) ?_)) (.inl (noPylong_small (by decide))))))
  rw [show (12 : Int) = ((12 : Nat) : Int) from rfl, fdivN, fmodN]
  exact h _ _

theorem blank_do {Q : Flow → Shared → Prop} {tm : Tok} {ra : Nat → Nat} (X : LwS B L s m cm) (hl : DrawL s.heap ad zs) (hcD : s.heap.IsCell (L + 2) (some (.ref ad))) (hcN : s.heap.IsCell (L + 3) (some (.int (nOf zs : Int) tm))) (hcW : s.heap.IsCell (L + 4) (some (.ref aw)))
    (hah : aw ∉ hidL L) (hall : s.heap.IsList aw ((List.range (nOf zs)).map fun p => Value.ref (ra p)).toArray)
    (h : ∀ h₂ tk a, s.heap.objs.size ≤ a → (∀ (b : Nat) o, b ≠ aw → s.heap.get? b = some o → h₂.get? b = some o) → h₂.PlainList a #[] → h₂.IsList aw ((List.range (nOf zs)).map fun p => Value.ref (snocR ra (zOf zs) a p)).toArray → Q .next { s with heap := h₂, toks := tk }) :
    wpAny (model prog w) A (execs (bodyS (nthS 3 (bodyS lawDef))) (envW L fa cd)) Q E s := by
  have hn2 := nOf_ge zs
  have hn5 := nOf_le zs
  have hz : zOf zs < nOf zs := Nat.mod_lt _ (by omega)
  refine wpAny_execs_cons (wpAny_Assign_Subscript (wpAny_List (wpAny_items_nil ⟨by decide, ?_⟩)))
  have k1 : ∀ (b : Nat) o, s.heap.get? b = some o → (s.heap.push { cls := .type "list", data := .seq ([] : List Value).toArray }).get? b = some o := fun b o e => Heap.get?_push_of_some _ e
  have hp1 : (s.heap.push { cls := .type "list", data := .seq ([] : List Value).toArray }).PlainList s.heap.objs.size #[] := ⟨0, Heap.get?_push_size _ rfl⟩
  have hawlt : aw < s.heap.objs.size := let ⟨_, e, _⟩ := hall; Heap.lt_size e
  generalize hh1 : s.heap.push { cls := .type "list", data := .seq ([] : List Value).toArray } = h1 at k1 hp1
  have hcD1 : h1.IsCell (L + 2) (some (.ref ad)) := cell_keep hcD k1
  have hcN1 : h1.IsCell (L + 3) (some (.int (nOf zs : Int) tm)) := cell_keep hcN k1
  have hcW1 : h1.IsCell (L + 4) (some (.ref aw)) := cell_keep hcW k1
  have hl1 : DrawL h1 ad zs := hl.keep k1
  have hall1 := lst_keep hall k1
  refine eCl (e := envW L fa cd) (c := L + 4) (by kernel_rfl) hcW1 (blank_ix hcD1 hcN1 hl1 fun t tk => ?_)
  refine wpAny_setItem_list hall1 (by omega) (by omega) (by rw [List.size_toArray, List.length_map, List.length_range]; omega) fun h₂ hl₂ hs₂ => ?_
  rw [Int.toNat_natCast, map_set ra hz] at hl₂
  have kk : ∀ (b : Nat) o, b ≠ aw → s.heap.get? b = some o → h₂.get? b = some o := fun b o n e => (hs₂.2 b n).trans (k1 b o e)
  obtain ⟨k0, e0⟩ := hp1
  exact wpAny_execs_nil (h h₂ _ s.heap.objs.size (Nat.le_refl _) kk ⟨k0, (hs₂.2 _ (Nat.ne_of_gt hawlt)).trans e0⟩ hl₂)

theorem s_blank {Q : Flow → Shared → Prop} {tm : Tok} {ra : Nat → Nat} (X : LwS B L s m cm) (hd : cm "draw" = some (.ref ad)) (hl : DrawL s.heap ad zs) (hn : cm "many" = some (.int (nOf zs : Int) tm)) (hw : cm "web" = some (.ref aw))
    (hah : aw ∉ hidL L) (hall : s.heap.IsList aw ((List.range (nOf zs)).map fun p => Value.ref (ra p)).toArray) (hrows : ∀ p, p < nOf zs → ra p ∉ hidL L ∧ ra p ≠ aw ∧ RowL s.heap (ra p) p (tsOf zs p)) (hBaw : B.get? aw = none)
    (h : ∀ s' ra', LwS B L s' m cm → (∀ (b : Nat) o, b ∉ hidL L → b ≠ aw → s.heap.get? b = some o → s'.heap.get? b = some o) → s'.gens = s.gens → s'.os = s.os → s'.drawn = s.drawn → WebA zs L aw ra' s'.heap → Q .next s') :
    wpAny (model prog w) A (exec (nthS 3 (bodyS lawDef)) (envW L fa cd)) Q E s := by
  have hcD := X.cl.cell "draw" (L + 2) (by kernel_rfl)
  rw [hd] at hcD
  have hcN := X.cl.cell "many" (L + 3) (by kernel_rfl)
  rw [hn] at hcN
  have hcW := X.cl.cell "web" (L + 4) (by kernel_rfl)
  rw [hw] at hcW
  refine wpAny_If (blank_test hcD hl fun tk => ?_)
  by_cases hb : 0 < dr zs 0 / 4 % 3
  · rw [if_pos (decide_eq_true hb)]
    refine blank_do (s := { s with toks := tk }) (X.grow (h' := s.heap) fun _ _ e => e) hl hcD hcN hcW hah hall fun h₂ tk₂ a ha kk hpa hl₂ => ?_
    have hnew := fresh_hid X ha
    refine h _ (snocR ra (zOf zs) a) ⟨⟨X.fr.ns.at' fun o e => kk _ o (fun q => hah (by rw [← q]; exact mem_hid)) e, fun b o e => kk b o (fun q => by rw [q, hBaw] at e; cases e) (X.fr.keep b o e), X.fr.above⟩, ⟨fun n c e => ?_, X.cl.apart, X.cl.above⟩, X.tab.fields (fun b o vs e hf => kk b o (fun q => ?_) e), X.h188⟩ (fun b o _ n e => kk b o n e) rfl rfl rfl ⟨hah, hl₂, fun p hp => ?_⟩
    · obtain ⟨o, e1, e2⟩ := X.cl.cell n c e
      exact ⟨o, kk _ o (fun q => hah (by rw [← q]; exact cell_hid e)) e1, e2⟩
    · obtain ⟨oA, a1, _, n1, a2⟩ := hall
      rw [q, show s.heap.get? aw = some oA from a1] at e
      cases e
      rw [a2] at hf
      cases hf
    · have hawlt : aw < s.heap.objs.size := let ⟨_, e, _⟩ := hall; Heap.lt_size e
      have ha' : s.heap.objs.size ≤ a := ha
      by_cases hpz : p = zOf zs
      · subst hpz
        rw [snocR_at]
        refine ⟨hnew, by omega, ?_⟩
        unfold rowOf
        rw [if_pos ⟨hb, rfl⟩]
        exact hpa
      · rw [snocR_ne _ hpz]
        refine ⟨(hrows p hp).1, (hrows p hp).2.1, ?_⟩
        unfold rowOf
        rw [if_neg (fun q => hpz q.2)]
        exact rowL_keep (hrows p hp).2.2 fun o e => kk _ o (hrows p hp).2.1 e
  · rw [if_neg (by rw [decide_eq_true_eq]; exact hb)]
    refine wpAny_execs_nil (h _ ra (X.grow (h' := s.heap) fun _ _ e => e) (fun b o _ _ e => e) rfl rfl rfl ⟨hah, hall, fun p hp => ⟨(hrows p hp).1, (hrows p hp).2.1, ?_⟩⟩)
    unfold rowOf
    rw [if_neg (fun q => hb q.1)]
    exact (hrows p hp).2.2
end
end Mine
end

/- part L9 -/
section
open PySem PySem.W PyProof PyProof.Rows PySem.W.X
set_option maxRecDepth 100000
namespace Mine

theorem LwS.any {B : Heap} {L : Nat} {s : Shared} {m m' cm : Str → Option Value} {h' : Heap} {tk : Nat} (X : LwS B L s m cm) (hn : h'.Ns L m') (k : ∀ (b : Nat) o, b ≠ L → s.heap.get? b = some o → h'.get? b = some o) :
    LwS B L { s with heap := h', toks := tk } m' cm ∧ Stp L s { s with heap := h', toks := tk } := by
  have kp : ∀ (b : Nat) o, b ∉ hidL L → s.heap.get? b = some o → h'.get? b = some o := fun b o n e => k b o (fun q => n (by rw [q]; exact mem_hid)) e
  refine ⟨⟨⟨hn, fun b o e => k b o (fun q => ?_) (X.fr.keep b o e), X.fr.above⟩, ⟨fun n c e => ?_, X.cl.apart, X.cl.above⟩, X.tab.on kp ?_, X.h188⟩, kp, rfl, rfl, rfl⟩
  · rw [q] at e
    exact Nat.lt_irrefl _ (Nat.lt_of_lt_of_le (Heap.lt_size e) X.fr.above)
  · obtain ⟨o, e1, e2⟩ := X.cl.cell n c e
    exact ⟨o, k _ o (Nat.ne_of_gt (X.cl.above n c (mem_of_lookup e))) e1, e2⟩
  · obtain ⟨_, ps, e, _⟩ := X.tab
    exact (k 188 _ (Nat.ne_of_lt X.h188) e).trans e.symm

section
variable {prog : Program} {w : World} {A : Around} {E : Value → Shared → Prop} {s : Shared} {B : Heap} {mg mb : Str → Option Value} {L fa : Nat} {cd : Value} {m cm : Str → Option Value} {zs : List Int} {ad aw : Nat}

/-- the made lists: apart, outside the frame, each as J says -/
structure ListsA (n L al : Nat) (la : Nat → Nat) (h : Heap) : Prop where
  hid : al ∉ hidL L
  all : h.IsList al ((List.range n).map fun p => Value.ref (la p)).toArray
  out : ∀ p, p < n → la p ∉ hidL L ∧ la p ≠ al
  inj : ∀ p q, p < n → q < n → la p = la q → p = q
theorem ListsA.keep {n L al : Nat} {la : Nat → Nat} {h h' : Heap} (x : ListsA n L al la h) (k : ∀ o, h.get? al = some o → h'.get? al = some o) : ListsA n L al la h' :=
  ⟨x.hid, let ⟨o, e, r⟩ := x.all; ⟨o, k _ e, r⟩, x.out, x.inj⟩

set_option maxHeartbeats 2000000 in
theorem s_lists {Q : Flow → Shared → Prop} {tm : Tok} (X : LwS B L s m cm) (I : LB w B mg mb) (hA : A.handled = none) (hn : cm "many" = some (.int (nOf zs : Int) tm))
    (h : ∀ s' al (la : Nat → Nat), LwS B L s' (fun y => if y = "lists" then some (.ref al) else m y) cm → Stp L s s' → s.heap.objs.size ≤ al → (∀ p, p < nOf zs → s.heap.objs.size ≤ la p) → ListsA (nOf zs) L al la s'.heap → (∀ p, p < nOf zs → s'.heap.PlainList (la p) #[]) → Q .next s') :
    wpAny (model prog w) A (exec (nthS 4 (bodyS lawDef)) (envW L fa cd)) Q E s := by
  have G := I.gl
  have hcN := X.cl.cell "many" (L + 3) (by kernel_rfl)
  rw [hn] at hcN
  have hn5 := nOf_le zs
  refine asgL (cl := []) (env := envW L fa cd) (by rfl) (by rfl) (by rfl) (by rfl) (fun h => by rfl) (fun n => by rfl) (by rfl) (by decide +kernel) (by decide +kernel) ?_
  refine range_it G X.fr.keep (eCl (e := envW L fa cd) (c := L + 3) (by kernel_rfl) hcN ⟨nOf zs, _, rfl, by omega, fun Ia h' tk k hI1 hI2 hI => ?_⟩)
  have hmu : ∀ (b : Nat) o, s.heap.get? b = some o → ¬ muOf [Ia] [h'.objs.size + 1] h'.objs.size b := fun b o e q => by
    have hb := Heap.lt_size (k b o e)
    have hb0 : b < Ia := Nat.lt_of_lt_of_le (Heap.lt_size e) hI1
    rcases q with q | q | q
    · rw [List.mem_singleton.mp q] at hb0; exact Nat.lt_irrefl _ hb0
    · exact Nat.ne_of_lt hb q
    · rw [List.mem_singleton.mp q] at hb; exact Nat.lt_asymm hb (Nat.lt_succ_self _)
  have hbig : ∀ (b : Nat), h'.objs.size + 1 < b → ¬ muOf [Ia] [h'.objs.size + 1] h'.objs.size b := fun b hb q => by
    rcases q with q | q | q
    · rw [List.mem_singleton.mp q] at hb; omega
    · omega
    · rw [List.mem_singleton.mp q] at hb; omega
  refine ⟨Ia, [Ia], [Ia], nOf zs, _, _, fun i ys h => ∃ la : Nat → Nat, ys = ((List.range i).map fun p => Value.ref (la p)) ∧ (∀ p, p < i → h'.objs.size + 1 < la p ∧ h.PlainList (la p) #[]) ∧ ∀ p q, p < i → q < i → la p = la q → p = q, h'.objs.size, rfl, Walks.range hA Ia 0 1 (nOf zs), rfl, by rw [sizeLine_eq]; omega, hI, fun b hb => by rw [List.mem_singleton.mp hb]; exact hI2, ?_, ?_, ?_, ?_⟩
  · rintro i ys h1 h2 hk ⟨ra, rfl, hr, hinj⟩
    exact ⟨ra, rfl, fun p hp => ⟨(hr p hp).1, let ⟨k0, e⟩ := (hr p hp).2; ⟨k0, hk _ _ (hbig _ (hr p hp).1) e⟩⟩, hinj⟩
  · intro h1 hk
    exact ⟨fun _ => 0, rfl, fun p hp => absurd hp (Nat.not_lt_zero p), fun p q hp => absurd hp (Nat.not_lt_zero p)⟩
  · intro i v ys h₂ tk₂ E' hi hP hF hB hJ hlen hkk
    obtain ⟨mC, hmC, _⟩ := hB
    obtain ⟨ra, rfl, hr, hinj⟩ := hJ
    have hsz2 : h'.objs.size + 1 < h₂.objs.size := hmC.lt
    refine wpAny_pure ⟨keeps_refl _, ?_⟩
    rw [if_pos rfl]
    refine wpAny_List (wpAny_items_nil ⟨by decide, ⟨_, tk₂, rfl, fun b o e => Heap.get?_push_of_some _ e⟩, snocR ra i h₂.objs.size, ra_snoc ra i _, fun p hp => ?_, fun p q hp hq => ?_⟩)
    · by_cases hpi : p = i
      · subst hpi
        rw [snocR_at]
        exact ⟨hsz2, 0, Heap.get?_push_size _ rfl⟩
      · rw [snocR_ne _ hpi]
        have hp' : p < i := by omega
        exact ⟨(hr p hp').1, let ⟨k0, e⟩ := (hr p hp').2; ⟨k0, Heap.get?_push_of_some _ e⟩⟩
    · have old : ∀ r, r < i → ra r ≠ h₂.objs.size := fun r hr' => by
        obtain ⟨k0, e⟩ := (hr r hr').2
        exact Nat.ne_of_lt (Heap.lt_size e)
      intro e
      by_cases hpi : p = i
      · by_cases hqi : q = i
        · rw [hpi, hqi]
        · subst hpi
          rw [snocR_at, snocR_ne _ hqi] at e
          exact absurd e.symm (old q (by omega))
      · by_cases hqi : q = i
        · subst hqi
          rw [snocR_at, snocR_ne _ hpi] at e
          exact absurd e (old p (by omega))
        · rw [snocR_ne _ hqi, snocR_ne _ hpi] at e
          exact hinj p q (by omega) (by omega) e
  · intro h₂ tk₂ ys hJ hpl hkk
    obtain ⟨ra, rfl, hr, hinj⟩ := hJ
    have kk : ∀ (b : Nat) o, s.heap.get? b = some o → h₂.get? b = some o := fun b o e => hkk b o (hmu b o e) (k b o e)
    have hle : s.heap.objs.size ≤ h'.objs.size := Nat.le_of_lt (Nat.lt_of_le_of_lt hI1 hI2)
    have hLlt : L < s.heap.objs.size := X.fr.ns.lt
    have hah : h'.objs.size ∉ hidL L := fresh_hid X hle
    have hne : L ≠ h'.objs.size + 1 := by omega
    refine ⟨_, X.fr.ns.keeps kk, hne, fun h₃ hn₃ k₃ => ?_⟩
    obtain ⟨X', S'⟩ := X.any (tk := tk₂ + 1) hn₃ (fun b o n e => k₃ b o n (fun q => by have h0 : b < s.heap.objs.size := Heap.lt_size e; omega) (kk b o e))
    have k4 : ∀ (b : Nat) o, L < b → b ≠ h'.objs.size + 1 → h₂.get? b = some o → h₃.get? b = some o := fun b o n1 n2 e => k₃ b o (Nat.ne_of_gt n1) n2 e
    refine h _ h'.objs.size ra X' S' hle (fun p hp => by have := (hr p hp).1; omega) ⟨hah, ?_, fun p hp => ⟨fresh_hid X (by have := (hr p hp).1; omega), by have := (hr p hp).1; omega⟩, hinj⟩ fun p hp => ?_
    · obtain ⟨k0, e⟩ := hpl
      exact ⟨_, k4 _ _ (by omega) (by omega) e, rfl, k0, rfl⟩
    · obtain ⟨k0, e⟩ := (hr p hp).2
      have h1 := (hr p hp).1
      exact ⟨k0, k4 _ _ (by omega) (by omega) e⟩
end
end Mine
end

/- part M1 -/
section
open PySem PySem.W PyProof PyProof.Rows PySem.W.X
set_option maxRecDepth 100000
namespace Mine

theorem LwS.anyP {B : Heap} {L : Nat} {s : Shared} {m m' cm : Str → Option Value} {h' : Heap} {tk : Nat} (ex : Nat → Prop) (X : LwS B L s m cm) (hn : h'.Ns L m') (k : ∀ (b : Nat) o, b ≠ L → ¬ ex b → s.heap.get? b = some o → h'.get? b = some o)
    (hex : ∀ b, ex b → b ∉ hidL L ∧ B.get? b = none ∧ ∃ its, s.heap.PlainList b its) : LwS B L { s with heap := h', toks := tk } m' cm := by
  refine ⟨⟨hn, fun b o e => k b o (fun q => ?_) (fun q => ?_) (X.fr.keep b o e), X.fr.above⟩, ⟨fun n c e => ?_, X.cl.apart, X.cl.above⟩, X.tab.fields (fun b o vs e hf => k b o (fun q => ?_) (fun q => ?_) e), X.h188⟩
  · rw [q] at e
    exact Nat.lt_irrefl _ (Nat.lt_of_lt_of_le (Heap.lt_size e) X.fr.above)
  · rw [(hex b q).2.1] at e; cases e
  · obtain ⟨o, e1, e2⟩ := X.cl.cell n c e
    exact ⟨o, k _ o (Nat.ne_of_gt (X.cl.above n c (mem_of_lookup e))) (fun q => (hex c q).1 (cell_hid e)) e1, e2⟩
  · obtain ⟨o', es, ep, e1, e2, _⟩ := X.fr.ns
    rw [q, show s.heap.get? L = some o' from e1] at e
    cases e; rw [e2] at hf; cases hf
  · obtain ⟨its, n, e1⟩ := (hex b q).2.2
    rw [e1] at e; cases e; cases hf

def itemV (la : Nat → Nat) (i j : Nat) (v : Value) : Prop := if 0 < i then v = .ref (la j) else ∃ t, v = .int (j : Int) t
/-- a made list holds the first numbers of its row -/
def Filled (la : Nat → Nat) (nums : List Nat) (i : Nat) (items : Array Value) : Prop := items.size = i ∧ ∀ k j, k < i → nums[k]? = some j → ∃ v, items[k]? = some v ∧ itemV la k j v

section
variable {prog : Program} {w : World} {A : Around} {E : Value → Shared → Prop} {s : Shared} {B : Heap} {mg mb : Str → Option Value} {L fa : Nat} {cd : Value} {m cm : Str → Option Value} {zs : List Int} {ad aw n al : Nat} {la ra : Nat → Nat}

def appStmt : Stmt := nthS 0 (bodyS (nthS 0 (bodyS (nthS 5 (bodyS lawDef)))))
theorem app_one {Q : Flow → Shared → Prop} {p i j : Nat} {tp ti tj : Tok} {items : Array Value} (hn : s.heap.Ns L m) (Ls : ListsA n L al la s.heap) (hp : p < n) (hn5 : n ≤ 5) (hj : j < n) (hi5 : i ≤ 5)
    (h1 : m "lists" = some (.ref al)) (h2 : m "place" = some (.int (p : Int) tp)) (h3 : m "k" = some (.int (i : Int) ti)) (h4 : m "number" = some (.int (j : Int) tj)) (hpl : s.heap.PlainList (la p) items) (hsz : items.size ≤ 5)
    (h : ∀ v h' tk, itemV la i j v → h'.PlainList (la p) (items.push v) → Heap.SameBut (la p) s.heap h' → Q .next { s with heap := h', toks := tk }) :
    wpAny (model prog w) A (exec appStmt (envW L fa cd)) Q E s := by
  obtain ⟨k0, hpl⟩ := hpl
  have hat : ∀ q, q < n → ((List.range n).map fun p => Value.ref (la p)).toArray[((q : Nat) : Int).toNat]? = some (.ref (la q)) := fun q hq => by
    rw [Int.toNat_natCast, List.getElem?_toArray]; simp [hq]
  refine wpAny_ExprAny (wpAny_Call_method (T := "list") (id := "list.append") (by rfl) (by rfl) (by rfl) F.plainAttrs_list F.slot_list_append (by rfl) ?_)
  refine Subscript_ (eL (e := envW L fa cd) hn h1 (eL (e := envW L fa cd) hn h2 (item_list Ls.all (by omega) (by omega) (hat p hp) ?_)))
  refine ⟨⟨_, hpl, rfl⟩, fun a e => by cases e; exact ⟨_, hpl, rfl⟩, ?_⟩
  refine P.append_list (wpAny_IfExp (pos := default) (wpAny_isTrue_Compare1 (eL (e := envW L fa cd) hn h3 (wpAny_Constant_int (P.gt_int (wpAny_truthy_bool ?_))))))
  have fin : ∀ v, itemV la i j v → ∀ tk, (∃ items' n', items'.size ≤ sizeLine ∧ IsL s.heap (la p) items' n' ∧ Q .next { s with heap := s.heap.update (la p) (Obj.mapSeq fun xs => xs.push v), toks := tk }) := fun v hv tk =>
    ⟨items, k0, by rw [sizeLine_eq]; omega, hpl, h v _ tk hv ⟨_, IsL.update hpl _⟩ (Heap.SameBut.update ..)⟩
  by_cases hi : 0 < i
  · rw [if_pos (decide_eq_true (by omega))]
    refine Subscript_ (eL (e := envW L fa cd) hn h1 (eL (e := envW L fa cd) hn h4 (item_list Ls.all (by omega) (by omega) (hat j hj) (fin _ ?_ _))))
    unfold itemV
    rw [if_pos hi]
  · rw [if_neg (by rw [decide_eq_true_eq]; omega)]
    refine eL (e := envW L fa cd) hn h4 (fin _ ?_ _)
    unfold itemV
    rw [if_neg hi]
    exact ⟨_, rfl⟩
end
end Mine
end

/- part M2 -/
section
open PySem PySem.W PyProof PyProof.Rows PySem.W.X
set_option maxRecDepth 100000
namespace Mine

theorem Filled.snoc {la : Nat → Nat} {nums : List Nat} {i j : Nat} {items : Array Value} {v : Value} (x : Filled la nums i items) (hj : nums[i]? = some j) (hv : itemV la i j v) : Filled la nums (i + 1) (items.push v) := by
  refine ⟨by rw [Array.size_push, x.1], fun k j' hk hj' => ?_⟩
  by_cases hki : k = i
  · subst hki
    rw [hj] at hj'; cases hj'
    exact ⟨v, by rw [← x.1]; exact Array.getElem?_push_size .., hv⟩
  · obtain ⟨u, hu, hiu⟩ := x.2 k j' (by omega) hj'
    refine ⟨u, ?_, hiu⟩
    rw [Array.getElem?_push, if_neg (by rw [x.1]; exact hki)]
    exact hu

section
variable {prog : Program} {w : World} {A : Around} {E : Value → Shared → Prop} {s : Shared} {B : Heap} {mg mb : Str → Option Value} {L fa : Nat} {cd : Value} {m cm : Str → Option Value} {zs : List Int} {ad aw n al : Nat} {la ra : Nat → Nat}

def innerFor : Stmt := nthS 0 (bodyS (nthS 5 (bodyS lawDef)))

set_option maxHeartbeats 4000000 in
theorem inner_loop {Q : Flow → Shared → Prop} {p : Nat} {tp : Tok} {vs : List Value} {nums : List Nat} (hA : A.handled = none) (G : Gl B mg mb) (kB : ∀ b o, B.get? b = some o → s.heap.get? b = some o) (hn : s.heap.Ns L m) (hcW : s.heap.IsCell (L + 4) (some (.ref aw)))
    (h1 : m "lists" = some (.ref al)) (h2 : m "place" = some (.int (p : Int) tp)) (hp : p < n) (hn5 : n ≤ 5) (hall : s.heap.IsList aw ((List.range n).map fun p => Value.ref (ra p)).toArray) (hrow : s.heap.IsList (ra p) vs.toArray) (hvs : IntsAre vs (nums.map fun (x : Nat) => (x : Int))) (hlen : nums.length ≤ 3) (hin : ∀ j ∈ nums, j < n)
    (Ls : ListsA n L al la s.heap) (hpl : s.heap.PlainList (la p) #[]) (d1 : la p ≠ L) (d2 : ra p ≠ la p) (d3 : ra p ≠ L) (d4 : al ≠ L)
    (h : ∀ h' tk m' items, h'.Ns L m' → (∀ y : Str, y ≠ "k" → y ≠ "number" → m' y = m y) → (∀ (b : Nat) o, b ≠ L → b ≠ la p → s.heap.get? b = some o → h'.get? b = some o) → h'.PlainList (la p) items → Filled la nums nums.length items → Q .next { s with heap := h', toks := tk }) :
    wpAny (model prog w) A (exec innerFor (envW L fa cd)) Q E s := by
  have hat : ((List.range n).map fun p => Value.ref (ra p)).toArray[((p : Nat) : Int).toNat]? = some (.ref (ra p)) := by
    rw [Int.toNat_natCast, List.getElem?_toArray]; simp [hp]
  refine wpAny_For (wpAny_Call_ofName (eB (e := envW L fa cd) G kB (by decide) (v := .type "enumerate") (by decide +kernel) (PySem.callWith_type rfl (Calls.evalArgs_plain (Calls.spliced_cons (Subscript_ (eCl (e := envW L fa cd) (c := L + 4) (by kernel_rfl) hcW (eL (e := envW L fa cd) hn h2 (item_list hall (by omega) (by omega) hat (Calls.spliced_nil ?_))))))))))
  refine call_enumerate_list hrow fun h₁ he hit hz k₁ => ?_
  refine wpAny_pyIter_enum he ?_
  have hsz := hn.lt
  have hvl : vs.toArray.size = nums.length := by rw [List.size_toArray, hvs.length, List.length_map]
  generalize hit0 : s.heap.objs.size = it at he hit hz
  have hltit : ∀ (b : Nat) o, s.heap.get? b = some o → b < it := fun b o e => hit0 ▸ Heap.lt_size e
  have hrlt : ra p < it := let ⟨_, e, _⟩ := hrow; hltit _ _ e
  have hllt : la p < it := let ⟨_, e⟩ := hpl; hltit _ _ e
  have hLlt : L < it := hit0 ▸ hsz
  have hallt : al < it := let ⟨_, e, _⟩ := Ls.all; hltit _ _ e
  refine codeAny_forLoop_any (fun k s' => ∃ h' tk m' items i old, s' = { s with heap := h', toks := tk } ∧ IsEnum h' (it + 1) it ((i : Nat) : Int) old ∧ h'.IsListIter it (ra p) i ∧ h'.Ns L m' ∧ (∀ y : Str, y ≠ "k" → y ≠ "number" → m' y = m y) ∧ (∀ (b : Nat) o, b ≠ L → b ≠ la p → s.heap.get? b = some o → h'.get? b = some o) ∧ h'.PlainList (la p) items ∧ Filled la nums i items ∧ i ≤ nums.length ∧ it + 2 ≤ h'.objs.size ∧ k = nums.length + 1 - i) ?_ (nums.length + 1)
    ⟨h₁, s.toks, m, #[], 0, .none, rfl, he, hit, hn.keeps k₁, fun _ _ _ => rfl, fun b o _ _ e => k₁ b o e, let ⟨k0, e⟩ := hpl; ⟨k0, k₁ _ _ e⟩, ⟨rfl, fun k j hk => absurd hk (Nat.not_lt_zero k)⟩, Nat.zero_le _, by rw [hz]; exact Nat.le_refl _, rfl⟩
  rintro k s' ⟨H, tk, m', items, i, old, rfl, he', hit', hn', hm', hk', hpl', hF, hi, hHsz, rfl⟩
  have hrow' : H.IsList (ra p) vs.toArray := let ⟨o, e, r⟩ := hrow; ⟨o, hk' _ o d3 d2 e, r⟩
  by_cases hlt : i < nums.length
  · obtain ⟨j, hj⟩ : ∃ j, nums[i]? = some j := ⟨nums[i], List.getElem?_eq_getElem hlt⟩
    have hjn : j < n := hin j (List.mem_of_getElem? hj)
    obtain ⟨tj, ej⟩ := ints_at hvs (i := i) (by simpa using hlt)
    have ej2 : vs.toArray[i]? = some (.int (j : Int) tj) := by
      rw [Int.toNat_natCast] at ej
      rw [ej]
      have : (nums.map fun (x : Nat) => (x : Int)).getD i 0 = (j : Int) := by simp [hj]
      rw [this]
    refine wpAny_pyNext_enum_item he' hit' hrow' ej2 (neN (by omega)) fun h₂ heo hit₂ ht₂ hz₂ hk₂ => ?_
    refine wpAny_letOwnedTupleGo_enum heo fun h₃ he₃ hs₃ => ?_
    have hs₃ : Heap.SameBut (it + 1) h₂ h₃ := hs₃
    have hH : H.objs.size ≠ it + 1 := by omega
    have ht₃ : h₃.IsTuple H.objs.size #[.int (i : Int) tk, .int (j : Int) tj] := ⟨_, (hs₃.2 _ hH).trans ht₂, rfl, _, rfl⟩
    have hz₃ : h₃.objs.size = H.objs.size + 1 := hs₃.1.trans hz₂
    refine wpAny_assign_Tuple hA ht₃ rfl rfl fun h₄ hx₄ => ?_
    have hx₄ : Heap.ExtBut h₃.objs.size h₃ h₄ := hx₄
    have old₄ : ∀ (b : Nat) o, b ≠ it → b ≠ it + 1 → H.get? b = some o → h₄.get? b = some o := fun b o n1 n2 e => hx₄ b o (by rw [hz₃]; exact Nat.ne_of_lt (Nat.lt_succ_of_lt (Heap.lt_size e))) ((hs₃.2 b n2).trans (hk₂ b o n2 n1 e))
    have hn₄ : h₄.Ns L m' := hn'.at' fun o e => old₄ _ o (by omega) (by omega) e
    have he₄ : IsEnum h₄ (it + 1) it (((i + 1 : Nat) : Nat) : Int) (.int (j : Int) tj) := by
      have := hx₄ _ _ (neN (by omega)) he₃
      rw [Int.natCast_add]
      exact this
    have hit₄ : h₄.IsListIter it (ra p) (i + 1) := hit₂.at fun o e => hx₄ _ o (neN (by omega)) ((hs₃.2 it (neN (by omega))).trans e)
    refine wpAny_bind (wpAny_holding (wpAny_assign_Name (wpAny_storeName_local (env := envW L fa cd) (by rfl) hn₄ (fun h₅ hn₅ hs₅ => ?_) (by rfl))))
    refine wpAny_bind (wpAny_holding (wpAny_assign_Name (wpAny_storeName_local (env := envW L fa cd) (by rfl) hn₅ (fun h₆ hn₆ hs₆ => wpAny_pure ?_) (by rfl))))
    have hs₅ : Heap.SameBut L h₄ h₅ := hs₅
    have hs₆ : Heap.SameBut L h₅ h₆ := hs₆
    have k6 : ∀ (b : Nat) o, b ≠ L → h₄.get? b = some o → h₆.get? b = some o := fun b o n e => (hs₆.2 b n).trans ((hs₅.2 b n).trans e)
    have hpl₆ : h₆.PlainList (la p) items := let ⟨k0, e⟩ := hpl'; ⟨k0, k6 _ _ d1 (old₄ _ _ (by omega) (by omega) e)⟩
    have Ls₆ : ListsA n L al la h₆ := Ls.keep fun o e => k6 _ o d4 (old₄ _ o (by omega) (by omega) (hk' _ o d4 (fun q => (Ls.out p hp).2 q.symm) e))
    have e1 : ∀ {α : Type} {y z : Str} {a b : α}, y ≠ z → (if y = z then a else b) = b := fun n => if_neg n
    refine wpAny_execs_cons (app_one (p := p) (i := i) (j := j) (tp := tp) (ti := tk) (tj := tj) hn₆ Ls₆ hp hn5 hjn (by omega) ?_ ?_ ?_ ?_ hpl₆ (by rw [hF.1]; omega) fun v h₇ tk₇ hv hpl₇ hs₇ => wpAny_execs_nil ?_)
    · exact (e1 (by decide)).trans ((e1 (by decide)).trans ((hm' _ (by decide) (by decide)).trans h1))
    · exact (e1 (by decide)).trans ((e1 (by decide)).trans ((hm' _ (by decide) (by decide)).trans h2))
    · exact (e1 (by decide)).trans (if_pos rfl)
    · exact if_pos rfl
    · refine ⟨nums.length + 1 - (i + 1), by omega, h₇, tk₇, _, items.push v, i + 1, _, rfl, (hs₇.2 (it + 1) (neN (by omega))).trans (k6 _ _ (neN (by omega)) he₄), hit₄.at fun o e => (hs₇.2 it (neN (by omega))).trans (k6 _ o (neN (by omega)) e), hn₆.sameBut hs₇ (Ne.symm d1), fun y n1 n2 => ?_, fun b o n1 n2 e => (hs₇.2 b n2).trans (k6 b o n1 (old₄ b o (by have := hltit b o e; omega) (by have := hltit b o e; omega) (hk' b o n1 n2 e))), hpl₇, hF.snoc hj hv, by omega, ?_, rfl⟩
      · rw [e1 n2, e1 n1]; exact hm' y n1 n2
      · rw [hs₇.1, hs₆.1, hs₅.1]
        have h8 : (it + 1 : Nat) < h₄.objs.size := Heap.lt_size he₄
        exact h8
  · have hin' : i = nums.length := by omega
    refine wpAny_pyNext_enum_end hA he' hit' hrow' (by rw [Array.getElem?_eq_none]; omega) fun h₂ hx₂ => wpAny_execs_nil ?_
    have hx₂ : Heap.ExtBut it H h₂ := hx₂
    refine h h₂ tk m' items (hn'.extBut hx₂ (neN (by omega))) hm' (fun b o n1 n2 e => hx₂ b o (Nat.ne_of_lt (hltit b o e)) (hk' b o n1 n2 e)) ?_ (hin' ▸ hF)
    obtain ⟨k0, e⟩ := hpl'
    exact ⟨k0, hx₂ _ _ (neN (by omega)) e⟩
end
end Mine
end

/- part M3 -/
section
open PySem PySem.W PyProof PyProof.Rows PySem.W.X
set_option maxRecDepth 100000
namespace Mine

abbrev numsOfRow (zs : List Int) (p : Nat) : List Nat := rowNums p (rowOf zs p)
theorem numsOfRow_len (zs : List Int) (p : Nat) : (numsOfRow zs p).length ≤ 3 := by
  unfold numsOfRow rowOf
  split
  · exact Nat.zero_le _
  · show (p :: tsOf zs p).length ≤ 3
    unfold tsOf
    rw [List.length_cons, List.length_map, List.length_range]
    have : dr zs (1 + p) % 3 < 3 := Nat.mod_lt _ (by decide)
    omega
theorem numsOfRow_in (zs : List Int) {p : Nat} (hp : p < nOf zs) : ∀ j ∈ numsOfRow zs p, j < nOf zs := by
  unfold numsOfRow rowOf
  have hn := nOf_ge zs
  split
  · intro j hj; cases hj
  · intro j hj
    rcases List.mem_cons.mp hj with rfl | hj
    · exact hp
    · obtain ⟨k, _, rfl⟩ := List.mem_map.mp hj
      exact Nat.mod_lt _ (by omega)
theorem rowO_ints {h : Heap} {a p : Nat} : ∀ {r : Option (List Nat)}, RowO h a p r → ∃ vs : List Value, h.IsList a vs.toArray ∧ IntsAre vs ((rowNums p r).map fun (x : Nat) => (x : Int))
  | none, ⟨k, e⟩ => ⟨[], ⟨_, e, rfl, k, rfl⟩, .nil⟩
  | some _, ⟨vs, ⟨k, e⟩, hi⟩ => ⟨vs, ⟨_, e, rfl, k, rfl⟩, hi⟩

section
variable {prog : Program} {w : World} {A : Around} {E : Value → Shared → Prop} {s : Shared} {B : Heap} {mg mb : Str → Option Value} {L fa : Nat} {cd : Value} {m cm : Str → Option Value} {zs : List Int} {ad aw n al : Nat} {la ra : Nat → Nat}

set_option maxHeartbeats 4000000 in
theorem s_fill {Q : Flow → Shared → Prop} {tm : Tok} (X : LwS B L s m cm) (I : LB w B mg mb) (hA : A.handled = none) (hcm : cm "many" = some (.int (nOf zs : Int) tm)) (hw : cm "web" = some (.ref aw)) (h1 : m "lists" = some (.ref al))
    (Wa : WebA zs L aw ra s.heap) (Ls : ListsA (nOf zs) L al la s.heap) (hem : ∀ p, p < nOf zs → s.heap.PlainList (la p) #[]) (d2 : ∀ p q, p < nOf zs → q < nOf zs → ra p ≠ la q) (d5 : ∀ q, q < nOf zs → aw ≠ la q) (hBla : ∀ q, q < nOf zs → B.get? (la q) = none)
    (h : ∀ s' m', LwS B L s' m' cm → (∀ y : Str, y ≠ "k" → y ≠ "number" → y ≠ "place" → m' y = m y) → (∀ (b : Nat) o, b ≠ L → (∀ q, q < nOf zs → b ≠ la q) → s.heap.get? b = some o → s'.heap.get? b = some o) → s'.gens = s.gens → s'.os = s.os → s'.drawn = s.drawn →
      (∀ p, p < nOf zs → ∃ items, s'.heap.PlainList (la p) items ∧ Filled la (numsOfRow zs p) (numsOfRow zs p).length items) → Q .next s') :
    wpAny (model prog w) A (exec (nthS 5 (bodyS lawDef)) (envW L fa cd)) Q E s := by
  have G := I.gl
  have hcN := X.cl.cell "many" (L + 3) (by kernel_rfl)
  rw [hcm] at hcN
  have hcW := X.cl.cell "web" (L + 4) (by kernel_rfl)
  rw [hw] at hcW
  have hn5 := nOf_le zs
  refine wpAny_For (range_it G X.fr.keep (eCl (e := envW L fa cd) (c := L + 3) (by kernel_rfl) hcN ⟨nOf zs, _, rfl, by omega, fun It h₀ tk₀ k hI1 hI2 hI => ?_⟩))
  have W := Walks.range (prog := prog) (w := w) hA It 0 1 (nOf zs)
  have hlt0 : ∀ (b : Nat) o, s.heap.get? b = some o → b < It := fun b o e => Nat.lt_of_lt_of_le (Heap.lt_size e) hI1
  have hllt : ∀ q, q < nOf zs → la q < It := fun q hq => let ⟨_, e⟩ := hem q hq; hlt0 _ _ e
  have hLlt : L < It := Nat.lt_of_lt_of_le X.fr.ns.lt hI1
  have hLne : ∀ q, q < nOf zs → la q ≠ L := fun q hq e => (Ls.out q hq).1 (by rw [e]; exact mem_hid)
  refine codeAny_forLoop (fun k s' => ∃ h' tk m' i, s' = { s with heap := h', toks := tk } ∧ IsRangeIter h' It (0 + (i : Nat) * 1) ((nOf zs : Int) - (i : Nat)) 1 ∧ h'.Ns L m' ∧ (∀ y : Str, y ≠ "k" → y ≠ "number" → y ≠ "place" → m' y = m y) ∧
      (∀ (b : Nat) o, b ≠ L → (∀ q, q < nOf zs → b ≠ la q) → s.heap.get? b = some o → h'.get? b = some o) ∧ (∀ p, p < i → ∃ items, h'.PlainList (la p) items ∧ Filled la (numsOfRow zs p) (numsOfRow zs p).length items) ∧ (∀ p, i ≤ p → p < nOf zs → h'.PlainList (la p) #[]) ∧ i ≤ nOf zs ∧ k = nOf zs + 1 - i) ?_ (nOf zs + 1)
    ⟨h₀, tk₀, m, 0, rfl, hI, X.fr.ns.keeps k, fun _ _ _ _ => rfl, fun b o _ _ e => k b o e, fun p hp => absurd hp (Nat.not_lt_zero p), fun p _ hp => let ⟨k0, e⟩ := hem p hp; ⟨k0, k _ _ e⟩, Nat.zero_le _, rfl⟩
  rintro k' s' ⟨H, tk, m', i, rfl, hst, hn', hm', hk', hdone, hrest, hi, rfl⟩
  by_cases hlt : i < nOf zs
  · refine W.item i _ _ _ hlt hst fun v h₁ tk₁ hP hst₁ hk₁ => ?_
    obtain ⟨t, rfl⟩ := hP
    rw [Int.mul_one, Int.zero_add]
    have k1 : ∀ (b : Nat) o, b ≠ It → H.get? b = some o → h₁.get? b = some o := fun b o n e => hk₁ b o (fun q => n (List.mem_singleton.mp q)) e
    refine wpAny_assign_Name (wpAny_storeName_local (env := envW L fa cd) (by rfl) (hn'.at' fun o e => k1 _ o (Nat.ne_of_lt hLlt) e) (fun h₂ hn₂ hs₂ => ?_) (by rfl))
    have hs₂ : Heap.SameBut L h₁ h₂ := hs₂
    have k2 : ∀ (b : Nat) o, b ≠ It → b ≠ L → H.get? b = some o → h₂.get? b = some o := fun b o n1 n2 e => (hs₂.2 b n2).trans (k1 b o n1 e)
    have k3 : ∀ (b : Nat) o, b ≠ L → (∀ q, q < nOf zs → b ≠ la q) → s.heap.get? b = some o → h₂.get? b = some o := fun b o n1 n2 e => k2 b o (Nat.ne_of_lt (hlt0 b o e)) n1 (hk' b o n1 n2 e)
    obtain ⟨vs, hrow, hvs⟩ := rowO_ints (Wa.rows i hlt).2.2
    have ncell : ∀ (c : Nat), c ∈ hidL L → ∀ q, q < nOf zs → c ≠ la q := fun c hc q hq e => (Ls.out q hq).1 (by rw [← e]; exact hc)
    have hcW₂ : h₂.IsCell (L + 4) (some (.ref aw)) := let ⟨o, e, r⟩ := hcW; ⟨o, k3 _ o (neN (by omega)) (ncell _ (by simp [hidL])) e, r⟩
    have hrL : ra i ≠ L := fun e => (Wa.rows i hlt).1 (by rw [e]; exact mem_hid)
    have hawL : aw ≠ L := fun e => Wa.hid (by rw [e]; exact mem_hid)
    have halL : al ≠ L := fun e => Ls.hid (by rw [e]; exact mem_hid)
    have hall₂ : h₂.IsList aw ((List.range (nOf zs)).map fun p => Value.ref (ra p)).toArray := let ⟨o, e, r⟩ := Wa.all; ⟨o, k3 _ o hawL (fun q hq => d5 q hq) e, r⟩
    have hrow₂ : h₂.IsList (ra i) vs.toArray := let ⟨o, e, r⟩ := hrow; ⟨o, k3 _ o hrL (fun q hq => d2 i q hlt hq) e, r⟩
    have Ls₂ : ListsA (nOf zs) L al la h₂ := Ls.keep fun o e => k3 _ o halL (fun q hq e => (Ls.out q hq).2 e.symm) e
    have hpl₂ : h₂.PlainList (la i) #[] := let ⟨k0, e⟩ := hrest i (Nat.le_refl _) hlt; ⟨k0, k2 _ _ (Nat.ne_of_lt (hllt i hlt)) (hLne i hlt) e⟩
    have kB₂ : ∀ b o, B.get? b = some o → h₂.get? b = some o := fun b o e => k3 b o (fun q => by rw [q] at e; exact Nat.lt_irrefl _ (Nat.lt_of_lt_of_le (Heap.lt_size e) X.fr.above)) (fun q hq e2 => by rw [e2, hBla q hq] at e; cases e) (X.fr.keep b o e)
    have e1 : ∀ {α : Type} {y z : Str} {a b : α}, y ≠ z → (if y = z then a else b) = b := fun n => if_neg n
    refine wpAny_execs_cons (inner_loop (p := i) (tp := t) hA G kB₂ hn₂ hcW₂ ((e1 (by decide)).trans ((hm' _ (by decide) (by decide) (by decide)).trans h1)) (if_pos rfl) hlt hn5 hall₂ hrow₂ hvs (numsOfRow_len zs i) (numsOfRow_in zs hlt) Ls₂ hpl₂ (hLne i hlt) (d2 i i hlt hlt) hrL halL fun h₃ tk₃ m₃ items hn₃ hm₃ hk₃ hpl₃ hF => wpAny_execs_nil ?_)
    refine ⟨nOf zs + 1 - (i + 1), by omega, h₃, tk₃, m₃, i + 1, rfl, ?_, hn₃, fun y a b c => (hm₃ y a b).trans ((e1 c).trans (hm' y a b c)), fun b o n1 n2 e => hk₃ b o n1 (n2 i hlt) (k3 b o n1 n2 e), fun p hp => ?_, fun p hp hpn => ?_, hlt, rfl⟩
    · exact hk₃ _ _ (Nat.ne_of_gt hLlt) (Nat.ne_of_gt (hllt i hlt)) ((hs₂.2 It (Nat.ne_of_gt hLlt)).trans hst₁)
    · by_cases hpi : p = i
      · subst hpi
        exact ⟨items, hpl₃, hF⟩
      · have hpn : p < nOf zs := by omega
        obtain ⟨it2, ⟨k0, e⟩, hf2⟩ := hdone p (by omega)
        exact ⟨it2, ⟨k0, hk₃ _ _ (hLne p hpn) (fun q => hpi (Ls.inj p i hpn hlt q)) (k2 _ _ (Nat.ne_of_lt (hllt p hpn)) (hLne p hpn) e)⟩, hf2⟩
    · obtain ⟨k0, e⟩ := hrest p (by omega) hpn
      exact ⟨k0, hk₃ _ _ (hLne p hpn) (fun q => by have := Ls.inj p i hpn hlt q; omega) (k2 _ _ (Nat.ne_of_lt (hllt p hpn)) (hLne p hpn) e)⟩
  · have hin : i = nOf zs := by omega
    refine W.done _ _ _ (hin ▸ hst) fun h₁ tk₁ hk₁ => wpAny_execs_nil ?_
    have k1 : ∀ (b : Nat) o, b ≠ It → H.get? b = some o → h₁.get? b = some o := fun b o n e => hk₁ b o (fun q => n (List.mem_singleton.mp q)) e
    have k2 : ∀ (b : Nat) o, b ≠ L → (∀ q, q < nOf zs → b ≠ la q) → s.heap.get? b = some o → h₁.get? b = some o := fun b o n1 n2 e => k1 b o (Nat.ne_of_lt (hlt0 b o e)) (hk' b o n1 n2 e)
    have X' : LwS B L { s with heap := h₁, toks := tk₁ } m' cm := X.anyP (fun b => ∃ q, q < nOf zs ∧ b = la q) (hn'.at' fun o e => k1 _ o (Nat.ne_of_lt hLlt) e) (fun b o n1 n2 e => k2 b o n1 (fun q hq e2 => n2 ⟨q, hq, e2⟩) e) (fun b ⟨q, hq, e⟩ => by rw [e]; exact ⟨(Ls.out q hq).1, hBla q hq, _, hem q hq⟩)
    refine h _ m' X' hm' k2 rfl rfl rfl fun p hp => ?_
    obtain ⟨items, ⟨k0, e⟩, hF⟩ := hdone p (by omega)
    exact ⟨items, ⟨k0, k1 _ _ (Nat.ne_of_lt (hllt p hp)) e⟩, hF⟩
end
end Mine
end

/- part M4 -/
section
open PySem PySem.W PyProof PyProof.Rows PySem.W.X
set_option maxRecDepth 100000
namespace Mine

theorem areInts_of {vs : List Value} {ns : List Nat} (h : IntsAre vs (ns.map fun (x : Nat) => (x : Int))) : AreInts vs ns := by
  refine ⟨by rw [h.length, List.length_map], fun i n hi => ?_⟩
  have hlt : i < ns.length := (List.getElem?_eq_some_iff.mp hi).1
  obtain ⟨t, e⟩ := ints_at h (i := i) (by simpa using hlt)
  rw [Int.toNat_natCast, List.getElem?_toArray] at e
  refine ⟨t, ?_⟩
  rw [e]
  simp [hi]

theorem tsOf_len (zs : List Int) (p : Nat) : (tsOf zs p).length ≤ 2 := by
  unfold tsOf
  rw [List.length_map, List.length_range]
  have : dr zs (1 + p) % 3 < 3 := Nat.mod_lt _ (by decide)
  omega
theorem rowOf_some {zs : List Int} {p : Nat} {ts : List Nat} (h : rowOf zs p = some ts) : ts = tsOf zs p := by
  unfold rowOf at h
  split at h
  · cases h
  · exact (Option.some.inj h).symm
theorem tsOf_in (zs : List Int) (p : Nat) : ∀ q ∈ tsOf zs p, q < nOf zs := fun q hq => by
  obtain ⟨k, _, rfl⟩ := List.mem_map.mp hq
  exact Nat.mod_lt _ (by have := nOf_ge zs; omega)
theorem WebA.webL {zs : List Int} {L aw : Nat} {ra : Nat → Nat} {h : Heap} (x : WebA zs L aw ra h) : WebL (nOf zs) (rowOf zs) ra aw h where
  all := x.all
  rows := fun p hp => let ⟨vs, a, b⟩ := rowO_ints (x.rows p hp).2.2; ⟨vs, a, areInts_of b⟩
  inn := fun p ts _ hr q hq => by rw [rowOf_some hr] at hq; exact tsOf_in zs p q hq
  len := fun p ts _ hr => by rw [rowOf_some hr]; have := tsOf_len zs p; omega
  small := by have := nOf_le zs; omega
theorem small_of (zs : List Int) : Small (nOf zs) (rowOf zs) where
  n5 := nOf_le zs
  n0 := by have := nOf_ge zs; omega
  inn := fun p ts _ hr q hq => by rw [rowOf_some hr] at hq; exact tsOf_in zs p q hq
  two := fun p ts _ hr => by rw [rowOf_some hr]; exact tsOf_len zs p

section
variable {prog : Program} {w : World} {A : Around} {E : Value → Shared → Prop} {s : Shared} {B : Heap} {mg mb : Str → Option Value} {L fa : Nat} {cd : Value} {m cm : Str → Option Value} {zs : List Int} {ad aw n al : Nat} {la ra : Nat → Nat}

set_option maxHeartbeats 2000000 in
theorem s_text {Q : Flow → Shared → Prop} (X : LwS B L s m cm) (I : LB w B mg mb) (hA : A.handled = none) (hu : A.units + 3 < cLine) (hroom : A.depth < recursionLimit) (hw : cm "web" = some (.ref aw)) (Wa : WebA zs L aw ra s.heap)
    (h : ∀ s' k tt tc, LwS B L s' (fun y => if y = "circle" then some (.int (ltN (rowOf zs) (S0 (rowOf zs)) k).circ tc) else if y = "text" then some (.str (ltN (rowOf zs) (S0 (rowOf zs)) k).text tt) else m y) cm → Stp L s s' →
      condT (ltN (rowOf zs) (S0 (rowOf zs)) k) = false → (∀ j < k, condT (ltN (rowOf zs) (S0 (rowOf zs)) j) = true) → Q .next s') :
    wpAny (model prog w) A (exec (nthS 6 (bodyS lawDef)) (envW L fa cd)) Q E s := by
  have hcW := X.cl.cell "web" (L + 4) (by kernel_rfl)
  rw [hw] at hcW
  obtain ⟨o, pm, doc, ho, hdat, hcd⟩ := I.text
  have G : Gl s.heap mg mb := let g := I.gl; ⟨g.g.keeps X.fr.keep, g.b.keeps X.fr.keep, g.nG, g.bt, g.nolimit.keeps X.fr.keep⟩
  refine Assign_Tuple (call_f (a := 199) (o := o) (fd := Calls.docDef "_law_text" (argsS textDef) (bodyS textDef) (scopeS textDef) pm (.ref 198) doc) (eG (e := envW L fa cd) I.g X.fr.keep I.gX ⟨rfl, args2 (eCl (e := envW L fa cd) (c := L + 4) (by kernel_rfl) hcW (wpAny_Constant_int ⟨⟨X.fr.keep _ _ ho, hdat⟩, ?_⟩))⟩))
  refine call_law_text (n := nOf zs) (row := rowOf zs) (ra := ra) hA hu hroom (X.fr.keep _ _ ho) hdat (hcd.keeps X.fr.keep) ⟨G.g, G.b, G.nG, G.bt, G.nolimit⟩ Wa.webL (by have := nOf_ge zs; omega) fun h' tk k ta tt tc kk ht hc0 hc1 => ?_
  have X₁ : LwS B L { s with heap := h', toks := tk } m cm := X.grow kk
  refine wpAny_assign_Tuple hA ht rfl rfl fun h₁ hx₁ => ?_
  have hx₁ : Heap.ExtBut h'.objs.size h' h₁ := hx₁
  have X₂ : LwS B L { s with heap := h₁, toks := tk } m cm := X₁.grow (tk := tk) fun b o e => hx₁ b o (Nat.ne_of_lt (Heap.lt_size e)) e
  have S₂ : Stp L s { s with heap := h₁, toks := tk } := Stp.grow fun b o e => hx₁ b o (Nat.ne_of_lt (Heap.lt_size (kk b o e))) (kk b o e)
  refine wpAny_bind (wpAny_holding (wpAny_assign_Name (stL (fa := fa) (cd := cd) X₂ fun s₃ X₃ S₃ _ => ?_)))
  refine wpAny_bind (wpAny_holding (wpAny_assign_Name (stL (fa := fa) (cd := cd) X₃ fun s₄ X₄ S₄ _ => wpAny_pure ?_)))
  exact h s₄ k tt tc X₄ (S₂.trans (S₃.trans S₄)) hc0 hc1

theorem init_asg {Q : Flow → Shared → Prop} {t : Addr} {v1 v2 v3 : Value} {p1 p2 p3 p4 : Pos} {k4 : Nat} (X : LwS B L s m cm) (hA : A.handled = none) (ht : s.heap.IsTuple t #[v1, v2, v3])
    (h : ∀ s', LwS B L s' (fun y => if y = "fell" then some v3 else if y = "endless" then some v2 else m y) (fun y => if y = "told" then some v1 else cm y) → Stp L s s' → Q .next s') :
    wpAny (model prog w) A (assign (.Tuple [.Name "told" p1, .Name "endless" p2, .Name "fell" p3] k4 p4) (envW L fa cd) (.ref t)) (fun _ => Q .next) E s := by
  refine wpAny_assign_Tuple hA ht rfl rfl fun h₁ hx₁ => ?_
  have hx₁ : Heap.ExtBut s.heap.objs.size s.heap h₁ := hx₁
  have kk : ∀ (b : Nat) o, s.heap.get? b = some o → h₁.get? b = some o := fun b o e => hx₁ b o (Nat.ne_of_lt (Heap.lt_size e)) e
  have X₂ : LwS B L { s with heap := h₁, toks := s.toks } m cm := X.grow kk
  have S₂ : Stp L s { s with heap := h₁, toks := s.toks } := Stp.grow kk
  refine wpAny_bind (wpAny_holding (wpAny_assign_Name (stCl (fa := fa) (cd := cd) (c := L + 5) X₂ (by kernel_rfl) fun s₃ X₃ S₃ => ?_)))
  refine wpAny_bind (wpAny_holding (wpAny_assign_Name (stL (fa := fa) (cd := cd) X₃ fun s₄ X₄ S₄ _ => ?_)))
  refine wpAny_bind (wpAny_holding (wpAny_assign_Name (stL (fa := fa) (cd := cd) X₄ fun s₅ X₅ S₅ _ => wpAny_pure ?_)))
  exact h s₅ X₅ (S₂.trans (S₃.trans (S₄.trans S₅)))

theorem s_init {Q : Flow → Shared → Prop} (X : LwS B L s m cm) (hA : A.handled = none)
    (h : ∀ s' t1 t2, LwS B L s' (fun y => if y = "fell" then some (.bool false) else if y = "endless" then some (.str "" t2) else m y) (fun y => if y = "told" then some (.str "" t1) else cm y) → Stp L s s' → Q .next s') :
    wpAny (model prog w) A (exec (nthS 7 (bodyS lawDef)) (envW L fa cd)) Q E s := by
  refine Assign_Tuple (wpAny_Tuple (wpAny_items_cons (wpAny_Constant_str (wpAny_items_cons (wpAny_Constant_str (wpAny_items_cons (wpAny_Constant_bool (wpAny_items_nil ⟨by show 3 ≤ sizeLine; decide, ?_⟩))))))))
  exact init_asg (X.grow fun b o e => Heap.get?_push_of_some _ e) hA ⟨_, Heap.get?_push_size _ rfl, rfl, _, rfl⟩ fun s' X' S' => h s' _ _ X' ((Stp.grow fun b o e => Heap.get?_push_of_some _ e).trans S')
end
end Mine
end

/- part N1 -/
section
open PySem PySem.W PyProof PyProof.Rows PySem.W.X
set_option maxRecDepth 100000
namespace Mine

abbrev AL (L fa : Nat) (cd : Value) : Around := callerA.deeper (envW L fa cd)
def encStmt : Stmt := nthS 0 (bodyS (nthS 8 (bodyS lawDef)))
def iterS : Stmt → Expr
  | .For _ i _ _ _ => i
  | _ => default

section
variable {prog : Program} {w : World} {A : Around} {E : Value → Shared → Prop} {s : Shared} {env : Env} {B : Heap} {mg mb : Str → Option Value} {L fa : Nat} {cd : Value} {m cm : Str → Option Value} {zs : List Int} {ad aw n al : Nat} {la ra : Nat → Nat}

/-- a method of a made object -/
theorem Call_inst {o : Expr} {name : Str} {apos pos : Pos} {args : List Expr} {Q : Value → Shared → Prop}
    (hbase : attributeBase o name env (eval o env) = eval o env)
    (hfew : ((backTo pos (starEach args env)).all (fun x => !x.1) && (backToKw pos (keywordEach [] env)).all (fun x => x.1.isSome)
      && decide (args.length + ([] : List Keyword).length + (if ([] : List Keyword).isEmpty then 0 else 1) < 30)) = true)
    (hline : (apos.endLine == pos.line) = true)
    (h : wpAny (model prog w) A (eval o env) (fun ov s₁ => ∃ f first, (∀ (pl : Sem Bool) (Q' : Value × List Value → Shared → Prop), Q' (f, first) s₁ → wpAny (model prog w) A (getMethod ov name pl) Q' E s₁) ∧
      wpAny (model prog w) A (callWith pos f first (backTo pos (starEach args env)) []) Q E s₁) E s) :
    wpAny (model prog w) A (eval (.Call (.Attribute o name apos) args [] pos) env) Q E s := by
  rw [arm_eval_Call, hbase]
  refine wpAny_bind (wpAny_mono h (fun ov s₁ h₁ => ?_) fun _ _ e => e)
  obtain ⟨f, first, hm, hc⟩ := h₁
  refine wpAny_bind (wpAny_standAt ?_)
  have hform : methodCallForm (args.length + ([] : List Keyword).length) (backTo pos (starEach args env)) (backToKw pos (keywordEach [] env)) = true := hfew
  have hpos : methodCallPos true o env apos pos = pure pos := by unfold methodCallPos; simp [hline]
  unfold methodCall
  rw [hform]
  refine wpAny_bind (wpAny_holding (hm _ _ ?_))
  exact wpAny_bind (wpAny_of_eq hpos hc)

theorem enc_tail {Q : Value → Shared → Prop} {x d : Nat} {t : Nat} {cc : Bool} {s₁ : Shared} {pos p1 p2 p3 : Pos} {k4 : Nat} (I : LB w B mg mb) (X : LwS B L s₁ m cm) (hB : ∀ b o, B.get? b = some o → b ∉ hidL L) (h1 : m "lists" = some (.ref al)) (Ls : ListsA n L al la s₁.heap) (h0 : 0 < n)
    (hx : s₁.heap.get? x = some ⟨.ref 132, some d, .plain, #[]⟩) (hdd : s₁.heap.get? d = some (encObj w.params cc t))
    (h : ∀ v s', Gen0 s₁ (hidL L) cc (la 0) v s' → Q v s') :
    ∃ f first, (∀ (pl : Sem Bool) (Q' : Value × List Value → Shared → Prop), Q' (f, first) s₁ → wpAny (model prog w) (AL L fa cd) (getMethod (.ref x) "iterencode" pl) Q' E s₁) ∧
      wpAny (model prog w) (AL L fa cd) (callWith pos f first (backTo pos (starEach [.Subscript (.Name "lists" p1) (.Constant (.int 0) k4 p2) p3] (envW L fa cd))) []) Q E s₁ := by
  have K := I.K.keeps X.fr.keep
  have hInst : InstAt s₁.heap x ⟨.ref 132, some d, .plain, #[]⟩ 132 (some (encObj w.params cc t)) := ⟨hx, rfl, rfl, hdd⟩
  obtain ⟨o, pm, doc, ct, ho, hdat⟩ := iter_obj (w := w) K
  have hat : ((List.range n).map fun p => Value.ref (la p)).toArray[((0 : Int)).toNat]? = some (.ref (la 0)) := by
    rw [show ((0 : Int)).toNat = 0 from rfl, List.getElem?_toArray]; simp [h0]
  refine ⟨.ref 129, [.ref x], fun pl Q' hq => method_fn (K := hd.heap_39 w.params) K hInst (by kernel_rfl) (by kernel_rfl) (by kernel_rfl) (by kernel_rfl) (by kernel_rfl) hq, ?_⟩
  refine callWith_meth (h₀ := s₁.heap) hdat ho (wpAny_items_cons (Subscript_ (eL (e := envW L fa cd) X.fr.ns h1 (wpAny_Constant_int (item_list Ls.all (by decide) (by decide) hat (wpAny_items_nil ⟨fun _ _ e => e, ?_⟩))))))
  have hroom : (AL L fa cd).depth + 1 < recursionLimit := by show (1 + claimMargin) + 1 + 1 < recursionLimit; decide +kernel
  refine call_iter (s := { s₁ with toks := s₁.toks + 1 }) (B₀ := B) (hid := hidL L) K (I.g.keeps X.fr.keep) (I.bu.keeps X.fr.keep) (I.nolimit.keeps X.fr.keep) I.gE I.gM (fun b o e => ⟨hB b o e, X.fr.keep b o e⟩) I.enc X.tab X.lt hroom hx hdd fun v s' hG => ?_
  exact h v s' hG

/-- `JSONEncoder().iterencode(lists[0])` -/
theorem enc_first {Q : Value → Shared → Prop} (I : LB w B mg mb) (X : LwS B L s m cm) (hB : ∀ b o, B.get? b = some o → b ∉ hidL L) (h1 : m "lists" = some (.ref al)) (Ls : ListsA n L al la s.heap) (h0 : 0 < n)
    (h : ∀ s₁ v s', Keeps s s₁ → LwS B L s₁ m cm → Gen0 s₁ (hidL L) true (la 0) v s' → Q v s') :
    wpAny (model prog w) (AL L fa cd) (eval (iterS encStmt) (envW L fa cd)) Q E s := by
  refine Call_inst (by rfl) (by rfl) (by rfl) (wpAny_Call_ofName (eG (e := envW L fa cd) I.g X.fr.keep I.gJ (callWith_K0 (K := hd.heap_39 w.params) (I.K.keeps X.fr.keep) (by kernel_rfl) (enc_new (I.K.keeps X.fr.keep) fun x d t h' tk kk hnx hx hdd => ?_))))
  have X' : LwS B L { s with heap := h', toks := tk } m cm := X.grow kk
  exact enc_tail I X' hB h1 (Ls.keep fun o e => kk _ o e) h0 hx hdd fun v s' hG => h _ v s' ⟨h', tk, rfl, kk⟩ X' hG

def encStmt2 : Stmt := nthS 9 (bodyS lawDef)
/-- `JSONEncoder(check_circular=False).iterencode(lists[0])` -/
theorem enc_second {Q : Value → Shared → Prop} (I : LB w B mg mb) (X : LwS B L s m cm) (hB : ∀ b o, B.get? b = some o → b ∉ hidL L) (h1 : m "lists" = some (.ref al)) (Ls : ListsA n L al la s.heap) (h0 : 0 < n)
    (h : ∀ s₁ v s', Keeps s s₁ → LwS B L s₁ m cm → Gen0 s₁ (hidL L) false (la 0) v s' → Q v s') :
    wpAny (model prog w) (AL L fa cd) (eval (iterS encStmt2) (envW L fa cd)) Q E s := by
  refine Call_inst (by rfl) (by rfl) (by rfl) ?_
  refine wpAny_bind (eG (e := envW L fa cd) I.g X.fr.keep I.gJ ?_)
  refine callWith_KW0 (K := hd.heap_39 w.params) (h₀ := B) I.K (by kernel_rfl) (by rfl) ?_
  refine wpAny_evalAll_cons (wpAny_bind (wpAny_Constant_bool (wpAny_bind (wpAny_standAt (wpAny_pure (wpAny_evalAll_nil ⟨I.K.keeps X.fr.keep, ?_⟩))))))
  show wpAny (model prog w) (callerA.deeper (envW L fa cd)) (call (.ref 132) [] [("check_circular", .bool false)]) _ _ _
  refine enc_newF (I.K.keeps X.fr.keep) fun x d t h' tk kk hnx hx hdd => ?_
  have X' : LwS B L { s with heap := h', toks := tk } m cm := X.grow kk
  exact enc_tail I X' hB h1 (Ls.keep fun o e => kk _ o e) h0 hx hdd fun v s' hG => h _ v s' ⟨h', tk, rfl, kk⟩ X' hG
end
end Mine
end

/- part N2 -/
section
open PySem PySem.W PyProof PyProof.Rows PySem.W.X
set_option maxRecDepth 100000
namespace Mine

def tokOf (items : Array Value) : Nat := match (items[0]? : Option Value) with
  | some (Value.int _ t) => t
  | _ => 0
def rowItems (la : Nat → Nat) (t p : Nat) : Option (List Nat) → Array Value
  | none => #[]
  | some ts => (Value.int (p : Int) t :: ts.map fun q => Value.ref (la q)).toArray
theorem filled_items {la : Nat → Nat} {p : Nat} {r : Option (List Nat)} {items : Array Value} (x : Filled la (rowNums p r) (rowNums p r).length items) : items = rowItems la (tokOf items) p r := by
  cases r with
  | none =>
    exact Array.eq_empty_of_size_eq_zero x.1
  | some ts =>
    have h0 : ∃ t, items[0]? = some (.int (p : Int) t) := by
      obtain ⟨v, hv, hi⟩ := x.2 0 p (Nat.zero_lt_succ _) rfl
      unfold itemV at hi
      rw [if_neg (Nat.lt_irrefl 0)] at hi
      obtain ⟨t, rfl⟩ := hi
      exact ⟨t, hv⟩
    obtain ⟨t, ht⟩ := h0
    have htk : tokOf items = t := by unfold tokOf; rw [ht]
    rw [htk]
    unfold rowItems
    apply Array.ext_getElem?
    intro i
    refine Eq.trans ?_ (List.getElem?_toArray ..).symm
    cases i with
    | zero => exact ht
    | succ i =>
      rw [List.getElem?_cons_succ]
      by_cases hi : i < ts.length
      · obtain ⟨v, hv, hiv⟩ := x.2 (i + 1) ts[i] (Nat.succ_lt_succ hi) (by show (p :: ts)[i + 1]? = _; rw [List.getElem?_cons_succ]; exact List.getElem?_eq_getElem hi)
        unfold itemV at hiv
        rw [if_pos (Nat.succ_pos i)] at hiv
        rw [hv, hiv]
        simp [hi]
      · rw [Array.getElem?_eq_none (by rw [x.1]; show (p :: ts).length ≤ i + 1; rw [List.length_cons]; omega)]
        simp [Nat.not_lt.mp hi]

def webOf (zs : List Int) (la : Nat → Nat) (tk : Nat → Nat) : Web := { n := nOf zs, addr := la, tok := tk, row := rowOf zs }

theorem web_in {zs : List Int} {L al : Nat} {la : Nat → Nat} {h B' : Heap} (Ls : ListsA (nOf zs) L al la h) (hf : ∀ p, p < nOf zs → ∃ items, h.PlainList (la p) items ∧ Filled la (numsOfRow zs p) (numsOfRow zs p).length items)
    : ∃ tk, ∀ B' : Heap, (∀ (a : Nat) o, a ∉ hidL L → h.get? a = some o → B'.get? a = some o) → WebIn (webOf zs la tk) B' := by
  refine ⟨fun p => if hp : p < nOf zs then tokOf (Classical.choose (hf p hp)) else 0, fun B' hk => ⟨fun p hp => ?_, fun p ts hp hr q hq => ?_, fun p ts hp hr => ?_, Ls.inj, ?_⟩⟩
  · have hp : p < nOf zs := hp
    obtain ⟨⟨k, e⟩, hF⟩ := Classical.choose_spec (hf p hp)
    refine ⟨k, (hk _ _ (Ls.out p hp).1 e).trans ?_⟩
    have e2 := filled_items hF
    have : Web.items (webOf zs la (fun p => if hp : p < nOf zs then tokOf (Classical.choose (hf p hp)) else 0)) p = Classical.choose (hf p hp) := by
      refine Eq.trans ?_ e2.symm
      unfold Web.items webOf rowItems
      dsimp only
      rw [dif_pos hp]
      all_goals (generalize tokOf (Classical.choose (hf p hp)) = tt; cases rowOf zs p <;> rfl)
    rw [this]
  · have hr : rowOf zs p = some ts := hr
    rw [rowOf_some hr] at hq
    exact tsOf_in zs p q hq
  · have hr : rowOf zs p = some ts := hr
    rw [rowOf_some hr]
    have := tsOf_len zs p
    omega
  · have := nOf_le zs
    show nOf zs ≤ 1000
    omega

section
variable {prog : Program} {w : World} {A : Around} {E : Value → Shared → Prop} {s : Shared} {B : Heap} {mg mb : Str → Option Value} {L fa : Nat} {cd : Value} {m cm : Str → Option Value} {zs : List Int}

/-- the generator at its start goes as the road goes -/
theorem rep_start {D : EncD} {W : Web} {mkA : Option Addr} {B' : Heap} {b g : Nat} {m' : Str → Option Value} (I : D.In B') (hD : D.marks = match mkA with | none => .none | some M => .ref M) (WI : WebIn W B') (h0 : 0 < W.n) (F : Fr B' b s.heap m') (ho : m' "o" = some (.ref (W.addr 0))) (hlv : ∃ i t, m' "_current_indent_level" = some (.int i t))
    (hgob : s.heap.IsGen (b + 1) g) (hg : s.gens[g]? = some (.fresh (.func (bodyS iterDef) (envT D b)))) (hmb : ∀ (M : Nat), mkA = some M → L < M ∧ M < b ∧ B'.get? M = none) (hLb : L < b) (hLB : B'.get? L = none) :
    Rep prog w B' W mkA 201 (.fresh 0) [] (AL L fa cd).in1 [envW L fa cd] b g (.fresh (.func (bodyS iterDef) (envT D b))) s := by
  intro s' R hg' hmk
  have hA : Aok (AL L fa cd).in1 [envW L fa cd] 302 := ⟨rfl, rfl, by show (1 + claimMargin) + 1 ≤ 302; decide⟩
  have F' : Fr B' b s'.heap m' := ⟨F.ns.at' fun o e => R.keep b o (Nat.le_refl _) e, R.base, F.above⟩
  have hgob' : s'.heap.IsGen (b + 1) g := let ⟨o, nm, qn, ho, q⟩ := hgob; ⟨o, nm, qn, R.keep (b + 1) o (Nat.le_succ _) ho, q⟩
  have hgsz : g < s'.gens.size := (Array.getElem?_eq_some_iff.mp hg').1
  refine fresh_t (p := 0) (m := m') (d := 302) I hD WI 200 h0 ⟨F', hgob', fun _ _ _ _ _ e => e, hmk, fun _ _ => rfl, rfl, rfl, fun M hM => (hmb M hM).2, ?_, fun h => h, R.frs, fun f hf => ?_⟩ ho hlv hA (by decide) (by decide)
  · show g < (s'.gens.setIfInBounds _ _).size
    rw [Array.size_setIfInBounds]; exact hgsz
  · rw [List.filterMap_cons_some (b := L) (by rfl), List.mem_cons] at hf
    rcases hf with rfl | hf
    · exact ⟨hLb, fun e => Nat.lt_irrefl _ (hmb f e).1⟩
    · cases hf
end
end Mine
end

/- part N3 -/
section
open PySem PySem.W PyProof PyProof.Rows PySem.W.X
set_option maxRecDepth 100000
namespace Mine

/-- the law's loop over a generator -/
structure GL (prog : Program) (w : World) (B' : Heap) (W : Web) (mkA : Option Addr) (B : Heap) (L fa : Nat) (cd : Value) (b g n : Nat) (σ : GSt) (μ : List Nat) (gs : GenState) (s₀ s : Shared) (m cm : Str → Option Value) : Prop where
  gob : s.heap.IsGen (b + 1) g
  gg : s.gens[g]? = some gs
  rep : Rep prog w B' W mkA n σ μ (AL L fa cd).in1 [envW L fa cd] b g gs s
  mark : MarkOk W mkA μ s.heap
  lw : LwS B L s m cm
  tab : TabB B' s.heap
  base : ∀ a o, B'.get? a = some o → s.heap.get? a = some o
  os : s.os = s₀.os
  drawn : s.drawn = s₀.drawn
  bare : AllBare s₀.gens → AllBare s.gens
  mM : ∀ (M : Nat), mkA = some M → L + 7 < M ∧ M < b ∧ B'.get? M = none
  Lb : L + 7 < b
  hidB : ∀ a ∈ hidL L, B'.get? a = none
  lim : B'.NoLimit
  bsz : B'.objs.size ≤ b

/-- how it stands behind the loop -/
structure GD (B' : Heap) (B : Heap) (L : Nat) (s₀ s : Shared) (m cm : Str → Option Value) : Prop where
  lw : LwS B L s m cm
  tab : TabB B' s.heap
  base : ∀ a o, B'.get? a = some o → s.heap.get? a = some o
  os : s.os = s₀.os
  drawn : s.drawn = s₀.drawn
  bare : AllBare s₀.gens → AllBare s.gens

section
variable {prog : Program} {w : World} {A : Around} {E : Value → Shared → Prop} {s s₀ : Shared} {B B' : Heap} {W : Web} {mkA : Option Addr} {L fa b g n : Nat} {cd : Value} {σ : GSt} {μ : List Nat} {gs : GenState} {m cm : Str → Option Value}

theorem funFramesW {h : Heap} (F : h.Ns L m) (hB : B'.get? L = none) : h.FunFrames B' [envW L fa cd] :=
  Heap.FunFrames.cons (show (scopeS lawDef).kind ≠ .module by decide +kernel) rfl F hB trivial

theorem markOk_keep {h h' : Heap} (x : MarkOk W mkA μ h) (k : ∀ (M : Nat), mkA = some M → ∀ o, h.get? M = some o → h'.get? M = some o) : MarkOk W mkA μ h' := by
  cases mkA with
  | none => trivial
  | some M =>
    obtain ⟨⟨k0, e⟩, r⟩ := x
    exact ⟨⟨k0, k M rfl _ e⟩, r⟩

theorem GL.move {h' : Heap} {tk : Nat} {m' cm' : Str → Option Value} (X : GL prog w B' W mkA B L fa cd b g n σ μ gs s₀ s m cm) (k : ∀ (a : Nat) o, (a < L ∨ L + 7 < a) → s.heap.get? a = some o → h'.get? a = some o) (lw' : LwS B L { s with heap := h', toks := tk } m' cm') :
    GL prog w B' W mkA B L fa cd b g n σ μ gs s₀ { s with heap := h', toks := tk } m' cm' := by
  have hLb := X.Lb
  have hout : ∀ (a : Nat) o, B'.get? a = some o → a < L ∨ L + 7 < a := fun a o e => by
    by_cases h : L ≤ a ∧ a ≤ L + 7
    · have : a ∈ hidL L := by
        simp only [hidL, List.mem_cons, List.not_mem_nil, or_false]
        omega
      rw [X.hidB a this] at e
      cases e
    · omega
  have kb : ∀ a o, B'.get? a = some o → h'.get? a = some o := fun a o e => k a o (hout a o e) (X.base a o e)
  obtain ⟨og, nm, qn, ho, q⟩ := X.gob
  refine ⟨⟨og, nm, qn, k _ og (.inr (by omega)) ho, q⟩, X.gg, ?_, markOk_keep X.mark fun M hM o e => k M o (.inr (X.mM M hM).1) e, lw', X.tab.same ?_, kb, X.os, X.drawn, X.bare, X.mM, X.Lb, X.hidB, X.lim, X.bsz⟩
  · cases n with
    | zero => trivial
    | succ n =>
      intro s' R hg hm
      refine X.rep s' ⟨R.frs, fun a o h e => R.keep a o h (k a o (.inr (by omega)) e), R.base, fun M hM => ?_, R.gens⟩ hg hm
      cases mkA with
      | none => cases hM
      | some M' =>
        cases hM
        obtain ⟨⟨k0, e⟩, _⟩ := X.mark
        rw [R.mark M rfl]
        exact (k M _ (.inr (X.mM M rfl).1) e).trans e.symm
  · obtain ⟨ps, e, _⟩ := X.tab
    exact (k 188 _ (.inl X.lw.h188) e).trans e.symm

theorem hid_le {a : Nat} (h : a ∈ hidL L) (h188 : 188 < L) : a ≤ L + 7 := by
  simp only [hidL, List.mem_cons, List.not_mem_nil, or_false] at h
  omega
theorem lw_of {s' : Shared} (X : LwS B L s m cm) (T : TabB B' s.heap) (hB : ∀ a ∈ hidL L, B'.get? a = none) (k : ∀ (a : Nat) o, a ≤ L + 7 → s.heap.get? a = some o → s'.heap.get? a = some o) (kb : ∀ a o, B'.get? a = some o → s'.heap.get? a = some o) : LwS B L s' m cm ∧ TabB B' s'.heap := by
  have T' : TabB B' s'.heap := T.same (let ⟨_, e, _⟩ := T; (k 188 _ (by have := X.h188; omega) e).trans e.symm)
  refine ⟨⟨⟨X.fr.ns.at' fun o e => k L o (by omega) e, fun a o e => k a o ?_ (X.fr.keep a o e), X.fr.above⟩, ⟨fun n c e => ?_, X.cl.apart, X.cl.above⟩, T'.tabI (.head _) kb hB, X.h188⟩, T'⟩
  · have h1 : @LT.lt Nat _ a B.objs.size := Heap.lt_size e
    have h2 : B.objs.size ≤ L := X.fr.above
    omega
  · obtain ⟨o, e1, e2⟩ := X.cl.cell n c e
    exact ⟨o, k c o (hid_le (cell_hid e) X.h188) e1, e2⟩

/-- what an exception out of the generator leaves -/
def GR (B' B : Heap) (L fa : Nat) (cd : Value) (s₀ : Shared) (m cm : Str → Option Value) (x : Addr) (s : Shared) : Prop :=
  ∃ base a0, Heap.FlyingW base [envW L fa cd] x (.type "ValueError") a0 s.heap ∧ (∀ (a : Nat) o, B'.get? a = some o → base.get? a = some o) ∧ (∀ (a : Nat) o, B.get? a = some o → base.get? a = some o) ∧ Cl L (csL L) base cm ∧ TabB B' base ∧ base.get? L = none ∧
    s.heap.Ns L m ∧ B.objs.size ≤ L ∧ 188 < L ∧ s.os = s₀.os ∧ s.drawn = s₀.drawn ∧ (AllBare s₀.gens → AllBare s.gens)

set_option maxHeartbeats 1000000 in
theorem GL.turn {Q : Option Value → Shared → Prop} (X : GL prog w B' W mkA B L fa cd b g (n + 1) σ μ gs s₀ s m cm)
    (hy : ∀ x σ' μ' tok gs' s₁, step W mkA.isSome σ μ = .yield x σ' μ' → GL prog w B' W mkA B L fa cd b g n σ' μ' gs' s₀ s₁ m cm → Q (some (.str x tok)) s₁)
    (hf : ∀ μ' s₁, step W mkA.isSome σ μ = .fin μ' → GD B' B L s₀ s₁ m cm → Q none s₁)
    (hr : ∀ x s₁, step W mkA.isSome σ μ = .raise → GR B' B L fa cd s₀ m cm x s₁ → E (.ref x) s₁) :
    wpAny (model prog w) (AL L fa cd) (pyNext (.ref (b + 1))) Q E s := by
  have hLb := X.Lb
  have hLB : B'.get? L = none := X.hidB L mem_hid
  have hgsz : g < s.gens.size := (Array.getElem?_eq_some_iff.mp X.gg).1
  have hMne : ∀ (a : Nat), a ≤ L + 7 → mkA ≠ some a := fun a ha e => by have := (X.mM a e).1; omega
  have hW := X.rep s ⟨funFramesW X.lw.fr.ns hLB, fun _ _ _ e => e, X.base, fun _ _ => rfl, fun _ _ _ e => e⟩ X.gg X.mark
  refine wpAny_pyNext_wake (a := b + 1) (g := g) rfl (X.lim.keeps X.base) (show (1 + claimMargin) + 1 < recursionLimit by decide +kernel) X.gob X.gg (hW.mono fun e s₁ hq he => ?_)
  have guarKeep : ∀ {s₁ : Shared}, Guar B' mkA [envW L fa cd] b g (s.setGen g .running) s₁ → ∀ (a : Nat) o, a ≤ L + 7 → s.heap.get? a = some o → s₁.heap.get? a = some o := fun G a o ha e => G.keep a o (by omega) (by omega) (hMne a ha) e
  have hBlt : ∀ (a : Nat) o, B'.get? a = some o → a < b ∧ mkA ≠ some a := fun a o e => by
    have h1 : @LT.lt Nat _ a B'.objs.size := Heap.lt_size e
    exact ⟨Nat.lt_of_lt_of_le h1 X.bsz, fun hM => by rw [(X.mM a hM).2.2] at e; cases e⟩
  have guarBase : ∀ {s₁ : Shared}, Guar B' mkA [envW L fa cd] b g (s.setGen g .running) s₁ → ∀ (a : Nat) o, B'.get? a = some o → s₁.heap.get? a = some o := fun G a o e => G.keep a o (by have := (hBlt a o e).1; omega) (Nat.ne_of_lt (hBlt a o e).1) (hBlt a o e).2 (X.base a o e)
  have hgs : ∀ {s₁ : Shared} {gs' : GenState}, s₁.gens[g]? = some .running → (s₁.setGen g gs').gens[g]? = some gs' := fun {s₁ gs'} e => by
    have h1 : g < s₁.gens.size := (Array.getElem?_eq_some_iff.mp e).1
    show (s₁.gens.setIfInBounds g gs')[g]? = _
    rw [Array.getElem?_setIfInBounds_self_of_lt h1]
  have hrun : (s.setGen g .running).gens[g]? = some .running := by
    show (s.gens.setIfInBounds g .running)[g]? = _
    rw [Array.getElem?_setIfInBounds_self_of_lt hgsz]
  generalize ho : step W mkA.isSome σ μ = out at he hy hf hr
  cases out with
  | yield t σ' μ' =>
    obtain ⟨tok, li, kk, c, pe, fz, rfl, G, M', R⟩ := he
    obtain ⟨lw', tb'⟩ := lw_of (s' := s₁.setGen g (End.susp (.str t tok) false li kk c pe fz).genState) X.lw X.tab X.hidB (fun a o ha e => guarKeep (s₁ := s₁) G a o ha e) (fun a o e => guarBase (s₁ := s₁) G a o e)
    refine hy t σ' μ' tok (End.susp (.str t tok) false li kk c pe fz).genState _ rfl ⟨?_, hgs (by rw [G.gens g (Nat.le_refl _)]; exact hrun), R, M', lw', tb', (fun a o e => guarBase (s₁ := s₁) G a o e), G.os.trans X.os, G.drawn.trans X.drawn, fun h => AllBare.setG (G.bare (AllBare.setG (X.bare h) rfl)) (End.bare_of_quiet hq), X.mM, X.Lb, X.hidB, X.lim, X.bsz⟩
    obtain ⟨og, nm, qn, ho', q⟩ := X.gob
    exact ⟨og, nm, qn, G.keep (b + 1) og (by omega) (by omega) (fun e => by have := (X.mM (b + 1) e).2.1; omega) ho', q⟩
  | fin μ' =>
    obtain ⟨rfl, G, M'⟩ := he
    intro h' hk'
    obtain ⟨lw', tb'⟩ := lw_of (s' := { s₁.setGen g .finished with heap := h' }) X.lw X.tab X.hidB (fun a o ha e => hk' a o (guarKeep G a o ha e)) (fun a o e => hk' a o (guarBase G a o e))
    exact hf μ' _ rfl ⟨lw', tb', fun a o e => hk' a o (guarBase G a o e), G.os.trans X.os, G.drawn.trans X.drawn, fun h => AllBare.setG (G.bare (AllBare.setG (X.bare h) rfl)) rfl⟩
  | raise =>
    obtain ⟨ex, rfl, ⟨base, a0, hBb, hkb, hfly⟩, hfrm, hgn, hos, hdr, hbr⟩ := he
    obtain ⟨oe, heo, hec⟩ := hfly.there
    have hmem : ∀ (a : Nat), a ∈ [envW L fa cd].filterMap (·.frame) → a = L := fun a h => by
      rw [List.filterMap_cons_some (b := L) (by rfl)] at h
      rcases List.mem_cons.mp h with h | h
      · exact h
      · cases h
    have hlow : ∀ (a : Nat) o, a < b + 2 → a ≠ b → a ≠ L → mkA ≠ some a → s.heap.get? a = some o → base.get? a = some o := fun a o h1 h2 h3 h4 e => hkb a o h1 h2 h4 (fun hm => h3 (hmem a hm)) e
    have hgen₁ : s₁.heap.IsGen (b + 1) g := let ⟨o, nm, qn, ho, q⟩ := X.gob; ⟨o, nm, qn, hfly.1 _ _ (hlow (b + 1) o (by omega) (by omega) (by omega) (fun e => by have := (X.mM (b + 1) e).2.1; omega) ho), q⟩
    refine ⟨⟨oe, "ValueError", heo, hec, by rw [isSubtype_type]; kernel_rfl⟩, hgen₁, hr ex _ rfl ?_⟩
    obtain ⟨oL, es, ep, eL, rL⟩ := X.lw.fr.ns
    obtain ⟨sl, eL'⟩ := hfrm L (by rw [List.filterMap_cons_some (b := L) (by rfl)]; exact .head _) oL eL
    refine ⟨base, a0, hfly, hBb, fun a o e => ?_, ⟨fun n c e => ?_, X.lw.cl.apart, X.lw.cl.above⟩, ?_, ?_, ⟨_, es, ep, eL', rL⟩, X.lw.fr.above, X.lw.h188, hos.trans X.os, hdr.trans X.drawn, fun h => AllBare.setG (hbr (AllBare.setG (X.bare h) rfl)) rfl⟩
    · have h1 : @LT.lt Nat _ a B.objs.size := Heap.lt_size e
      have h2 : B.objs.size ≤ L := X.lw.fr.above
      exact hlow a o (by omega) (by omega) (by omega) (hMne a (by omega)) (X.lw.fr.keep a o e)
    · obtain ⟨o, e1, e2⟩ := X.lw.cl.cell n c e
      have h1 := hid_le (cell_hid e) X.lw.h188
      have h2 : L < c := X.lw.cl.above n c (mem_of_lookup e)
      exact ⟨o, hlow c o (by omega) (by omega) (by omega) (hMne c h1) e1, e2⟩
    · have h188 := X.lw.h188
      exact X.tab.same (let ⟨_, e, _⟩ := X.tab; (hlow 188 _ (by omega) (by omega) (by omega) (hMne 188 (by omega)) e).trans e.symm)
    · have := hfly.2.2.1
      exact (Heap.FunFrames.mem this (b := L) (by rw [List.filterMap_cons_some (b := L) (by rfl)]; exact .head _)).1
end
end Mine
end

/- part N4 -/
section
open PySem PySem.W PyProof PyProof.Rows PySem.W.X
set_option maxRecDepth 100000
namespace Mine

theorem ns_upto {h h' : Heap} {L : Addr} {m : Str → Option Value} (x : h.Ns L m) (u : h.UpToSlots h') : h'.Ns L m := by
  obtain ⟨o, es, ep, e, hd, r⟩ := x
  obtain ⟨sl, e'⟩ := u L o e (fun vs q => by rw [hd] at q; cases q)
  exact ⟨_, es, ep, e', hd, r⟩

section
variable {prog : Program} {w : World} {A : Around} {E : Value → Shared → Prop} {s s₀ : Shared} {B B' : Heap} {W : Web} {mkA : Option Addr} {L fa b g n : Nat} {cd : Value} {σ : GSt} {μ : List Nat} {gs : GenState} {m cm mg mb : Str → Option Value} {zs : List Int}

def tryHs : List ExceptHandler := match nthS 8 (bodyS lawDef) with
  | .Try _ hs _ _ _ => hs
  | _ => []
def fellSuite : List Stmt := match tryHs with
  | [.ExceptHandler _ _ b _] => b
  | _ => []

theorem wpAny_cameBack {E' : Value → Shared → Prop} {x : Addr} {base : Heap} {l : List Env} {a0 : Value} {env : Env} (hf : env.frame = some L) (hh : Heap.HeldW base l x (.type "ValueError") a0 L s.heap)
    (h : ∀ h', Heap.HeldW base l x (.type "ValueError") a0 L h' → s.heap.UpToSlots h' → E' (.ref x) { s with heap := h' }) : cameBackBy (model prog w) A env E' (.ref x) s := by
  unfold cameBackBy
  obtain ⟨oe, vs, T, oT, ts, he, hcls, hd, h1, _⟩ := hh.2.2.2
  refine wpAny_bind (wpAny_field he hd h1 ?_)
  rw [if_neg (show ¬ ((Value.ref T == Value.none) = true) from by simp), hf]
  exact wpAny_setFlight_sameW hh h

set_option maxHeartbeats 1000000 in
theorem handle_fell {Q : Flow → Shared → Prop} {E' : Value → Shared → Prop} {x : Addr} (I : LB w B mg mb) (hidB : ∀ a ∈ hidL L, B'.get? a = none) (R : GR B' B L fa cd s₀ m cm x s)
    (h : ∀ s', GD B' B L s₀ s' (fun y => if y = "fell" then some (.bool true) else m y) cm → Q .next s') :
    notedBy (model prog w) (AL L fa cd) (envW L fa cd) (fun e s' => cameBackBy (model prog w) (AL L fa cd) (envW L fa cd) (fun e s₁ => wpAny (model prog w) (AL L fa cd) (noteFrame e (envW L fa cd)) (fun _ s₂ => wpAny (model prog w) (AL L fa cd) (setFlight e none) (fun _ s₃ => wpAny (model prog w) (AL L fa cd) (handleBy e (envW L fa cd) tryHs) Q E' s₃) E' s₂) E' s₁) e s') (.ref x) s := by
  obtain ⟨base, a0, hfly, hBb, hBB, hcl, htab, hLb, hns, habove, h188, hos, hdr, hbr⟩ := R
  refine wpAny_looks_onW (base := base) (outer := []) rfl rfl hfly fun h1 hh1 u1 => ?_
  refine wpAny_cameBack (s := { s with heap := h1 }) rfl hh1 fun h2 hh2 u2 => ?_
  refine wpAny_noteFrame_againW (s := { s with heap := h2 }) rfl hh2.2.2.2 ?_
  refine wpAny_landsW (s := { s with heap := h2 }) hh2 fun h3 hf3 u3 => ?_
  have st3 : ∀ b o, base.get? b = some o → h3.get? b = some o := hf3.1
  refine wpAny_handleBy_builtin (X := "ValueError") (T := "ValueError") (b := true) (by rw [isSubtype_type]; kernel_rfl) (by rw [isSubtype_type]; kernel_rfl) (by rw [isSubtype_type]; kernel_rfl) ?_
  refine eB (e := envW L fa cd) I.gl (s := { s with heap := h3 }) (fun b o e => st3 b o (hBB b o e)) (by decide) (v := .type "ValueError") (by decide +kernel) ⟨rfl, ?_, ?_⟩
  · obtain ⟨oe, e1, e2⟩ := hf3.there
    exact ⟨oe, e1, e2⟩
  · rw [if_pos rfl]
    refine lands_againW (s := { s with heap := h3 }) hf3 fun h4 hf4 u4 => ?_
    have st4 : ∀ b o, base.get? b = some o → h4.get? b = some o := hf4.1
    have hns4 := ns_upto (ns_upto (ns_upto (ns_upto hns u1) u2) u3) u4
    have htab4 : TabB B' h4 := htab.same (let ⟨_, e, _⟩ := htab; (st4 188 _ e).trans e.symm)
    have kb4 : ∀ (a : Nat) o, B'.get? a = some o → h4.get? a = some o := fun a o e => st4 a o (hBb a o e)
    have X4 : LwS B L { s with heap := h4 } m cm := ⟨⟨hns4, fun a o e => st4 a o (hBB a o e), habove⟩, hcl.keeps st4, htab4.tabI (.head _) kb4 hidB, h188⟩
    refine wpAny_execs_cons (wpAny_Assign_Name (wpAny_Constant_bool ?_))
    refine wpAny_storeName_local (env := envW L fa cd) (by rfl) hns4 (fun h5 hn5 hs5 => wpAny_execs_nil ?_)
    obtain ⟨X5, S5⟩ := X4.set (tk := s.toks + 1) hn5 hs5
    have k5 : ∀ (a : Nat) o, a ≠ L → h4.get? a = some o → h5.get? a = some o := fun a o n e => (hs5.2 a n).trans e
    refine h _ ⟨X5, htab4.same (hs5.2 188 (Nat.ne_of_lt h188)), fun a o e => k5 a o (fun q => ?_) (kb4 a o e), hos, hdr, hbr⟩
    rw [q, hidB L mem_hid] at e
    cases e
end
end Mine
end

/- part N5 -/
section
open PySem PySem.W PyProof PyProof.Rows PySem.W.X
set_option maxRecDepth 100000
namespace Mine

theorem pend_or : ∀ σ : GSt, pend σ = [.sep] ∨ pend σ = []
  | .fresh _ => .inr rfl
  | .atInt _ => .inr rfl
  | .atSep _ _ => .inl rfl
  | .inside _ _ σ => pend_or σ
  | .atEmpty _ => .inr rfl
  | .atClose _ => .inr rfl
theorem pend_len (σ : GSt) : (tksStr (pend σ)).length ≤ 2 := by
  rcases pend_or σ with e | e <;> rw [e] <;> decide +kernel

theorem enc_bound {W : Web} {n j : Nat} {T x : Str} {σ : GSt} {μ : List Nat} (S : Small n W.row) (h : encR W true j = (T, .yield x σ μ)) : j ≤ 160 ∧ T.length ≤ 160 ∧ x.length ≤ 160 := by
  have hi := enc_inv W true j
  rw [h] at hi
  obtain ⟨i, toks, hx, hT, hs, hb, hn, hj, hx1⟩ := hi
  have hbd := x_bound S i (hn rfl)
  rw [hx] at hbd
  have h1 : (T ++ x).length ≤ 155 := by
    rw [hT, tksStr_app, len_app]
    have : (tksStr (pend σ)).length ≤ 2 := pend_len σ
    have h3 : (tksStr toks).length ≤ 153 := Nat.le_trans (Nat.le_add_right _ _) hbd
    omega
  rw [len_app] at h1
  omega

section
variable {prog : Program} {w : World} {A : Around} {E : Value → Shared → Prop} {s s₀ : Shared} {B B' : Heap} {W : Web} {mkA : Option Addr} {L fa b g n : Nat} {cd : Value} {σ : GSt} {μ : List Nat} {gs : GenState} {m cm mg mb : Str → Option Value} {zs : List Int}

def toldBody : List Stmt := bodyS (nthS 0 (bodyS (nthS 8 (bodyS lawDef))))

/-- `told += piece` -/
theorem told_one {Q : Flow → Shared → Prop} {T x : Str} {t tx : Tok} (X : GL prog w B' W mkA B L fa cd b g n σ μ gs s₀ s m cm) (h1 : cm "told" = some (.str T t)) (h2 : m "piece" = some (.str x tx)) (hsz : T.length + x.length ≤ 400)
    (h : ∀ s' t', GL prog w B' W mkA B L fa cd b g n σ μ gs s₀ s' m (fun y => if y = "told" then some (.str (T ++ x) t') else cm y) → Q .next s') :
    wpAny (model prog w) A (execs toldBody (envW L fa cd)) Q E s := by
  have hcT := X.lw.cl.cell "told" (L + 5) (by kernel_rfl)
  rw [h1] at hcT
  refine wpAny_execs_cons (wpAny_AugAssign_Name (wpAny_loadName_cell (env := envW L fa cd) rfl (by rfl) (by kernel_rfl) hcT (eL (e := envW L fa cd) X.lw.fr.ns h2 (iadd_str (fun t' tk => ?_) (by rw [sizeLine_eq]; omega)))))
  refine wpAny_storeName_cell (env := envW L fa cd) rfl (by rfl) (c := L + 5) (by kernel_rfl) hcT (fun h' hv hs => wpAny_execs_nil ?_)
  have hs' : Heap.SameBut (L + 5) s.heap h' := hs
  obtain ⟨lw', _⟩ := LwS.setC (tk := tk) (x := "told") (c := L + 5) X.lw (by kernel_rfl) hv hs'
  exact h _ t' (X.move (tk := tk) (fun a o ha e => (hs'.2 a (neN (by omega))).trans e) lw')

theorem GL.setL {h' : Heap} {tk : Nat} {m' : Str → Option Value} (X : GL prog w B' W mkA B L fa cd b g n σ μ gs s₀ s m cm) (hn : h'.Ns L m') (hs : Heap.SameBut L s.heap h') : GL prog w B' W mkA B L fa cd b g n σ μ gs s₀ { s with heap := h', toks := tk } m' cm :=
  X.move (fun a o ha e => (hs.2 a (neN (by omega))).trans e) (X.lw.set hn hs).1

set_option maxHeartbeats 2000000 in
theorem loop_first {R : Result → Shared → Prop} {t₀ : Tok} (S : Small W.n W.row) (hmk : mkA.isSome = true) (X : GL prog w B' W mkA B L fa cd b g 201 (.fresh 0) [] gs s₀ s m cm) (h1 : cm "told" = some (.str "" t₀))
    (hfin : ∀ s' m' T t j μ, GD B' B L s₀ s' m' (fun y => if y = "told" then some (.str T t) else cm y) → (∀ y : Str, y ≠ "piece" → m' y = m y) → encR W true j = (T, .fin μ) → T.length ≤ 400 → R (.ok .next) s')
    (hraise : ∀ x s' m' T t j, GR B' B L fa cd s₀ m' (fun y => if y = "told" then some (.str T t) else cm y) x s' → (∀ y : Str, y ≠ "piece" → m' y = m y) → encR W true j = (T, .raise) → T.length ≤ 400 → notedBy (model prog w) (AL L fa cd) (envW L fa cd) (fun e s' => R (.error e) s') (.ref x) s') :
    codeAny (model prog w) (AL L fa cd) (.forLoop (match nthS 0 (bodyS (nthS 8 (bodyS lawDef))) with | .For t _ _ _ _ => t | _ => default) (.ref (b + 1)) toldBody [] (envW L fa cd)) R s := by
  refine codeAny_forLoop (fun k s' => ∃ j T t σ μ gs m' cm', k = 201 - j ∧ j ≤ 200 ∧ encR W true j = (T, step W true σ μ) ∧ T.length ≤ 400 ∧ GL prog w B' W mkA B L fa cd b g (201 - j) σ μ gs s₀ s' m' cm' ∧ (∀ y : Str, y ≠ "piece" → m' y = m y) ∧ cm' = (fun (y : Str) => if y = "told" then some (.str T t) else cm y)) ?_ 201
    ⟨0, "", t₀, .fresh 0, [], gs, m, cm, rfl, by decide, rfl, by decide +kernel, X, fun _ _ => rfl, ?_⟩
  · rintro k s' ⟨j, T, t, σ, μ, gs', m', cm', rfl, hj, he, hTl, X', hm', rfl⟩
    have X' : GL prog w B' W mkA B L fa cd b g (200 - j + 1) σ μ gs' s₀ s' m' (fun y => if y = "told" then some (.str T t) else cm y) := by
      have e : 200 - j + 1 = 201 - j := by omega
      rw [e]; exact X'
    refine X'.turn (fun x σ' μ' tok gs'' s₁ hst X₁ => ?_) (fun μ' s₁ hst D => ?_) (fun x s₁ hst R₁ => ?_)
    · rw [hmk] at hst
      rw [hst] at he
      obtain ⟨b1, b2, b3⟩ := enc_bound S he
      refine wpAny_assign_Name (wpAny_storeName_local (env := envW L fa cd) (by rfl) X₁.lw.fr.ns (fun h₂ hn₂ hs₂ => ?_) (by rfl))
      have X₂ := X₁.setL (tk := s₁.toks + 1) hn₂ hs₂
      refine told_one (T := T) (x := x) (t := t) (tx := tok) X₂ (if_pos rfl) (if_pos rfl) (by omega) fun s₃ t' X₃ => ?_
      have e : 200 - j = 201 - (j + 1) := by omega
      rw [e] at X₃
      refine ⟨201 - (j + 1), by omega, j + 1, T ++ x, t', σ', μ', gs'', _, _, rfl, by omega, ?_, by rw [len_app]; omega, X₃, fun y hy => (if_neg hy).trans (hm' y hy), ?_⟩
      · show encNext W true (encR W true j) = _
        rw [he]; rfl
      · funext y
        by_cases hy : y = "told"
        · rw [if_pos hy, if_pos hy]
        · rw [if_neg hy, if_neg hy, if_neg hy]
    · rw [hmk] at hst
      rw [hst] at he
      exact wpAny_execs_nil (hfin s₁ m' T t j μ' D hm' he hTl)
    · rw [hmk] at hst
      rw [hst] at he
      exact hraise x s₁ m' T t j R₁ hm' he hTl
  · funext y
    by_cases hy : y = "told"
    · rw [if_pos hy, hy]; exact h1
    · rw [if_neg hy]
end
end Mine
end

/- part N6 -/
section
open PySem PySem.W PyProof PyProof.Rows PySem.W.X
set_option maxRecDepth 100000
namespace Mine
section
variable {prog : Program} {w : World} {A : Around} {E : Value → Shared → Prop} {s s₀ s₁ s' : Shared} {B : Heap} {W : Web} {L fa b g n al : Nat} {cd v : Value} {m cm mg mb : Str → Option Value} {zs : List Int} {la : Nat → Nat} {cc : Bool}

theorem gl_start (I : LB w B mg mb) (X : LwS B L s₁ m cm) (hWa : W.addr 0 = la 0) (h0 : 0 < W.n) (WI : ∀ B' : Heap, (∀ (a : Nat) o, a ∉ hidL L → s₁.heap.get? a = some o → B'.get? a = some o) → WebIn W B')
    (hos : s₁.os = s₀.os) (hdr : s₁.drawn = s₀.drawn) (hge : s₁.gens = s₀.gens) (G : Gen0 s₁ (hidL L) cc (la 0) v s') :
    ∃ mkA B' b gs, v = .ref (b + 1) ∧ mkA.isSome = cc ∧ GL prog w B' W mkA B L fa cd b s₁.gens.size 201 (.fresh 0) [] gs s₀ s' m cm ∧ ∀ (a : Nat) o, a ∉ hidL L → s₁.heap.get? a = some o → B'.get? a = some o := by
  obtain ⟨D, mkA, B', b, m', a1, a2, a3, a4, a5, a6, a7, a8, a9, a10, a11, a12, a13, a14, a15, a16, aB, a17⟩ := G
  have hsz := X.size
  have lw' : LwS B L s' m cm := ⟨⟨X.fr.ns.extBut a15 (Nat.ne_of_gt X.h188), fun a o e => a15 a o (fun q => by rw [q, I.n188] at e; cases e) (X.fr.keep a o e), X.fr.above⟩, X.cl.extBut a15 (Nat.le_of_lt X.h188), a16, X.h188⟩
  have hg : s'.gens[s₁.gens.size]? = some (.fresh (.func (bodyS iterDef) (envT D b))) := by rw [a9]; exact Array.getElem?_push_size ..
  have hmM : ∀ (M : Nat), mkA = some M → L + 7 < M ∧ M < b ∧ B'.get? M = none := fun M hM => let ⟨c1, c2, c3, _⟩ := a12 M hM; ⟨Nat.lt_of_lt_of_le hsz c1, c2, c3⟩
  have hLb : L + 7 < b := Nat.lt_of_lt_of_le hsz a17
  refine ⟨mkA, B', b, _, a1, a2, ⟨a8, hg, rep_start (D := D) (m' := m') a4 a3 (WI B' a14) h0 a5 (by rw [hWa]; exact a6) a7 a8 hg (fun M hM => ⟨by have := (hmM M hM).1; omega, (hmM M hM).2⟩) (by omega) (a13 L mem_hid), ?_, lw', aB, a5.keep, a10.trans hos, a11.trans hdr, fun h => ?_, hmM, hLb, a13, a4.nolimit, a5.above⟩, a14⟩
  · cases mkA with
    | none => trivial
    | some M =>
      obtain ⟨_, _, _, k, e⟩ := a12 M rfl
      exact ⟨⟨k, e⟩, fun p hp => by cases hp⟩
  · rw [a9, hge]
    intro y hy
    rcases Array.mem_push.mp hy with hy | rfl
    · exact h y hy
    · rfl

set_option maxHeartbeats 1000000 in
theorem s_try {Q : Flow → Shared → Prop} {t₀ : Tok} (I : LB w B mg mb) (X : LwS B L s m cm) (hBh : ∀ b o, B.get? b = some o → b ∉ hidL L) (S : Small W.n W.row) (hWa : W.addr 0 = la 0) (WI : ∀ B' : Heap, (∀ (a : Nat) o, a ∉ hidL L → s.heap.get? a = some o → B'.get? a = some o) → WebIn W B')
    (h1 : m "lists" = some (.ref al)) (Ls : ListsA W.n L al la s.heap) (ht : cm "told" = some (.str "" t₀)) (hfl : m "fell" = some (.bool false))
    (h : ∀ s' m' T t f, LwS B L s' m' (fun y => if y = "told" then some (.str T t) else cm y) → (∀ (a : Nat) o, a ∉ hidL L → s.heap.get? a = some o → s'.heap.get? a = some o) → s'.os = s.os → s'.drawn = s.drawn → (AllBare s.gens → AllBare s'.gens) →
      (∀ y : Str, y ≠ "piece" → y ≠ "fell" → m' y = m y) → m' "fell" = some (.bool f) → T.length ≤ 400 → (f = true → ∃ j, encR W true j = (T, .raise)) → (f = false → ∃ j μ, encR W true j = (T, .fin μ)) → Q .next s') :
    wpAny (model prog w) (AL L fa cd) (exec (nthS 8 (bodyS lawDef)) (envW L fa cd)) Q E s := by
  refine wpAny_Try_except (wpAny_execs_cons (wpAny_For (enc_first I X hBh h1 Ls S.n0 fun s₁ v s' hk X₁ hG => ?_)))
  obtain ⟨h₁, tk₁, rfl, kk⟩ := hk
  obtain ⟨mkA, B', b, gs, rfl, hmk, X', hsub⟩ := gl_start (prog := prog) (w := w) (fa := fa) (cd := cd) (s₀ := s) I X₁ hWa S.n0 (fun B' hk => WI B' fun a o n e => hk a o n (kk a o e)) rfl rfl rfl hG
  refine wpAny_pyIter_gen X'.gob ?_
  have kept : ∀ {s₂ : Shared}, (∀ a o, B'.get? a = some o → s₂.heap.get? a = some o) → ∀ (a : Nat) o, a ∉ hidL L → s.heap.get? a = some o → s₂.heap.get? a = some o := fun kb a o n e => kb a o (hsub a o n (kk a o e))
  refine loop_first S hmk X' ht (fun s₂ m' T t j μ D hm' he hT => ?_) (fun x s₂ m' T t j R hm' he hT => ?_)
  · refine wpAny_execs_nil (wpAny_execs_nil (h s₂ m' T t false D.lw (kept D.base) D.os D.drawn D.bare (fun y a _ => hm' y a) ((hm' _ (by decide)).trans hfl) hT (fun e => by cases e) (fun _ => ⟨j, μ, he⟩)))
  · refine handle_fell I X'.hidB R fun s₃ D => ?_
    exact h s₃ _ T t true D.lw (kept D.base) D.os D.drawn D.bare (fun y a b => (if_neg b).trans (hm' y a)) (if_pos rfl) hT (fun _ => ⟨j, he⟩) (fun e => by cases e)
end
end Mine
end

/- part N7 -/
section
open PySem PySem.W PyProof PyProof.Rows PySem.W.X
set_option maxRecDepth 100000
namespace Mine

def gwf (n : Nat) : GSt → Prop
  | .fresh p => p < n
  | .atInt p => p < n
  | .atSep p _ => p < n
  | .inside p _ σ => p < n ∧ gwf n σ
  | _ => True

def outSmall (n : Nat) : Out → Prop
  | .yield x σ _ => x.length ≤ 2 ∧ gwf n σ
  | _ => True

theorem head_small {W : Web} {n p k : Nat} {μ : List Nat} (hp : p < n) : outSmall n (headOut W p k μ) := by
  unfold headOut
  cases W.row p with
  | none => trivial
  | some ts =>
    dsimp only
    split
    · exact ⟨by decide +kernel, hp⟩
    · exact ⟨by decide +kernel, trivial⟩
theorem fresh_small {W : Web} {n p : Nat} {chk : Bool} {μ : List Nat} (hn : n ≤ 5) (hp : p < n) : outSmall n (freshOut W chk p μ) := by
  unfold freshOut
  cases W.row p with
  | none => exact ⟨by decide +kernel, trivial⟩
  | some ts =>
    dsimp only
    split
    · trivial
    · refine ⟨?_, hp⟩
      rw [len_app]
      have h1 : (Str.ofString "[").length = 1 := by decide +kernel
      have h2 : (Str.ofString (toString (p : Int))).length = 1 := pStr_one (by omega)
      omega
theorem lift_small {W : Web} {n p k : Nat} (hp : p < n) : ∀ {o : Out}, outSmall n o → outSmall n (o.lift W p k)
  | .yield _ _ _, h => ⟨h.1, hp, h.2⟩
  | .fin _, _ => head_small hp
  | .raise, _ => trivial
theorem step_small {W : Web} {n : Nat} {chk : Bool} (S : Small n W.row) : ∀ (σ : GSt) (μ : List Nat), gwf n σ → outSmall n (step W chk σ μ)
  | .fresh p, μ, h => fresh_small S.n5 h
  | .atInt p, μ, h => head_small h
  | .atSep p k, μ, h => by
    have hc : ((W.row p).getD []).getD (k - 1) 0 < n := by
      cases hr : W.row p with
      | none => exact S.n0
      | some ts =>
        show ts.getD (k - 1) 0 < n
        by_cases hk : k - 1 < ts.length
        · have : ts.getD (k - 1) 0 = ts[k - 1] := by simp [List.getD, hk]
          rw [this]
          exact S.inn p ts h hr _ (List.getElem_mem hk)
        · have : ts.getD (k - 1) 0 = 0 := by simp [List.getD, Nat.not_lt.mp hk]
          rw [this]; exact S.n0
    exact lift_small h (fresh_small S.n5 hc)
  | .inside p k σ, μ, h => lift_small h.1 (step_small S σ μ h.2)
  | .atEmpty _, _, _ => trivial
  | .atClose _, _, _ => trivial

theorem enc_len {W : Web} {chk : Bool} {j : Nat} {T x : Str} {σ : GSt} {μ : List Nat} (h : encR W chk j = (T, .yield x σ μ)) : j ≤ T.length := by
  have hi := enc_inv W chk j
  rw [h] at hi
  obtain ⟨i, toks, _, _, _, _, _, hj, _⟩ := hi
  exact hj
theorem enc_noraise {W : Web} {j : Nat} {T : Str} (h : encR W false j = (T, .raise)) : False := by
  have hi := enc_inv W false j
  rw [h] at hi
  cases hi.1

section
variable {prog : Program} {w : World} {A : Around} {E : Value → Shared → Prop} {s s₀ s₁ s' : Shared} {B B' : Heap} {W : Web} {mkA : Option Addr} {L fa b g n al : Nat} {cd v : Value} {m cm mg mb : Str → Option Value} {zs : List Int} {la : Nat → Nat} {σ : GSt} {μ : List Nat} {gs : GenState}

def endBody : List Stmt := bodyS encStmt2
/-- `endless += piece`, and the break at 160 letters -/
theorem endless_one {Q : Flow → Shared → Prop} {T x : Str} {t tx : Tok} (I : LB w B mg mb) (X : GL prog w B' W mkA B L fa cd b g n σ μ gs s₀ s m cm) (h1 : m "endless" = some (.str T t)) (h2 : m "piece" = some (.str x tx)) (hsz : T.length + x.length ≤ 400)
    (h : ∀ s' t', GL prog w B' W mkA B L fa cd b g n σ μ gs s₀ s' (fun y => if y = "endless" then some (.str (T ++ x) t') else m y) cm → if 160 ≤ (T ++ x).length then Q .brk s' else Q .next s') :
    wpAny (model prog w) A (execs endBody (envW L fa cd)) Q E s := by
  refine wpAny_execs_cons (wpAny_AugAssign_Name (wpAny_loadName_local (env := envW L fa cd) rfl (by rfl) X.lw.fr.ns h1 (eL (e := envW L fa cd) X.lw.fr.ns h2 (iadd_str (fun t' tk => ?_) (by rw [sizeLine_eq]; omega)))))
  refine wpAny_storeName_local (env := envW L fa cd) (by rfl) X.lw.fr.ns (fun h' hn hs => ?_)
  have X₁ := X.setL (tk := tk + 1) hn hs
  refine wpAny_execs_cons (wpAny_If (wpAny_isTrue_Compare1 (call_b (eB (e := envW L fa cd) I.gl X₁.lw.fr.keep (by decide) (v := .builtin "len") (by decide +kernel) ⟨rfl, args1 (eL (e := envW L fa cd) X₁.lw.fr.ns (if_pos rfl) ?_)⟩))))
  refine P.len_str (by rw [len_app]; omega) (wpAny_Constant_int (P.ge_int (wpAny_truthy_bool ?_)))
  have X₂ : ∀ tk', GL prog w B' W mkA B L fa cd b g n σ μ gs s₀ { s with heap := h', toks := tk' } (fun y => if y = "endless" then some (.str (T ++ x) t') else m y) cm := fun tk' => X.setL (tk := tk') hn hs
  have hq := h _ t' (X₂ (tk + 1 + 1 + 1 + 1))
  by_cases hl : 160 ≤ (T ++ x).length
  · rw [if_pos hl] at hq
    rw [if_pos (decide_eq_true (by omega))]
    exact wpAny_execs_cons (wpAny_Break hq)
  · rw [if_neg hl] at hq
    rw [if_neg (by rw [decide_eq_true_eq]; omega)]
    exact wpAny_execs_nil (wpAny_execs_nil hq)

set_option maxHeartbeats 2000000 in
theorem loop_second {R : Result → Shared → Prop} {t₀ : Tok} (I : LB w B mg mb) (S : Small W.n W.row) (hmk : mkA.isSome = false) (X : GL prog w B' W mkA B L fa cd b g 201 (.fresh 0) [] gs s₀ s m cm) (h1 : m "endless" = some (.str "" t₀))
    (hfin : ∀ s' m' T t, GD B' B L s₀ s' m' cm → (∀ y : Str, y ≠ "piece" → y ≠ "endless" → m' y = m y) → m' "endless" = some (.str T t) → EndlessOK W T → T.length ≤ 400 → R (.ok .next) s') :
    codeAny (model prog w) (AL L fa cd) (.forLoop (match encStmt2 with | .For t _ _ _ _ => t | _ => default) (.ref (b + 1)) endBody [] (envW L fa cd)) R s := by
  refine codeAny_forLoop (fun k s' => ∃ j T t σ μ gs m', k = 201 - j ∧ j ≤ 200 ∧ encR W false j = (T, step W false σ μ) ∧ T.length < 160 ∧ gwf W.n σ ∧ GL prog w B' W mkA B L fa cd b g (201 - j) σ μ gs s₀ s' m' cm ∧ (∀ y : Str, y ≠ "piece" → y ≠ "endless" → m' y = m y) ∧ m' "endless" = some (.str T t)) ?_ 201
    ⟨0, "", t₀, .fresh 0, [], gs, m, rfl, by decide, rfl, by decide +kernel, S.n0, X, fun _ _ _ => rfl, h1⟩
  rintro k s' ⟨j, T, t, σ, μ, gs', m', rfl, hj, he, hTl, hw, X', hm', hme⟩
  have X' : GL prog w B' W mkA B L fa cd b g (200 - j + 1) σ μ gs' s₀ s' m' cm := by
    have e : 200 - j + 1 = 201 - j := by omega
    rw [e]; exact X'
  refine X'.turn (fun x σ' μ' tok gs'' s₁ hst X₁ => ?_) (fun μ' s₁ hst D => ?_) (fun x s₁ hst R₁ => ?_)
  · rw [hmk] at hst
    have hsm := step_small (chk := false) S σ μ hw
    rw [hst] at he hsm
    obtain ⟨b3, hw'⟩ := hsm
    have b1 := enc_len he
    refine wpAny_assign_Name (wpAny_storeName_local (env := envW L fa cd) (by rfl) X₁.lw.fr.ns (fun h₂ hn₂ hs₂ => ?_) (by rfl))
    have X₂ := X₁.setL (tk := s₁.toks + 1) hn₂ hs₂
    refine endless_one (T := T) (x := x) (t := t) (tx := tok) I X₂ ((if_neg (by decide)).trans hme) (if_pos rfl) (by omega) fun s₃ t' X₃ => ?_
    by_cases hl : 160 ≤ (T ++ x).length
    · rw [if_pos hl]
      exact hfin s₃ _ (T ++ x) t' ⟨X₃.lw, X₃.tab, X₃.base, X₃.os, X₃.drawn, X₃.bare⟩ (fun y h1 h2 => (if_neg h2).trans ((if_neg h1).trans (hm' y h1 h2))) (if_pos rfl) (.inr ⟨hl, j, T, x, σ', μ', he, rfl⟩) (by rw [len_app]; omega)
    · rw [if_neg hl]
      have e : 200 - j = 201 - (j + 1) := by omega
      rw [e] at X₃
      refine ⟨201 - (j + 1), by omega, j + 1, T ++ x, t', σ', μ', gs'', _, rfl, by omega, ?_, by omega, hw', X₃, fun y h1 h2 => (if_neg h2).trans ((if_neg h1).trans (hm' y h1 h2)), if_pos rfl⟩
      show encNext W false (encR W false j) = _
      rw [he]; rfl
  · rw [hmk] at hst
    rw [hst] at he
    exact wpAny_execs_nil (hfin s₁ m' T t D hm' hme (.inl ⟨j, μ', he⟩) (by omega))
  · rw [hmk] at hst
    rw [hst] at he
    exact (enc_noraise he).elim

theorem s_endless {Q : Flow → Shared → Prop} {t₀ : Tok} (I : LB w B mg mb) (X : LwS B L s m cm) (hBh : ∀ b o, B.get? b = some o → b ∉ hidL L) (S : Small W.n W.row) (hWa : W.addr 0 = la 0) (WI : ∀ B' : Heap, (∀ (a : Nat) o, a ∉ hidL L → s.heap.get? a = some o → B'.get? a = some o) → WebIn W B')
    (h1 : m "lists" = some (.ref al)) (Ls : ListsA W.n L al la s.heap) (ht : m "endless" = some (.str "" t₀))
    (h : ∀ s' m' T t, LwS B L s' m' cm → (∀ (a : Nat) o, a ∉ hidL L → s.heap.get? a = some o → s'.heap.get? a = some o) → s'.os = s.os → s'.drawn = s.drawn → (AllBare s.gens → AllBare s'.gens) →
      (∀ y : Str, y ≠ "piece" → y ≠ "endless" → m' y = m y) → m' "endless" = some (.str T t) → T.length ≤ 400 → EndlessOK W T → Q .next s') :
    wpAny (model prog w) (AL L fa cd) (exec encStmt2 (envW L fa cd)) Q E s := by
  refine wpAny_For (enc_second I X hBh h1 Ls S.n0 fun s₁ v s' hk X₁ hG => ?_)
  obtain ⟨h₁, tk₁, rfl, kk⟩ := hk
  obtain ⟨mkA, B', b, gs, rfl, hmk, X', hsub⟩ := gl_start (prog := prog) (w := w) (fa := fa) (cd := cd) (s₀ := s) I X₁ hWa S.n0 (fun B' hk => WI B' fun a o n e => hk a o n (kk a o e)) rfl rfl rfl hG
  refine wpAny_pyIter_gen X'.gob ?_
  refine loop_second I S hmk X' ht (fun s₂ m' T t D hm' hme hE hT => ?_)
  exact h s₂ m' T t D.lw (fun a o n e => D.base a o (hsub a o n (kk a o e))) D.os D.drawn D.bare hm' hme hT hE
end
end Mine
end

/- part N8 -/
section
open PySem PySem.W PyProof PyProof.Rows PySem.W.X
set_option maxRecDepth 100000
namespace Mine

theorem slice_take (x : Str) (j : Nat) : Txt.slice x none (some (j : Int)) = ⟨(x.cps.toList.take j).toArray⟩ := by
  show StrLaws.sliceText x none (some (j : Int)) = _
  by_cases h : j ≤ x.cps.toList.length
  · rw [StrLaws.sliceText_to ⟨by omega, by omega⟩, List.drop_zero]
    congr 3
  · have hl : x.cps.toList.length = x.length := by simp [Str.length]
    have e : Builtin.Str.strSliceIndices none (some (j : Int)) 1 x.length = Builtin.Str.strSliceIndices none (some ((x.length : Nat) : Int)) 1 x.length := by
      unfold Builtin.Str.strSliceIndices
      have a1 : ¬ ((j : Int) < 0) := by omega
      have a2 : ¬ (((x.length : Nat) : Int) < 0) := by omega
      simp only [a1, a2, if_false, show (1 : Int) > 0 by decide, if_true]
      have e1 : max (0 : Int) (min (j : Int) (x.length : Int)) = x.length := by omega
      have e2 : max (0 : Int) (min (x.length : Int) (x.length : Int)) = x.length := by omega
      rw [e1, e2]
    have e3 : StrLaws.sliceText x none (some (j : Int)) = StrLaws.sliceText x none (some ((x.length : Nat) : Int)) := by
      unfold StrLaws.sliceText
      rw [e]
    rw [e3, StrLaws.sliceText_to ⟨by omega, by omega⟩, List.drop_zero]
    rw [List.take_of_length_le (i := j) (by omega), List.take_of_length_le (by omega)]

theorem text_bound {n : Nat} {row : Nat → Option (List Nat)} (S : Small n row) {k : Nat} (hb : ∀ j < k, condT (ltN row (S0 row) j) = true) : (ltN row (S0 row) k).text.length ≤ 2160 := by
  have v : ∀ j, VTS n row (ltN row (S0 row) j) := fun j => by
    induction j with
    | zero =>
      refine ⟨fun x hx => ?_, ?_⟩
      · have hx : x ∈ [(0, 0)] := hx
        rw [List.mem_singleton.mp hx]
        exact ⟨S.n0, Nat.zero_le _⟩
      · show 1 ≤ (if (row 0).isSome then ("[" : Str) else ("[]" : Str)).length
        cases (row 0).isSome <;> decide +kernel
    | succ j ih => exact ih.step S.inn
  cases k with
  | zero =>
    show (if (row 0).isSome then ("[" : Str) else ("[]" : Str)).length ≤ 2160
    cases (row 0).isSome <;> decide +kernel
  | succ k =>
    have h1 := text_step (by have := S.n5; omega) (v k)
    have h2 := hb k (Nat.lt_succ_self k)
    unfold condT at h2
    rw [Bool.and_eq_true, decide_eq_true_iff] at h2
    show (ltStep row (ltN row (S0 row) k)).text.length ≤ 2160
    omega

section
variable {prog : Program} {w : World} {A : Around} {E : Value → Shared → Prop} {s s₀ s₁ s' : Shared} {B B' : Heap} {W : Web} {L fa b g n al : Nat} {cd v : Value} {m cm mg mb : Str → Option Value} {zs : List Int} {env : Env}

theorem wpAny_And3 {x y z : Expr} {pos : Pos} {Q : Value → Shared → Prop}
    (h : wpAny (model prog w) A (eval x env) (fun v s₁ => wpAny (model prog w) A (truthy v) (fun t s₂ => if t then wpAny (model prog w) A (eval (.BoolOp .And [y, z] pos) env) Q E s₂ else Q v s₂) E s₁) E s) :
    wpAny (model prog w) A (eval (.BoolOp .And [x, y, z] pos) env) Q E s := by
  show wpAny (model prog w) A (do
    let v ← eval x env
    standAt pos
    let t ← holding [v] (truthy v)
    match BoolOp.And, t with
    | .And, false | .Or, true => pure v
    | _, _ => boolOp pos .And [eval y env, eval z env]) Q E s
  refine wpAny_bind (wpAny_mono h (fun v s₁ h₁ => wpAny_bind (wpAny_standAt (wpAny_bind (wpAny_holding (wpAny_mono h₁ (fun t s₂ h₂ => ?_) fun _ _ x => x))))) fun _ _ x => x)
  cases t with
  | false => exact wpAny_pure h₂
  | true => exact h₂

/-- x[:e] of a text -/
theorem str_to {x : Str} {t : Tok} {vn : Str} {ue : Expr} {j : Nat} {p1 p2 p3 : Pos} {Q : Value → Shared → Prop} (hn : s.heap.Ns L m) (hx : m vn = some (.str x t)) (hsz : x.length ≤ 10000) (hloc : (envW L fa cd).kindOf vn = some .local)
    (hu : ∀ (s₁ : Shared), s₁.heap = s.heap → ∀ (Q' : Value → Shared → Prop), (∀ tj tk, Q' (.int (j : Int) tj) { s₁ with toks := tk }) → wpAny (model prog w) A (eval ue (envW L fa cd)) Q' E s₁)
    (h : ∀ h' t' tk, (∀ b o, s.heap.get? b = some o → h'.get? b = some o) → Q (.str ⟨(x.cps.toList.take j).toArray⟩ t') { s with heap := h', toks := tk }) (hd : (vn == ("__debug__" : Str)) = false) :
    wpAny (model prog w) A (eval (.Subscript (.Name vn p1) (.Slice none (some ue) none p2) p3) (envW L fa cd)) Q E s := by
  refine Subscript_Slice (eL (e := envW L fa cd) hn hx (wpAny_Slice (evalPart_none_step (evalPart_some_step (hu s rfl _ fun tj tk => evalPart_none_step ?_)))) rfl hloc hd)
  refine SBG.sliceItem_ns (s := { s with toks := tk }) (Fm := fun s' => ∃ h' tk', s' = { s with heap := h', toks := tk' } ∧ ∀ b o, s.heap.get? b = some o → h'.get? b = some o) ?_ ⟨s.heap, tk, rfl, fun _ _ e => e⟩ ?_ (by rw [sizeLine_eq]; omega)
  · rintro _ ob k ⟨h', tk', rfl, kk⟩
    exact ⟨_, k, rfl, fun b o e => Heap.get?_push_of_some _ (kk b o e)⟩
  · rintro _ t' ⟨h', tk', rfl, kk⟩
    rw [slice_take]
    exact h h' t' tk' kk
end
end Mine
end

/- part N9 -/
section
open PySem PySem.W PyProof PyProof.Rows PySem.W.X
set_option maxRecDepth 100000
namespace Mine
section
variable {prog : Program} {w : World} {A : Around} {E : Value → Shared → Prop} {s s₀ s₁ s' : Shared} {B B' : Heap} {W : Web} {L fa b g n al k : Nat} {cd v : Value} {m cm mg mb : Str → Option Value} {zs : List Int} {env : Env} {T T2 : Str} {f : Bool}

abbrev LT (W : Web) (k : Nat) : TS := ltN W.row (S0 W.row) k

theorem take_pre {T X : Str} (h : pre T X) : X.cps.toList.take T.length = T.cps.toList := by
  obtain ⟨z, rfl⟩ := h
  rw [app_cps, List.take_append_of_le_length (by simp [Str.length]), List.take_of_length_le (by simp [Str.length])]

set_option maxHeartbeats 1000000 in
theorem s_circle {Q : Flow → Shared → Prop} {tc tx tt te : Tok} (X : LwS B L s m cm) (S : Small W.n W.row) (hk : condT (LT W k) = false) (hb : ∀ j < k, condT (LT W j) = true)
    (h1 : m "circle" = some (.int (LT W k).circ tc)) (h2 : m "text" = some (.str (LT W k).text tx)) (h3 : m "fell" = some (.bool f)) (h4 : cm "told" = some (.str T tt)) (h5 : m "endless" = some (.str T2 te)) (hT : T.length ≤ 400) (hT2 : T2.length ≤ 400)
    (hf1 : f = true → ∃ j, encR W true j = (T, .raise)) (hf0 : f = false → ∃ j μ, encR W true j = (T, .fin μ)) (hE : EndlessOK W T2)
    (hret : ∀ h' tk, (∀ b o, s.heap.get? b = some o → h'.get? b = some o) → Q (.ret (.bool true)) { s with heap := h', toks := tk })
    (hnext : ∀ tk, f = false → Q .next { s with toks := tk }) :
    wpAny (model prog w) A (exec (nthS 10 (bodyS lawDef)) (envW L fa cd)) Q E s := by
  have hcT := X.cl.cell "told" (L + 5) (by kernel_rfl)
  rw [h4] at hcT
  have htb := text_bound S hb
  refine wpAny_If (wpAny_isTrue_Compare1 (eL (e := envW L fa cd) X.fr.ns h1 (wpAny_Constant_int (P.ge_int (wpAny_truthy_bool ?_)))))
  cases f with
  | true =>
    obtain ⟨j, he⟩ := hf1 rfl
    obtain ⟨hc, hp⟩ := law_fell S he hk hb
    have hcirc : (LT W k).circ = (T.length : Int) := hc
    rw [hcirc] at h1 ⊢
    rw [if_pos (decide_eq_true (by omega))]
    have h160 := (law_endless hE hk).1
    refine wpAny_execs_cons (wpAny_Return_some (wpAny_And3 (eL (e := envW L fa cd) X.fr.ns h3 (wpAny_truthy_bool ?_))))
    rw [if_pos rfl]
    refine wpAny_And2 (wpAny_Compare1 (eCl (e := envW L fa cd) (c := L + 5) (by kernel_rfl) hcT (str_to X.fr.ns h2 (by have : (LT W k).text.length ≤ 2160 := htb; omega) (by rfl) (fun s₁ hs₁ Q' hq => eL (e := envW L fa cd) (hs₁ ▸ X.fr.ns) h1 (hq tc s₁.toks)) (fun h' t' tk kk => ?_) (by decide))))
    refine P.eq_str (wpAny_truthy_bool ?_)
    have e1 : (T.cps.toList == (⟨((LT W k).text.cps.toList.take T.length).toArray⟩ : Str).cps.toList) = true := by
      show (T.cps.toList == (LT W k).text.cps.toList.take T.length) = true
      rw [take_pre hp]
      exact beq_self_eq_true _
    rw [e1, if_pos rfl]
    refine wpAny_Compare1 (str_to (j := 160) (X.fr.ns.keeps kk) h2 (by have : (LT W k).text.length ≤ 2160 := htb; omega) (by rfl) (fun s₁ hs₁ Q' hq => wpAny_Constant_int (hq _ _)) (fun h₂ t₂ tk₂ kk₂ => ?_) (by decide))
    refine str_to (j := 160) ((X.fr.ns.keeps kk).keeps kk₂) h5 (by omega) (by rfl) (fun s₁ hs₁ Q' hq => wpAny_Constant_int (hq _ _)) (fun h₃ t₃ tk₃ kk₃ => ?_) (by decide)
    refine P.eq_str ?_
    have e2 : ((⟨((LT W k).text.cps.toList.take 160).toArray⟩ : Str).cps.toList == (⟨(T2.cps.toList.take 160).toArray⟩ : Str).cps.toList) = true := by
      show ((LT W k).text.cps.toList.take 160 == T2.cps.toList.take 160) = true
      have : (LT W k).text.cps.toList.take 160 = T2.cps.toList.take 160 := h160
      rw [this]
      exact beq_self_eq_true _
    rw [e2]
    exact hret h₃ tk₃ fun b o e => kk₃ b o (kk₂ b o (kk b o e))
  | false =>
    obtain ⟨j, μ, he⟩ := hf0 rfl
    obtain ⟨hc, _⟩ := law_ended S he hk hb
    have hcirc : (LT W k).circ = -1 := hc
    rw [hcirc]
    rw [if_neg (by decide)]
    exact wpAny_execs_nil (hnext _ rfl)
end
end Mine
end

/- part N10 -/
section
open PySem PySem.W PyProof PyProof.Rows PySem.W.X
set_option maxRecDepth 100000
namespace Mine

abbrev NatsF (h : Heap) (a n : Nat) (F : Nat → Nat) : Prop := ∃ vs : List Value, h.IsList a vs.toArray ∧ IntsAre vs ((List.range n).map fun p => ((F p : Nat) : Int))
theorem NatsF.keep {h h' : Heap} {a n : Nat} {F : Nat → Nat} (x : NatsF h a n F) (k : ∀ b o, h.get? b = some o → h'.get? b = some o) : NatsF h' a n F := let ⟨vs, a, b⟩ := x; ⟨vs, lst_keep a k, b⟩
theorem NatsF.at_ {h : Heap} {a n : Nat} {F : Nat → Nat} (x : NatsF h a n F) {p : Nat} (hp : p < n) : ∃ vs : List Value, h.IsList a vs.toArray ∧ ∃ t, vs.toArray[((p : Nat) : Int).toNat]? = some (.int (F p : Int) t) := by
  obtain ⟨vs, hl, hv⟩ := x
  obtain ⟨t, e⟩ := ints_at hv (i := p) (by simpa using hp)
  refine ⟨vs, hl, t, ?_⟩
  rw [e]
  simp [hp]

theorem ints_rep (n : Nat) (i : Int) (t : Tok) : IntsAre (List.replicate n [Value.int i t]).flatten (List.replicate n i) := by
  induction n with
  | zero => exact .nil
  | succ n ih => exact .cons i t ih

section
variable {prog : Program} {w : World} {A : Around} {E : Value → Shared → Prop} {s s₀ s₁ s' : Shared} {B B' : Heap} {W : Web} {L fa b g n al k : Nat} {cd v : Value} {m cm mg mb : Str → Option Value} {zs : List Int} {env : Env} {T T2 : Str} {f : Bool}

theorem mul_ls {l : Addr} {items : Array Value} {k : Nat} {x : Int} {u : Tok} {Q : Value → Shared → Prop} (hl : s.heap.get? l = some { cls := .type "list", dict := none, data := .seq items k, slots := #[] })
    (hlo : -(2 ^ 63 : Int) ≤ x) (hhi : x < 2 ^ 63) (hsz : items.size * x.toNat ≤ 2 ^ 24)
    (h : Q (.ref s.heap.objs.size) { s with heap := s.heap.push { cls := .type "list", data := .seq (List.replicate x.toNat items.toList).flatten.toArray } }) :
    wpAny (model prog w) A (binaryOp .Mult (.ref l) (.int x u)) Q E s := by
  refine wpAny_binaryOp_repeat_ref (T := "list") (U := "int") (by decide) ⟨_, hl, rfl⟩ (fun s' => typeIs_int s' x u) noFill_list_mul F.fills_int_mul F.slot_int_rmul repeat_list F.slot_int_index.lookup
    (call_meets F.slot_int_rmul (typeIs_int s x u) F.entry_int_rmul (F.args_int_rmul_2 _ _) (int___rmul___int_list x u l items k)
      ⟨hl, rfl, ⟨_, hl, rfl⟩, call_meets F.slot_list_mul ⟨_, hl, rfl⟩ F.entry_list_mul (F.args_list_mul_2 _ _)
        (AutoListH.list___mul___list_int_3 l items k x u (by simp [Builtin.List.listFitsIndex]; omega) (by omega) (by simp [Builtin.List.listTooLong, sizeLine]; omega)) ⟨hl, ?_⟩⟩)
  rw [listMul_foldl_if]
  exact h
end
end Mine
end

/- part N11 -/
section
open PySem PySem.W PyProof PyProof.Rows PySem.W.X
set_option maxRecDepth 100000
namespace Mine
section
variable {prog : Program} {w : World} {A : Around} {E : Value → Shared → Prop} {s s₀ s₁ s' : Shared} {B B' : Heap} {W : Web} {L fa b g n al k : Nat} {cd v : Value} {m cm mg mb : Str → Option Value} {zs : List Int} {env : Env} {T T2 : Str} {f : Bool}

theorem sum_ls {l : Addr} {vs : List Value} {ns : List Int} {Q : Value → Shared → Prop} (hh : A.handled = none) (hl : s.heap.IsList l vs.toArray) (hi : IntsAre vs ns)
    (h : ∀ h' tk t', (∀ b o, s.heap.get? b = some o → h'.get? b = some o) → Q (.int ns.sum t') { s with heap := h', toks := tk }) : wpAny (model prog w) A (call (.builtin "sum") [.ref l]) Q E s := by
  obtain ⟨xs, e⟩ := hi.allInts.items
  have hs : ns = numsOf vs := hi.numsOf.symm
  have hs2 : numsOf vs = numsOf (intItems xs).toList := by rw [← e]
  rw [e] at hl
  rw [hs, hs2, nums_intItems] at h
  refine sum_intListG hh hl fun h' tk t' hk => ?_
  have := h h' tk t' hk
  rw [preSum_eq, List.take_of_length_le (by simp)]
  exact this

/-- [i] * x -/
theorem rep_one {ve : Expr} {x i : Nat} {p1 p2 p3 : Pos} {k1 : Nat} {Q : Value → Shared → Prop} (hx : x ≤ 10)
    (hv : ∀ (s₁ : Shared), (∀ b o, s.heap.get? b = some o → s₁.heap.get? b = some o) → ∀ Q' : Value → Shared → Prop, (∀ t tk, Q' (.int (x : Int) t) { s₁ with toks := tk }) → wpAny (model prog w) A (eval ve env) Q' E s₁)
    (h : ∀ a h' tk vs, (∀ b o, s.heap.get? b = some o → h'.get? b = some o) → s.heap.objs.size ≤ a → h'.PlainList a vs.toArray → IntsAre vs (List.replicate x (i : Int)) → Q (.ref a) { s with heap := h', toks := tk })
    (hst : starEach [.Constant (.int (i : Int)) k1 p1] env = [(false, eval (.Constant (.int (i : Int)) k1 p1) env)] := by rfl) :
    wpAny (model prog w) A (eval (.BinOp (.List [.Constant (.int (i : Int)) k1 p1] p2) .Mult ve p3) env) Q E s := by
  refine wpAny_BinOp (wpAny_List (args1 (wpAny_Constant_int ⟨by show 1 ≤ sizeLine; decide, ?_⟩) hst))
  have k1 : ∀ (b : Nat) o, s.heap.get? b = some o → (s.heap.push { cls := .type "list", data := .seq [Value.int (i : Int) s.toks].toArray }).get? b = some o := fun b o e => Heap.get?_push_of_some _ e
  have hl1 : (s.heap.push { cls := .type "list", data := .seq [Value.int (i : Int) s.toks].toArray }).get? s.heap.objs.size = some { cls := .type "list", data := .seq [Value.int (i : Int) s.toks].toArray } := Heap.get?_push_size _ rfl
  have hsz1 : (s.heap.push { cls := .type "list", data := .seq [Value.int (i : Int) s.toks].toArray }).objs.size = s.heap.objs.size + 1 := Heap.size_push ..
  refine hv _ k1 _ fun t tk => ?_
  refine mul_ls hl1 (by omega) (by omega) (by show 1 * (x : Int).toNat ≤ _; omega) ?_
  refine h _ _ _ _ (fun b o e => Heap.get?_push_of_some _ (k1 b o e)) (by show _ ≤ (s.heap.push _).objs.size; rw [hsz1]; omega) ⟨0, Heap.get?_push_size _ rfl⟩ ?_
  show IntsAre (List.replicate ((x : Int)).toNat [Value.int (i : Int) s.toks]).flatten _
  rw [Int.toNat_natCast]
  exact ints_rep x i s.toks

theorem two_asg {Q : Flow → Shared → Prop} {t : Addr} {v1 v2 : Value} {p1 p2 p4 : Pos} {k4 : Nat} (X : LwS B L s m cm) (hA : A.handled = none) (ht : s.heap.IsTuple t #[v1, v2])
    (h : ∀ s', LwS B L s' m (fun y => if y = "ahead" then some v2 else if y = "roads" then some v1 else cm y) → Stp L s s' → Q .next s') :
    wpAny (model prog w) A (assign (.Tuple [.Name "roads" p1, .Name "ahead" p2] k4 p4) (envW L fa cd) (.ref t)) (fun _ => Q .next) E s := by
  refine wpAny_assign_Tuple hA ht rfl rfl fun h₁ hx₁ => ?_
  have hx₁ : Heap.ExtBut s.heap.objs.size s.heap h₁ := hx₁
  have kk : ∀ (b : Nat) o, s.heap.get? b = some o → h₁.get? b = some o := fun b o e => hx₁ b o (Nat.ne_of_lt (Heap.lt_size e)) e
  have X₂ : LwS B L { s with heap := h₁, toks := s.toks } m cm := X.grow kk
  have S₂ : Stp L s { s with heap := h₁, toks := s.toks } := Stp.grow kk
  refine wpAny_bind (wpAny_holding (wpAny_assign_Name (stCl (fa := fa) (cd := cd) (c := L + 6) X₂ (by kernel_rfl) fun s₃ X₃ S₃ => ?_)))
  refine wpAny_bind (wpAny_holding (wpAny_assign_Name (stCl (fa := fa) (cd := cd) (c := L + 7) X₃ (by kernel_rfl) fun s₄ X₄ S₄ => wpAny_pure ?_)))
  exact h s₄ X₄ (S₂.trans (S₃.trans S₄))

theorem ahead_nums (n : Nat) (hn : 0 < n) : (1 : Int) :: List.replicate (n - 1) 0 = (List.range n).map fun p => (((if p = 0 then 1 else 0 : Nat)) : Int) := by
  obtain ⟨n, rfl⟩ : ∃ n', n = n' + 1 := ⟨n - 1, by omega⟩
  rw [List.range_succ_eq_map, List.map_cons, Nat.add_sub_cancel, List.map_map]
  congr 1
  apply List.ext_getElem?
  intro i
  by_cases hi : i < n
  · simp [hi]
  · simp [hi]

theorem ahead_new {tm : Tok} {p1 p2 p3 p4 p5 p6 p7 p8 p9 : Pos} {k1 k2 k3 : Nat} {Q : Value → Shared → Prop} (hn : n ≤ 5) (hn1 : 1 ≤ n) (hcN : s.heap.IsCell (L + 3) (some (.int (n : Int) tm)))
    (h : ∀ a h' tk vs, (∀ b o, s.heap.get? b = some o → h'.get? b = some o) → s.heap.objs.size ≤ a → h'.PlainList a vs.toArray → IntsAre vs ((List.range n).map fun p => (((if p = 0 then 1 else 0 : Nat)) : Int)) → Q (.ref a) { s with heap := h', toks := tk }) :
    wpAny (model prog w) A (eval (.BinOp (.List [.Constant (.int 1) k1 p1] p2) .Add (.BinOp (.List [.Constant (.int 0) k2 p3] p4) .Mult (.BinOp (.Name "many" p5) .Sub (.Constant (.int 1) k3 p6) p7) p8) p9) (envW L fa cd)) Q E s := by
  refine wpAny_BinOp (wpAny_List (args1 (wpAny_Constant_int ⟨by show 1 ≤ sizeLine; decide, ?_⟩)))
  have kk : ∀ (b : Nat) o, s.heap.get? b = some o → (s.heap.push { cls := .type "list", data := .seq [Value.int 1 s.toks].toArray }).get? b = some o := fun b o e => Heap.get?_push_of_some _ e
  have hl1 : (s.heap.push { cls := .type "list", data := .seq [Value.int 1 s.toks].toArray }).PlainList s.heap.objs.size [Value.int 1 s.toks].toArray := ⟨0, Heap.get?_push_size _ rfl⟩
  have hz1 : s.heap.objs.size < (s.heap.push { cls := .type "list", data := .seq [Value.int 1 s.toks].toArray }).objs.size := by rw [Heap.size_push]; omega
  generalize s.heap.push { cls := .type "list", data := .seq [Value.int 1 s.toks].toArray } = h1 at kk hl1 hz1
  refine rep_one (x := n - 1) (i := 0) (by omega) (fun s₁ k1 Q' hq => wpAny_BinOp (eCl (e := envW L fa cd) (c := L + 3) (by kernel_rfl) (cell_keep (cell_keep hcN kk) k1) (wpAny_Constant_int (P.sub_int ?_)))) fun a h' tk vs k2 ha hpl hvs => ?_
  · have e : ((n : Int) - 1) = ((n - 1 : Nat) : Int) := by omega
    rw [e]
    exact hq _ _
  · have hl1' : h'.PlainList s.heap.objs.size [Value.int 1 s.toks].toArray := let ⟨k, e⟩ := hl1; ⟨k, k2 _ _ e⟩
    refine add_ls hl1' hpl ?_ (by rw [hvs.length, List.length_replicate, sizeLine_eq]; simp only [List.length_singleton]; omega)
    have hbig : s.heap.objs.size ≤ h'.objs.size := let ⟨_, e⟩ := hl1'; Nat.le_of_lt (Heap.lt_size e)
    refine h _ _ _ _ (fun b o e => Heap.get?_push_of_some _ (k2 b o (kk b o e))) hbig ⟨0, Heap.get?_push_size _ rfl⟩ ?_
    rw [← ahead_nums n hn1]
    exact .cons _ _ hvs

theorem s_roads {Q : Flow → Shared → Prop} {tm : Tok} (X : LwS B L s m cm) (hA : A.handled = none) (hn : n ≤ 5) (hn1 : 1 ≤ n) (hcm : cm "many" = some (.int (n : Int) tm))
    (h : ∀ s' a1 a2, LwS B L s' m (fun y => if y = "ahead" then some (.ref a2) else if y = "roads" then some (.ref a1) else cm y) → Stp L s s' → a1 ∉ hidL L → a2 ∉ hidL L → NatsF s'.heap a1 n (fun _ => 0) → NatsF s'.heap a2 n (fun p => if p = 0 then 1 else 0) → Q .next s') :
    wpAny (model prog w) A (exec (nthS 11 (bodyS lawDef)) (envW L fa cd)) Q E s := by
  have hcN := X.cl.cell "many" (L + 3) (by kernel_rfl)
  rw [hcm] at hcN
  refine Assign_Tuple (wpAny_Tuple (args2 (rep_one (x := n) (i := 0) (by omega) (fun s₁ k1 Q' hq => eCl (e := envW L fa cd) (c := L + 3) (by kernel_rfl) (cell_keep hcN k1) (hq _ _)) fun a1 h1 tk1 vs1 k1 ha1 hp1 hv1 => ?_)))
  refine ahead_new (n := n) hn hn1 (cell_keep hcN k1) fun a2 h2 tk2 vs2 k2 ha2 hp2 hv2 => ⟨by show 2 ≤ sizeLine; decide, ?_⟩
  have kk : ∀ (b : Nat) o, s.heap.get? b = some o → (h2.push { cls := .type "tuple", data := .seq [Value.ref a1, Value.ref a2].toArray }).get? b = some o := fun b o e => Heap.get?_push_of_some _ (k2 b o (k1 b o e))
  have X₂ : LwS B L { s with heap := h2.push { cls := .type "tuple", data := .seq [Value.ref a1, Value.ref a2].toArray }, toks := tk2 } m cm := X.grow kk
  have S₂ : Stp L s { s with heap := h2.push { cls := .type "tuple", data := .seq [Value.ref a1, Value.ref a2].toArray }, toks := tk2 } := Stp.grow kk
  have hah1 := fresh_hid X ha1
  have hah2 : a2 ∉ hidL L := fun q => by
    have h3 := X.lt a2 q
    have h4 : s.heap.objs.size ≤ h1.objs.size := let ⟨_, e⟩ := hp1; Nat.le_of_lt (Nat.lt_of_le_of_lt ha1 (Heap.lt_size e))
    exact Nat.lt_irrefl _ (Nat.lt_of_lt_of_le h3 (Nat.le_trans h4 ha2))
  refine two_asg X₂ hA ⟨_, Heap.get?_push_size _ rfl, rfl, _, rfl⟩ fun s' X' S' => ?_
  refine h s' a1 a2 X' (S₂.trans S') hah1 hah2 ⟨vs1, ?_, ?_⟩ ⟨vs2, ?_, hv2⟩
  · obtain ⟨k, e⟩ := hp1
    exact ⟨_, S'.keep _ _ hah1 (Heap.get?_push_of_some _ (k2 _ _ e)), rfl, k, rfl⟩
  · rw [show ((List.range n).map fun _ => ((0 : Nat) : Int)) = List.replicate n 0 from by simp [List.map_const']]
    exact hv1
  · obtain ⟨k, e⟩ := hp2
    exact ⟨_, S'.keep _ _ hah2 (Heap.get?_push_of_some _ e), rfl, k, rfl⟩
end
end Mine
end

/- part N12 -/
section
open PySem PySem.W PyProof PyProof.Rows PySem.W.X
set_option maxRecDepth 100000
namespace Mine
section
variable {prog : Program} {w : World} {A : Around} {E : Value → Shared → Prop} {s s₀ s₁ s' : Shared} {B B' : Heap} {W : Web} {L fa b g n al k : Nat} {cd v : Value} {m cm mg mb : Str → Option Value} {zs : List Int} {env : Env} {T T2 : Str} {f : Bool}

/-- a list's rest, where the list is no bare name -/
theorem rest_R {value slice : Expr} {l : Addr} {items : Array Value} {t : Tok} {Q : Value → Shared → Prop} (hl : s.heap.IsList l items) (hsz : items.size ≤ 100)
    (h : ∀ a h' tk, (∀ b o, s.heap.get? b = some o → h'.get? b = some o) → s.heap.objs.size ≤ a → h'.PlainList a (slicePick items (some 1) none none) → Q (.ref a) { s with heap := h', toks := tk })
    (hs : subscripted slice false (.ref l) (.ref s.heap.objs.size) = operate [.ref s.heap.objs.size, .ref l] (getItem (.ref l) (.ref s.heap.objs.size)) := by with_unfolding_all rfl) :
    wpAny (model prog w) A (subscriptTail value slice (.ref l) (.ref s.heap.objs.size)) Q E { s with heap := s.heap.push { cls := .type "slice", data := .fields #[.int 1 t, .none, .none] } } := by
  have hl' : (s.heap.push { cls := .type "slice", data := .fields #[.int 1 t, .none, .none] }).IsList l items := hl.push _
  unfold subscriptTail
  refine wpAny_bind ?_
  rw [getitemInPython_of_ne (Heap.IsList.typeIs (s := { s with heap := s.heap.push { cls := .type "slice", data := .fields #[.int 1 t, .none, .none] } }) hl').not_modules]
  refine wpAny_bind (wpAny_specialOf (Heap.IsList.typeIs (s := { s with heap := s.heap.push { cls := .type "slice", data := .fields #[.int 1 t, .none, .none] } }) hl') list_getitem_lookup ?_)
  have fin : wpAny (model prog w) A (subscripted slice false (.ref l) (.ref s.heap.objs.size)) (fun r s₃ => wpAny (model prog w) A (letTemporaryGo value (.ref l) r >>= fun _ => pure r) Q E s₃) E { s with heap := s.heap.push { cls := .type "slice", data := .fields #[.int 1 t, .none, .none] } } := by
    rw [hs]
    refine wpAny_operating (wpAny_getItem_list_slice (lo := some 1) (hi := none) (st := none) hl' (Heap.IsSliceOf.new ..) (.int 1 t) .none .none (by simp) ?_ (by rw [sizeLine_eq]; omega))
    refine wpAny_bind (wpAny_letTemporaryGo (wpAny_pure ?_))
    refine h _ _ _ (fun b o e => Heap.get?_push_of_some _ (Heap.get?_push_of_some _ e)) ?_ ⟨0, Heap.get?_push_size _ rfl⟩
    rw [Heap.size_push]; omega
  first
    | exact wpAny_pure (wpAny_bind fin)
    | exact wpAny_bind (wpAny_pure (wpAny_bind fin))
    | exact wpAny_bind fin
end
end Mine
end

/- part N13 -/
section
open PySem PySem.W PyProof PyProof.Rows PySem.W.X
set_option maxRecDepth 100000
namespace Mine

def elt2 : Expr := match nthS 1 (bodyS (nthS 12 (bodyS lawDef))) with
  | .Assign _ (.ListComp (.Call _ [.ListComp e _ _ _] _ _) _ _ _) _ => e
  | _ => default
def sumE : Expr := match nthS 1 (bodyS (nthS 12 (bodyS lawDef))) with
  | .Assign _ (.ListComp e _ _ _) _ => e
  | _ => default
def scOut : Scope := match nthS 1 (bodyS (nthS 12 (bodyS lawDef))) with
  | .Assign _ (.ListComp _ _ sc _) _ => sc
  | _ => default
def scIn : Scope := match nthS 1 (bodyS (nthS 12 (bodyS lawDef))) with
  | .Assign _ (.ListComp (.Call _ [.ListComp _ _ sc _] _ _) _ _ _) _ => sc
  | _ => default
abbrev clOut (L : Nat) : List (Str × Addr) := [("web", L + 4), ("many", L + 3), ("ahead", L + 7)]
abbrev clIn (L n₀ : Nat) : List (Str × Addr) := [("web", L + 4), ("place", n₀ + 2), ("ahead", L + 7)]
abbrev envO (L fa : Nat) (cd : Value) (n₀ : Nat) : Env := compEnvC scOut (("place", n₀ + 2) :: clOut L) (n₀ + 1) (envW L fa cd)

theorem count_cast (ts : List Nat) (p : Nat) : (ts.map fun (x : Nat) => (x : Int)).count (p : Int) = ts.count p := by
  induction ts with
  | nil => rfl
  | cons a ts ih =>
    rw [List.map_cons, List.count_cons, List.count_cons, ih]
    congr 1
    by_cases h : a = p
    · subst h; simp
    · have : ¬ ((a : Int) = (p : Int)) := by omega
      simp [h, this]
theorem count_rest (o p : Nat) : ∀ r : Option (List Nat), (((rowNums o r).map fun (x : Nat) => (x : Int)).drop 1).count (p : Int) = (r.getD []).count p
  | none => rfl
  | some ts => by
    show ((ts.map fun (x : Nat) => (x : Int))).count (p : Int) = ts.count p
    exact count_cast ts p
theorem mulOk_small {a : Int} {c : Nat} (h : c ≤ 2) : IntMulOk a (c : Int) := by
  have h3 : c = 0 ∨ c = 1 ∨ c = 2 := by omega
  rcases h3 with rfl | rfl | rfl <;> exact IntMulOk.of_right (by decide +kernel)

section
variable {prog : Program} {w : World} {A : Around} {E : Value → Shared → Prop} {s s₀ s₁ s' : Shared} {B B' : Heap} {W : Web} {L fa b g n al aw k : Nat} {cd v : Value} {m cm mg mb : Str → Option Value} {zs : List Int} {env : Env} {ra : Nat → Nat}

theorem cnt_elt {Q : Value → Shared → Prop} {n₀ C o p a2 : Nat} {mm : Str → Option Value} {to tp : Tok} {Aw : Nat → Nat} (hnle : nOf zs ≤ 5) (ho : o < nOf zs) (hm : s.heap.Ns C mm) (hx : mm "other" = some (.int (o : Int) to))
    (hcA : s.heap.IsCell (L + 7) (some (.ref a2))) (hA2 : NatsF s.heap a2 (nOf zs) Aw) (hcW : s.heap.IsCell (L + 4) (some (.ref aw))) (Wa : WebA zs L aw ra s.heap) (hpl : s.heap.IsCell (n₀ + 2) (some (.int (p : Int) tp)))
    (h : ∀ h' tk t, (∀ b o, s.heap.get? b = some o → h'.get? b = some o) → Q (.int ((Aw o * ((rowOf zs o).getD []).count p : Nat) : Int) t) { s with heap := h', toks := tk }) :
    wpAny (model prog w) A (eval elt2 (compEnvC scIn (clIn L n₀) C (envO L fa cd n₀))) Q E s := by
  obtain ⟨vsA, hlA, tA, eA⟩ := hA2.at_ ho
  obtain ⟨vs, hrow, hvs⟩ := rowO_ints (Wa.rows o ho).2.2
  have hlen := numsOfRow_len zs o
  have hat : ((List.range (nOf zs)).map fun p => Value.ref (ra p)).toArray[((o : Nat) : Int).toNat]? = some (.ref (ra o)) := by
    rw [Int.toNat_natCast, List.getElem?_toArray]; simp [ho]
  refine wpAny_BinOp (Subscript_ (eCl (c := L + 7) (by rfl) hcA (eL (m := mm) hm hx (item_list hlA (by omega) (by omega) eA ?_))))
  refine wpAny_Call_method (T := "list") (id := "list.count") (by rfl) (by rfl) (by rfl) F.plainAttrs_list F.slot_list_count F.type_list_count ?_
  refine Subscript_ (Subscript_ (eCl (c := L + 4) (by rfl) hcW (eL (m := mm) hm hx (item_list Wa.all (by omega) (by omega) hat ?_))))
  refine wpAny_Slice (evalPart_some_step (wpAny_Constant_int (evalPart_none_step (evalPart_none_step ?_))))
  have hvl : vs.toArray.size ≤ 100 := by
    rw [List.size_toArray, hvs.length, List.length_map]
    have : (rowNums o (rowOf zs o)).length ≤ 3 := hlen
    omega
  refine rest_R (s := { s with toks := s.toks + 1 }) hrow hvl fun a h' tk kk ha hp => ?_
  have hi2 := slice_ints_fromW hvs (x := 1) (by decide)
  obtain ⟨k0, e0⟩ := hp
  refine ⟨⟨_, e0, rfl⟩, fun a' e => by cases e; exact ⟨_, e0, rfl⟩, callWith_method1 (args1 (eCl (c := n₀ + 2) (by rfl) (cell_keep hpl kk) ?_))⟩
  show wpAny (model prog w) A (call (.builtin "list.count") [.ref a, .int (p : Int) tp]) _ _ _
  refine count_list_ints (ns := ((rowNums o (rowOf zs o)).map fun (x : Nat) => (x : Int)).drop 1) (vs := (slicePick vs.toArray (some 1) none none).toList) ⟨_, e0, rfl, k0, by simp⟩ hi2 ?_
  rw [count_rest]
  have hle : ((rowOf zs o).getD []).count p ≤ 2 := by
    refine Nat.le_trans List.count_le_length ?_
    cases hr : rowOf zs o with
    | none => exact Nat.zero_le _
    | some ts => rw [rowOf_some hr]; exact tsOf_len zs o
  refine P.mul_int ?_ (mulOk_small hle)
  rw [← Int.natCast_mul]
  exact h h' _ _ kk

/-- a comprehension over range(n) that makes ints, its name captured -/
theorem compIntsC {elt : Expr} {x : Str} {scope : Scope} {cl : List (Str × Addr)} {fin : Nat → Shared → Prop} {I : Nat} {s₂ : Shared} (hh : A.handled = none) (f : Nat → Int) (hsz : n ≤ sizeLine)
    (hI : IsRangeIter s₂.heap I (0 + ((0 : Nat) : Int) * 1) ((n : Int) - ((0 : Nat) : Int)) 1) (hIlt : I < s₂.heap.objs.size) (hnew : ∀ o, s.heap.get? I = some o → False) (hk : ∀ (b : Nat) o, s.heap.get? b = some o → s₂.heap.get? b = some o)
    (helt : ∀ i h' tk (E : Value → Shared → Prop) t, i < n → h'.IsCell (s₂.heap.objs.size + 2) (some (.int (i : Int) t)) → (∀ (b : Nat) o, s.heap.get? b = some o → h'.get? b = some o) →
      wpAny (model prog w) A (eval elt (compEnvC scope ((x, s₂.heap.objs.size + 2) :: cl) (s₂.heap.objs.size + 1) env)) (fun y s₃ => Keeps { s₂ with heap := h', toks := tk } s₃ ∧ ∃ t, y = .int (f i) t) E { s₂ with heap := h', toks := tk })
    (hfin : ∀ a h' tk vs, s₂.heap.objs.size = a → (∀ (b : Nat) o, s.heap.get? b = some o → h'.get? b = some o) → h'.PlainList a vs.toArray → IntsAre vs (numsTo (fun _ => true) f n) → fin a { s₂ with heap := h', toks := tk }) :
    CompC prog w A env scope cl x [] elt fin (.ref I) s₂ := by
  have hmu : ∀ (b : Nat) o, s.heap.get? b = some o → ¬ muOf [I] [s₂.heap.objs.size + 1, s₂.heap.objs.size + 2] s₂.heap.objs.size b := fun b o e q => by
    have hb := Heap.lt_size (hk b o e)
    rcases q with q | q | q
    · rw [List.mem_singleton.mp q] at e; exact hnew o e
    · exact Nat.ne_of_lt hb q
    · rcases List.mem_cons.mp q with q | q
      · rw [q] at hb; exact Nat.lt_asymm hb (Nat.lt_succ_self _)
      · rw [List.mem_singleton.mp q] at hb; exact Nat.lt_asymm hb (Nat.lt_add_of_pos_right (by decide))
  refine ⟨I, [I], [I], n, _, _, fun i ys h => IntsAre ys (numsTo (fun _ => true) f i), s₂.heap.objs.size, rfl, Walks.range hh I 0 1 n, rfl, hsz, hI, fun b hb => by rw [List.mem_singleton.mp hb]; exact hIlt, fun _ _ _ _ _ j => j, fun _ _ => .nil, ?_, ?_⟩
  · intro i v ys h' tk E' hi hP hF hB hJ hl hkk
    obtain ⟨t, rfl⟩ := hP
    obtain ⟨_, hpl⟩ := hB
    rw [Int.mul_one, Int.zero_add] at hpl
    have kk : ∀ (b : Nat) o, s.heap.get? b = some o → h'.get? b = some o := fun b o e => hkk b o (hmu b o e) (hk b o e)
    refine wpAny_pure ⟨keeps_refl _, ?_⟩
    rw [if_pos rfl]
    refine wpAny_mono (helt i h' tk E' t hi hpl kk) (fun y s₄ h₄ => ?_) fun _ _ e => e
    obtain ⟨k4, t4, rfl⟩ := h₄
    refine ⟨k4, ?_⟩
    show IntsAre (ys ++ [.int (f i) t4]) (numsTo (fun _ => true) f (i + 1))
    rw [numsTo_yes rfl]
    exact hJ.append (.cons _ _ .nil)
  · intro h' tk ys hJ hl hkk
    exact hfin _ h' tk ys rfl (fun b o e => hkk b o (hmu b o e) (hk b o e)) hl hJ
end
end Mine
end

/- part N14 -/
section
open PySem PySem.W PyProof PyProof.Rows PySem.W.X
set_option maxRecDepth 100000
namespace Mine

theorem sum_cast (F : Nat → Nat) (n : Nat) : ((List.range n).map fun p => ((F p : Nat) : Int)).sum = (sumN F n : Int) := by
  induction n with
  | zero => rfl
  | succ n ih =>
    rw [List.range_succ, List.map_append, List.sum_append, ih]
    show ((sumN F n : Nat) : Int) + ([((F n : Nat) : Int)] : List Int).sum = ((sumN F n + F n : Nat) : Int)
    simp

section
variable {prog : Program} {w : World} {A : Around} {E : Value → Shared → Prop} {s s₀ s₁ s' : Shared} {B B' : Heap} {W : Web} {L fa b g n al aw k : Nat} {cd v : Value} {m cm mg mb : Str → Option Value} {zs : List Int} {env : Env} {ra : Nat → Nat}

theorem natsF_of {h : Heap} {a : Nat} {vs : List Value} {F : Nat → Nat} (hp : h.PlainList a vs.toArray) (hi : IntsAre vs (numsTo (fun _ => true) (fun p => ((F p : Nat) : Int)) n)) : NatsF h a n F := by
  rw [numsTo_all] at hi
  obtain ⟨k, e⟩ := hp
  exact ⟨vs, ⟨_, e, rfl, k, rfl⟩, hi⟩

set_option maxHeartbeats 1000000 in
theorem sum_elt {Q : Value → Shared → Prop} {n₀ p a2 : Nat} {tp tm : Tok} {Aw : Nat → Nat} (hA : A.handled = none) (G : Gl B mg mb) (kB : ∀ b o, B.get? b = some o → s.heap.get? b = some o)
    (hcN : s.heap.IsCell (L + 3) (some (.int (nOf zs : Int) tm))) (hcA : s.heap.IsCell (L + 7) (some (.ref a2))) (hA2 : NatsF s.heap a2 (nOf zs) Aw) (hcW : s.heap.IsCell (L + 4) (some (.ref aw))) (Wa : WebA zs L aw ra s.heap) (hpl : s.heap.IsCell (n₀ + 2) (some (.int (p : Int) tp)))
    (h : ∀ h' tk t, (∀ (b : Nat) o, s.heap.get? b = some o → h'.get? b = some o) → Q (.int (Mv (nOf zs) (rowOf zs) Aw p : Int) t) { s with heap := h', toks := tk }) :
    wpAny (model prog w) A (eval sumE (envO L fa cd n₀)) Q E s := by
  have hn5 := nOf_le zs
  refine call_b (env := envO L fa cd n₀) (eB (e := envO L fa cd n₀) G kB (by decide) (v := .builtin "sum") (by decide +kernel) ⟨rfl, args1 (lcL (cl := clIn L n₀) (env := envO L fa cd n₀) (by rfl) (fun h => by rfl) (fun n => by rfl) (by rfl) (by decide +kernel) (by decide +kernel) ?_)⟩)
  refine range_it G kB (eCl (e := envO L fa cd n₀) (c := L + 3) (by rfl) hcN ⟨nOf zs, _, rfl, by omega, fun Ia h' tk k hI1 hI2 hI => ?_⟩)
  refine compInts (s := s) hA (fun _ => true) (fun o => ((Aw o * ((rowOf zs o).getD []).count p : Nat) : Int)) (by rw [sizeLine_eq]; omega) hI hI2 (fun o e => Nat.lt_irrefl _ (Nat.lt_of_lt_of_le (Heap.lt_size e) hI1)) k (fun i C mm h₂ tk₂ E' t hi hm hx kk => wpAny_pure ⟨keeps_refl _, rfl⟩) (fun i C mm h₂ tk₂ E' t hi _ hm hx kk => ?_) (fun a h₂ tk₂ vs ha kk hp hvs => ?_)
  · exact cnt_elt (p := p) (a2 := a2) (aw := aw) (ra := ra) (Aw := Aw) hn5 hi hm hx (cell_keep hcA kk) (hA2.keep kk) (cell_keep hcW kk) (Wa.keep fun b o _ e => kk b o e) (cell_keep hpl kk) fun h₃ tk₃ t₃ k₃ => ⟨⟨h₃, tk₃, rfl, k₃⟩, _, rfl⟩
  · obtain ⟨k0, e0⟩ := hp
    refine sum_ls hA ⟨_, e0, rfl, k0, rfl⟩ hvs fun h₃ tk₃ t₃ k₃ => ?_
    rw [numsTo_all, sum_cast]
    exact h h₃ tk₃ t₃ fun b o e => k₃ b o (kk b o e)

/-- `ahead = [sum(..) for place in range(many)]` -/
theorem s_ahead {Q : Flow → Shared → Prop} {a2 : Nat} {tm : Tok} {Aw : Nat → Nat} (X : LwS B L s m cm) (I : LB w B mg mb) (hA : A.handled = none) (hcm : cm "many" = some (.int (nOf zs : Int) tm)) (hw : cm "web" = some (.ref aw)) (ha : cm "ahead" = some (.ref a2)) (Wa : WebA zs L aw ra s.heap) (hA2 : NatsF s.heap a2 (nOf zs) Aw)
    (h : ∀ s' a', LwS B L s' m (fun y => if y = "ahead" then some (.ref a') else cm y) → Stp L s s' → a' ∉ hidL L → NatsF s'.heap a' (nOf zs) (Mv (nOf zs) (rowOf zs) Aw) → Q .next s') :
    wpAny (model prog w) A (exec (nthS 1 (bodyS (nthS 12 (bodyS lawDef)))) (envW L fa cd)) Q E s := by
  have G := I.gl
  have hn5 := nOf_le zs
  have hcN := X.cl.cell "many" (L + 3) (by kernel_rfl)
  rw [hcm] at hcN
  have hcW := X.cl.cell "web" (L + 4) (by kernel_rfl)
  rw [hw] at hcW
  have hcA := X.cl.cell "ahead" (L + 7) (by kernel_rfl)
  rw [ha] at hcA
  refine wpAny_Assign_Name (lcC (cl := clOut L) (env := envW L fa cd) (by rfl) (fun h => by rfl) (fun n => by rfl) (by rfl) (by decide +kernel) (by rfl) ?_)
  refine range_it G X.fr.keep (eCl (e := envW L fa cd) (c := L + 3) (by kernel_rfl) hcN ⟨nOf zs, _, rfl, by omega, fun Ia h' tk k hI1 hI2 hI => ?_⟩)
  refine compIntsC (s := s) hA (fun p => ((Mv (nOf zs) (rowOf zs) Aw p : Nat) : Int)) (by rw [sizeLine_eq]; omega) hI hI2 (fun o e => Nat.lt_irrefl _ (Nat.lt_of_lt_of_le (Heap.lt_size e) hI1)) k (fun i h₂ tk₂ E' t hi hpl kk => ?_) (fun a h₂ tk₂ vs ha' kk hp hvs => ?_)
  · exact sum_elt (n₀ := h'.objs.size) (a2 := a2) (Aw := Aw) (aw := aw) (ra := ra) hA G (fun b o e => kk b o (X.fr.keep b o e)) (cell_keep hcN kk) (cell_keep hcA kk) (hA2.keep kk) (cell_keep hcW kk) (Wa.keep fun b o _ e => kk b o e) hpl fun h₃ tk₃ t₃ k₃ => ⟨⟨h₃, tk₃, rfl, k₃⟩, _, rfl⟩
  · have X₂ : LwS B L { s with heap := h₂, toks := tk₂ } m cm := X.grow kk
    have hle : s.heap.objs.size ≤ a := by rw [← ha']; exact Nat.le_of_lt (Nat.lt_of_le_of_lt hI1 hI2)
    have hah := fresh_hid X hle
    refine stCl (c := L + 7) X₂ (by kernel_rfl) fun s' X' S' => ?_
    refine h s' a X' ((Stp.grow kk).trans S') hah (natsF_of ?_ hvs)
    obtain ⟨k0, e⟩ := hp
    exact ⟨k0, S'.keep _ _ hah e⟩

/-- `roads = [roads[place] + ahead[place] for place in range(many)]` -/
theorem s_roads1 {Q : Flow → Shared → Prop} {a1 a2 : Nat} {tm : Tok} {Rw Aw : Nat → Nat} (X : LwS B L s m cm) (I : LB w B mg mb) (hA : A.handled = none) (hcm : cm "many" = some (.int (nOf zs : Int) tm)) (hr : cm "roads" = some (.ref a1)) (ha : cm "ahead" = some (.ref a2)) (hA1 : NatsF s.heap a1 (nOf zs) Rw) (hA2 : NatsF s.heap a2 (nOf zs) Aw)
    (h : ∀ s' a', LwS B L s' m (fun y => if y = "roads" then some (.ref a') else cm y) → Stp L s s' → a' ∉ hidL L → NatsF s'.heap a' (nOf zs) (fun p => Rw p + Aw p) → Q .next s') :
    wpAny (model prog w) A (exec (nthS 0 (bodyS (nthS 12 (bodyS lawDef)))) (envW L fa cd)) Q E s := by
  have G := I.gl
  have hn5 := nOf_le zs
  have hcN := X.cl.cell "many" (L + 3) (by kernel_rfl)
  rw [hcm] at hcN
  have hcR := X.cl.cell "roads" (L + 6) (by kernel_rfl)
  rw [hr] at hcR
  have hcA := X.cl.cell "ahead" (L + 7) (by kernel_rfl)
  rw [ha] at hcA
  refine wpAny_Assign_Name (lcL (cl := [("roads", L + 6), ("ahead", L + 7)]) (env := envW L fa cd) (by rfl) (fun h => by rfl) (fun n => by rfl) (by rfl) (by decide +kernel) (by decide +kernel) ?_)
  refine range_it G X.fr.keep (eCl (e := envW L fa cd) (c := L + 3) (by kernel_rfl) hcN ⟨nOf zs, _, rfl, by omega, fun Ia h' tk k hI1 hI2 hI => ?_⟩)
  refine compInts (s := s) hA (fun _ => true) (fun p => ((Rw p + Aw p : Nat) : Int)) (by rw [sizeLine_eq]; omega) hI hI2 (fun o e => Nat.lt_irrefl _ (Nat.lt_of_lt_of_le (Heap.lt_size e) hI1)) k (fun i C mm h₂ tk₂ E' t hi hm hx kk => wpAny_pure ⟨keeps_refl _, rfl⟩) (fun i C mm h₂ tk₂ E' t hi _ hm hx kk => ?_) (fun a h₂ tk₂ vs ha' kk hp hvs => ?_)
  · obtain ⟨vs1, hl1, t1, e1⟩ := (hA1.keep kk).at_ hi
    obtain ⟨vs2, hl2, t2, e2⟩ := (hA2.keep kk).at_ hi
    refine wpAny_BinOp (Subscript_ (eCl (c := L + 6) (by rfl) (cell_keep hcR kk) (eL (m := mm) hm hx (item_list hl1 (by omega) (by omega) e1 (Subscript_ (eCl (c := L + 7) (by rfl) (cell_keep hcA kk) (eL (m := mm) hm hx (item_list hl2 (by omega) (by omega) e2 (P.add_int ?_)))))))))
    rw [← Int.natCast_add]
    exact ⟨⟨h₂, _, rfl, fun _ _ e => e⟩, _, rfl⟩
  · have X₂ : LwS B L { s with heap := h₂, toks := tk₂ } m cm := X.grow kk
    have hle : s.heap.objs.size ≤ a := by rw [← ha']; exact Nat.le_of_lt (Nat.lt_of_le_of_lt hI1 hI2)
    have hah := fresh_hid X hle
    refine stCl (c := L + 6) X₂ (by kernel_rfl) fun s' X' S' => ?_
    refine h s' a X' ((Stp.grow kk).trans S') hah (natsF_of ?_ hvs)
    obtain ⟨k0, e⟩ := hp
    exact ⟨k0, S'.keep _ _ hah e⟩
end
end Mine
end

/- part N15 -/
section
open PySem PySem.W PyProof PyProof.Rows PySem.W.X
set_option maxRecDepth 100000
namespace Mine
section
variable {prog : Program} {w : World} {A : Around} {E : Value → Shared → Prop} {s s₀ s₁ s' : Shared} {B B' : Heap} {W : Web} {L fa b g n al aw k : Nat} {cd v : Value} {m cm mg mb : Str → Option Value} {zs : List Int} {env : Env} {ra : Nat → Nat}

theorem NatsF.keepN {h h' : Heap} {a n : Nat} {F : Nat → Nat} (x : NatsF h a n F) (hn : a ∉ hidL L) (k : ∀ (b : Nat) o, b ∉ hidL L → h.get? b = some o → h'.get? b = some o) : NatsF h' a n F := let ⟨vs, a, b⟩ := x; ⟨vs, lst_keepN a hn k, b⟩

theorem TabI.iter {hid : List Nat} {h h' : Heap} {It : Nat} {x l st : Int} (T : TabI hid h) (hI : IsRangeIter h It x l st) (k : ∀ (b : Nat) o, b ≠ It → h.get? b = some o → h'.get? b = some o) : TabI hid h' := by
  obtain ⟨z, ps, a, b, d⟩ := T
  have hI' : h.get? It = some { cls := .type "range_iterator", dict := none, data := .fields #[rawInt x, rawInt l, rawInt st], slots := #[] } := hI
  refine ⟨z, ps, k 188 _ (fun q => ?_) a, b, fun e he cv ec => ⟨(d e he cv ec).1, ?_⟩⟩
  · rw [← q, a] at hI'
    cases hI'
  · obtain ⟨c', o, vs, t, e1, e2, e3, e4⟩ := (d e he cv ec).2
    refine ⟨c', o, vs, t, e1, k c' o (fun q => ?_) e2, e3, e4⟩
    rw [q, hI'] at e2
    cases e2
    cases e3
    cases e4
theorem LwS.iter {It : Nat} {x l st : Int} {h' : Heap} {tk : Nat} (X : LwS B L s m cm) (hI : IsRangeIter s.heap It x l st) (hIt : It ∉ hidL L) (hB : B.get? It = none) (k : ∀ (b : Nat) o, b ≠ It → s.heap.get? b = some o → h'.get? b = some o) : LwS B L { s with heap := h', toks := tk } m cm := by
  refine ⟨⟨X.fr.ns.at' fun o e => k _ o (fun q => hIt (by rw [← q]; exact mem_hid)) e, fun b o e => k b o (fun q => by rw [q, hB] at e; cases e) (X.fr.keep b o e), X.fr.above⟩, ⟨fun n c e => ?_, X.cl.apart, X.cl.above⟩, X.tab.iter hI k, X.h188⟩
  obtain ⟨o, q1, q2⟩ := X.cl.cell n c e
  exact ⟨o, k _ o (fun q => hIt (by rw [← q]; exact cell_hid e)) q1, q2⟩

set_option maxHeartbeats 2000000 in
theorem s_count {Q : Flow → Shared → Prop} {a1 a2 : Nat} {tm : Tok} (X : LwS B L s m cm) (I : LB w B mg mb) (hA : A.handled = none) (hcm : cm "many" = some (.int (nOf zs : Int) tm)) (hw : cm "web" = some (.ref aw)) (hr : cm "roads" = some (.ref a1)) (ha : cm "ahead" = some (.ref a2)) (h1 : a1 ∉ hidL L) (h2 : a2 ∉ hidL L) (Wa : WebA zs L aw ra s.heap) (hA1 : NatsF s.heap a1 (nOf zs) (roadsN (nOf zs) (rowOf zs) 0)) (hA2 : NatsF s.heap a2 (nOf zs) (aheadN (nOf zs) (rowOf zs) 0))
    (h : ∀ s' m' cm' a', LwS B L s' m' cm' → Stp L s s' → (∀ y : Str, y ≠ "length" → m' y = m y) → (∀ y : Str, y ≠ "roads" → y ≠ "ahead" → cm' y = cm y) → cm' "roads" = some (.ref a') → a' ∉ hidL L → NatsF s'.heap a' (nOf zs) (roadsN (nOf zs) (rowOf zs) (nOf zs)) → Q .next s') :
    wpAny (model prog w) A (exec (nthS 12 (bodyS lawDef)) (envW L fa cd)) Q E s := by
  have G := I.gl
  have hn5 := nOf_le zs
  have hcN := X.cl.cell "many" (L + 3) (by kernel_rfl)
  rw [hcm] at hcN
  refine wpAny_For (range_it G X.fr.keep (eCl (e := envW L fa cd) (c := L + 3) (by kernel_rfl) hcN ⟨nOf zs, _, rfl, by omega, fun It h₀ tk₀ k hI1 hI2 hI => ?_⟩))
  have Wk := Walks.range (prog := prog) (w := w) hA It 0 1 (nOf zs)
  have hIt := fresh_hid X hI1
  have hItlt : ∀ (b : Nat) o, s.heap.get? b = some o → b ≠ It := fun b o e => Nat.ne_of_lt (Nat.lt_of_lt_of_le (Heap.lt_size e) hI1)
  have hBI : B.get? It = none := by
    cases q : B.get? It with
    | none => rfl
    | some o => exact absurd rfl (hItlt It o (X.fr.keep It o q))
  have e1 : ∀ {α : Type} {y z : Str} {a b : α}, y ≠ z → (if y = z then a else b) = b := fun n => if_neg n
  refine codeAny_forLoop (fun k s' => ∃ i m' cm' a1 a2, IsRangeIter s'.heap It (0 + (i : Nat) * 1) ((nOf zs : Int) - (i : Nat)) 1 ∧ LwS B L s' m' cm' ∧ (∀ (b : Nat) o, b ∉ hidL L → s.heap.get? b = some o → s'.heap.get? b = some o) ∧ s'.gens = s.gens ∧ s'.os = s.os ∧ s'.drawn = s.drawn ∧ (∀ y : Str, y ≠ "length" → m' y = m y) ∧ (∀ y : Str, y ≠ "roads" → y ≠ "ahead" → cm' y = cm y) ∧
      cm' "roads" = some (.ref a1) ∧ cm' "ahead" = some (.ref a2) ∧ a1 ∉ hidL L ∧ a2 ∉ hidL L ∧ NatsF s'.heap a1 (nOf zs) (roadsN (nOf zs) (rowOf zs) i) ∧ NatsF s'.heap a2 (nOf zs) (aheadN (nOf zs) (rowOf zs) i) ∧ i ≤ nOf zs ∧ k = nOf zs + 1 - i) ?_ (nOf zs + 1)
    ⟨0, m, cm, a1, a2, hI, X.grow k, fun b o _ e => k b o e, rfl, rfl, rfl, fun _ _ => rfl, fun _ _ _ => rfl, hr, ha, h1, h2, hA1.keep k, hA2.keep k, Nat.zero_le _, rfl⟩
  · rintro k' s' ⟨i, m', cm', b1, b2, hst, X', kp, hg, hos, hdr, hm', hcm', hr', ha', hb1, hb2, hR, hAh, hi, rfl⟩
    by_cases hlt : i < nOf zs
    · refine Wk.item i _ _ _ hlt hst fun v h₁ tk₁ hP hst₁ hk₁ => ?_
      obtain ⟨t, rfl⟩ := hP
      have k1 : ∀ (b : Nat) o, b ≠ It → s'.heap.get? b = some o → h₁.get? b = some o := fun b o n e => hk₁ b o (fun q => n (List.mem_singleton.mp q)) e
      have X₁ : LwS B L { s' with heap := h₁, toks := tk₁ } m' cm' := X'.iter hst hIt hBI k1
      have kp₁ : ∀ (b : Nat) o, b ∉ hidL L → s.heap.get? b = some o → h₁.get? b = some o := fun b o n e => k1 b o (hItlt b o e) (kp b o n e)
      have nE : ∀ {a : Nat} {F : Nat → Nat}, NatsF s'.heap a (nOf zs) F → NatsF h₁ a (nOf zs) F := fun {a F} ⟨vs, ⟨o, q1, q2, q3⟩, q4⟩ => ⟨vs, ⟨o, k1 _ o (fun q => by
        have hst' : s'.heap.get? It = some { cls := .type "range_iterator", dict := none, data := .fields #[rawInt _, rawInt _, rawInt _], slots := #[] } := hst
        rw [q, hst'] at q1
        cases q1
        have q2' : Value.type "range_iterator" = Value.type "list" := q2
        injection q2' with q3
        exact absurd q3 (by decide)) q1, q2, q3⟩, q4⟩
      refine wpAny_assign_Name (stL (fa := fa) (cd := cd) X₁ fun s₂ X₂ S₂ _ => ?_)
      have Wa₂ : WebA zs L aw ra s₂.heap := Wa.keep fun b o n e => S₂.keep b o n (kp₁ b o n e)
      refine wpAny_execs_cons (s_roads1 X₂ I hA ((hcm' _ (by decide) (by decide)).trans hcm) hr' ha' ((nE hR).keepN hb1 S₂.keep) ((nE hAh).keepN hb2 S₂.keep) fun s₃ c1 X₃ S₃ hc1 hR₃ => ?_)
      refine wpAny_execs_cons (s_ahead X₃ I hA ((e1 (by decide)).trans ((hcm' _ (by decide) (by decide)).trans hcm)) ((e1 (by decide)).trans ((hcm' _ (by decide) (by decide)).trans hw)) ((e1 (by decide)).trans ha') (Wa₂.keep S₃.keep) (((nE hAh).keepN hb2 S₂.keep).keepN hb2 S₃.keep) fun s₄ c2 X₄ S₄ hc2 hA₄ => wpAny_execs_nil ?_)
      have Sx := S₂.trans (S₃.trans S₄)
      refine ⟨nOf zs + 1 - (i + 1), by omega, i + 1, _, _, c1, c2, ?_, X₄, fun b o n e => Sx.keep b o n (kp₁ b o n e), Sx.gens.trans hg, Sx.os.trans hos, Sx.drawn.trans hdr, fun y hy => (e1 hy).trans (hm' y hy), fun y n1 n2 => (e1 n2).trans ((e1 n1).trans (hcm' y n1 n2)), (e1 (by decide)).trans (if_pos rfl), if_pos rfl, hc1, hc2, hR₃.keepN hc1 S₄.keep, hA₄, hlt, rfl⟩
      exact Sx.keep It _ hIt hst₁
    · have hin : i = nOf zs := by omega
      refine Wk.done _ _ _ (hin ▸ hst) fun h₁ tk₁ hk₁ => wpAny_execs_nil ?_
      have k1 : ∀ (b : Nat) o, b ≠ It → s'.heap.get? b = some o → h₁.get? b = some o := fun b o n e => hk₁ b o (fun q => n (List.mem_singleton.mp q)) e
      have X₁ : LwS B L { s' with heap := h₁, toks := tk₁ } m' cm' := X'.iter hst hIt hBI k1
      refine h _ m' cm' b1 X₁ ⟨fun b o n e => k1 b o (hItlt b o e) (kp b o n e), hg, hos, hdr⟩ hm' hcm' hr' hb1 ?_
      obtain ⟨vs, ⟨o, q1, q2, q3⟩, q4⟩ := hR
      rw [hin] at q4
      refine ⟨vs, ⟨o, k1 _ o (fun q => ?_) q1, q2, q3⟩, q4⟩
      have hst' : s'.heap.get? It = some { cls := .type "range_iterator", dict := none, data := .fields #[rawInt _, rawInt _, rawInt _], slots := #[] } := hst
      rw [q, hst'] at q1
      cases q1
      have q2' : Value.type "range_iterator" = Value.type "list" := q2
      injection q2' with q3
      exact absurd q3 (by decide)
end
end Mine
end

/- part N16 -/
section
open PySem PySem.W PyProof PyProof.Rows PySem.W.X
set_option maxRecDepth 100000
namespace Mine
section
variable {prog : Program} {w : World} {A : Around} {E : Value → Shared → Prop} {s s₀ s₁ s' : Shared} {B B' : Heap} {W : Web} {L fa b g n al aw k : Nat} {cd v : Value} {m cm mg mb : Str → Option Value} {zs : List Int} {env : Env} {ra : Nat → Nat} {T : Str}

theorem s_same {Q : Flow → Shared → Prop} {t1 t2 t3 : Tok} (X : LwS B L s m cm) (h1 : m "text" = some (.str T t1)) (h2 : m "fell" = some (.bool false)) (h3 : cm "told" = some (.str T t2)) (h4 : m "endless" = some (.str T t3))
    (h : ∀ tk, Q .next { s with toks := tk }) :
    wpAny (model prog w) A (exec (nthS 13 (bodyS lawDef)) (envW L fa cd)) Q E s := by
  have hcT := X.cl.cell "told" (L + 5) (by kernel_rfl)
  rw [h3] at hcT
  have e : (T.cps.toList != T.cps.toList) = false := by simp
  refine wpAny_If (wpAny_isTrue_BoolOp (wpAny_allTrue_Or_cons (wpAny_isTrue_value (eL (e := envW L fa cd) X.fr.ns h2 (wpAny_truthy_bool (ite_f rfl ?_))))))
  refine wpAny_allTrue_Or_cons (wpAny_isTrue_Compare1 (eCl (e := envW L fa cd) (c := L + 5) (by kernel_rfl) hcT (eL (e := envW L fa cd) X.fr.ns h1 (P.ne_str (wpAny_truthy_bool (ite_f e ?_))))))
  refine wpAny_allTrue_Or_cons (wpAny_isTrue_Compare1 (eL (e := envW L fa cd) X.fr.ns h4 (eL (e := envW L fa cd) X.fr.ns h1 (P.ne_str (wpAny_truthy_bool (ite_f e ?_))))))
  exact wpAny_allTrue_Or_nil (ite_f rfl (wpAny_execs_nil (h s.toks)))

theorem items_empty {h : Heap} {a p : Nat} {r : Option (List Nat)} {vs : List Value} (hvs : IntsAre vs ((rowNums p r).map fun (x : Nat) => (x : Int))) : vs.toArray.isEmpty = r.isNone := by
  cases r with
  | none =>
    cases vs with
    | nil => rfl
    | cons v vs => cases hvs
  | some ts =>
    cases vs with
    | nil => cases hvs
    | cons v vs => rfl

theorem forIn_one {c : Expr} {cenv : Env} {Q : Bool → Shared → Prop} (h : wpAny (model prog w) A (PySem.isTrue c cenv (eval c cenv)) Q E s) : wpAny (model prog w) A (testsOf [c] cenv) Q E s := by
  unfold testsOf
  rw [List.forIn_cons]
  show wpAny (model prog w) A ((do let ok ← PySem.isTrue c cenv (eval c cenv); pure (ForInStep.yield ok)) >>= _) Q E s
  refine wpAny_bind (wpAny_bind (wpAny_mono h (fun ok s₁ h₁ => wpAny_pure ?_) fun _ _ e => e))
  dsimp only
  rw [List.forIn_nil]
  exact wpAny_pure h₁

/-- web[place] == [] -/
theorem empty_test {e : Env} {i : Nat} {mm : Str → Option Value} {t : Tok} {p1 p2 p3 p4 p5 : Pos} {Q : Bool → Shared → Prop} (hu : A.units < cLine) (hi : i < nOf zs) (hm : s.heap.Ns e.locals mm) (hx : mm "place" = some (.int (i : Int) t)) (hc : e.cells.lookup ("web" : Str) = some (L + 4)) (hcW : s.heap.IsCell (L + 4) (some (.ref aw))) (Wa : WebA zs L aw ra s.heap)
    (h : ∀ h' tk, (∀ b o, s.heap.get? b = some o → h'.get? b = some o) → Q (rowOf zs i).isNone { s with heap := h', toks := tk })
    (hk : e.scope.kind = .function := by rfl) (hx1 : e.kindOf "web" = some .cell := by rfl) (hx2 : e.kindOf "place" = some .local := by rfl) :
    wpAny (model prog w) A (testsOf [.Compare (.Subscript (.Name "web" p1) (.Name "place" p2) p3) [.Eq] [.List [] p4] p5] e) Q E s := by
  obtain ⟨vs, hrow, hvs⟩ := rowO_ints (Wa.rows i hi).2.2
  have hn5 := nOf_le zs
  have hat : ((List.range (nOf zs)).map fun p => Value.ref (ra p)).toArray[((i : Nat) : Int).toNat]? = some (.ref (ra i)) := by
    rw [Int.toNat_natCast, List.getElem?_toArray]; simp [hi]
  refine forIn_one (isT_eq_nil hu (Subscript_ (eCl hc hcW (eL hm hx (item_list Wa.all (by omega) (by omega) hat ⟨_, _, rfl, hrow, fun h' tk kk => ?_⟩) hk hx2) hk hx1)))
  rw [items_empty (h := s.heap) (a := ra i) hvs]
  exact h h' tk kk
theorem full_test {e : Env} {i : Nat} {mm : Str → Option Value} {t : Tok} {p1 p2 p3 p4 p5 : Pos} {Q : Bool → Shared → Prop} (hu : A.units < cLine) (hi : i < nOf zs) (hm : s.heap.Ns e.locals mm) (hx : mm "place" = some (.int (i : Int) t)) (hc : e.cells.lookup ("web" : Str) = some (L + 4)) (hcW : s.heap.IsCell (L + 4) (some (.ref aw))) (Wa : WebA zs L aw ra s.heap)
    (h : ∀ h' tk, (∀ b o, s.heap.get? b = some o → h'.get? b = some o) → Q (rowOf zs i).isSome { s with heap := h', toks := tk })
    (hk : e.scope.kind = .function := by rfl) (hx1 : e.kindOf "web" = some .cell := by rfl) (hx2 : e.kindOf "place" = some .local := by rfl) :
    wpAny (model prog w) A (testsOf [.Compare (.Subscript (.Name "web" p1) (.Name "place" p2) p3) [.NotEq] [.List [] p4] p5] e) Q E s := by
  obtain ⟨vs, hrow, hvs⟩ := rowO_ints (Wa.rows i hi).2.2
  have hn5 := nOf_le zs
  have hat : ((List.range (nOf zs)).map fun p => Value.ref (ra p)).toArray[((i : Nat) : Int).toNat]? = some (.ref (ra i)) := by
    rw [Int.toNat_natCast, List.getElem?_toArray]; simp [hi]
  refine forIn_one (isT_ne_nil hu (Subscript_ (eCl hc hcW (eL hm hx (item_list Wa.all (by omega) (by omega) hat ⟨_, _, rfl, hrow, fun h' tk kk => ?_⟩) hk hx2) hk hx1)))
  rw [items_empty (h := s.heap) (a := ra i) hvs]
  have := h h' tk kk
  cases hr : rowOf zs i with
  | none => rw [hr] at this; exact this
  | some ts => rw [hr] at this; exact this

/-- `empty = [place for place in range(many) if web[place] == []]` -/
theorem s_empty {Q : Flow → Shared → Prop} {tm : Tok} (X : LwS B L s m cm) (I : LB w B mg mb) (hA : A.handled = none) (hu : A.units < cLine) (hcm : cm "many" = some (.int (nOf zs : Int) tm)) (hw : cm "web" = some (.ref aw)) (Wa : WebA zs L aw ra s.heap)
    (h : ∀ s' ae vs, LwS B L s' (fun y => if y = "empty" then some (.ref ae) else m y) cm → Stp L s s' → ae ∉ hidL L → s'.heap.IsList ae vs.toArray → IntsAre vs (numsTo (fun p => (rowOf zs p).isNone) (fun p => (p : Int)) (nOf zs)) → Q .next s') :
    wpAny (model prog w) A (exec (nthS 14 (bodyS lawDef)) (envW L fa cd)) Q E s := by
  have G := I.gl
  have hn5 := nOf_le zs
  have hcN := X.cl.cell "many" (L + 3) (by kernel_rfl)
  rw [hcm] at hcN
  have hcW := X.cl.cell "web" (L + 4) (by kernel_rfl)
  rw [hw] at hcW
  refine asgL (cl := [("web", L + 4)]) (env := envW L fa cd) (by rfl) (by rfl) (by rfl) (by rfl) (fun h => by rfl) (fun n => by rfl) (by rfl) (by decide +kernel) (by decide +kernel) ?_
  refine range_it G X.fr.keep (eCl (e := envW L fa cd) (c := L + 3) (by kernel_rfl) hcN ⟨nOf zs, _, rfl, by omega, fun Ia h' tk k hI1 hI2 hI => ?_⟩)
  refine compInts (s := s) hA (fun p => (rowOf zs p).isNone) (fun p => (p : Int)) (by rw [sizeLine_eq]; omega) hI hI2 (fun o e => Nat.lt_irrefl _ (Nat.lt_of_lt_of_le (Heap.lt_size e) hI1)) k (fun i C mm h₂ tk₂ E' t hi hm hx kk => ?_) (fun i C mm h₂ tk₂ E' t hi _ hm hx kk => ?_) (fun a h₂ tk₂ vs ha' kk hp hvs => ?_)
  · exact empty_test (aw := aw) (ra := ra) (L := L) hu hi hm hx (by rfl) (cell_keep hcW kk) (Wa.keep fun b o _ e => kk b o e) fun h₃ tk₃ k₃ => ⟨⟨h₃, tk₃, rfl, k₃⟩, rfl⟩
  · exact eL (m := mm) hm hx ⟨keeps_refl _, t, rfl⟩
  · have hle : s.heap.objs.size ≤ a := by rw [← ha']; exact Nat.le_of_lt (Nat.lt_of_le_of_lt hI1 hI2)
    have hLlt : L < s.heap.objs.size := X.fr.ns.lt
    have hne : L ≠ a + 1 := by omega
    refine ⟨_, X.fr.ns.keeps kk, hne, fun h₃ hn₃ k₃ => ?_⟩
    obtain ⟨X', S'⟩ := X.any (tk := tk₂ + 1) hn₃ (fun b o n e => k₃ b o n (fun q => by have h0 : b < s.heap.objs.size := Heap.lt_size e; omega) (kk b o e))
    obtain ⟨k0, e⟩ := hp
    exact h _ a vs X' S' (fresh_hid X hle) ⟨_, k₃ a _ (Nat.ne_of_gt (Nat.lt_of_lt_of_le hLlt hle)) (Nat.ne_of_lt (Nat.lt_succ_self a)) e, rfl, k0, rfl⟩ hvs
end
end Mine
end

/- part N17 -/
section
open PySem PySem.W PyProof PyProof.Rows PySem.W.X
set_option maxRecDepth 100000
namespace Mine

theorem sum_castL (F : Nat → Nat) : ∀ es : List Nat, (es.map fun p => ((F p : Nat) : Int)).sum = (((es.map F).sum : Nat) : Int)
  | [] => rfl
  | e :: es => by
    rw [List.map_cons, List.sum_cons, List.map_cons, List.sum_cons, sum_castL F es]
    exact (Int.natCast_add _ _).symm

section
variable {prog : Program} {w : World} {A : Around} {E : Value → Shared → Prop} {s s₀ s₁ s' : Shared} {B B' : Heap} {W : Web} {L fa b g n al aw k : Nat} {cd v : Value} {m cm mg mb : Str → Option Value} {zs : List Int} {env : Env} {ra : Nat → Nat} {T : Str}

theorem cnt_str {u v : Nat} {t t2 : Tok} {Q : Value → Shared → Prop} (huv : u ≠ v) (h : ∀ tk, Q (.int ((occ2 u v T.cps.toList : Nat) : Int) s.toks) { s with toks := tk }) :
    wpAny (model prog w) A (call (.builtin "str.count") [.str T t, .str ⟨#[u, v]⟩ t2]) Q E s := by
  refine call_gives F.slot_str_count (typeIs_str s T t) F.entry_str_count (F.args_str_count_2 _ _) (gives_str_count T ⟨#[u, v]⟩ t t2) ?_
  rw [count2 T huv]
  exact h _

theorem compIntsL {elt : Expr} {x : Str} {scope : Scope} {cl : List (Str × Addr)} {fin : Nat → Shared → Prop} {es : List Nat} {vs : List Value} {ae I : Nat} {s₂ : Shared} (hh : A.handled = none) (f : Nat → Int) (hvs : IntsAre vs (es.map fun (p : Nat) => (p : Int))) (hlen : es.length ≤ 1000)
    (hl : s₂.heap.IsList ae vs.toArray) (hI : s₂.heap.IsListIter I ae 0) (hne : ae ≠ I) (hnew : ∀ o, s.heap.get? I = some o → False) (hk : ∀ (b : Nat) o, s.heap.get? b = some o → s₂.heap.get? b = some o)
    (helt : ∀ p C m h' tk (E : Value → Shared → Prop) t, p ∈ es → h'.Ns C m → m x = some (.int (p : Int) t) → (∀ (b : Nat) o, s.heap.get? b = some o → h'.get? b = some o) →
      wpAny (model prog w) A (eval elt (compEnvC scope cl C env)) (fun y s₃ => Keeps { s₂ with heap := h', toks := tk } s₃ ∧ ∃ t, y = .int (f p) t) E { s₂ with heap := h', toks := tk })
    (hfin : ∀ a h' tk ys, s₂.heap.objs.size = a → (∀ (b : Nat) o, s.heap.get? b = some o → h'.get? b = some o) → h'.PlainList a ys.toArray → IntsAre ys (es.map f) → fin a { s₂ with heap := h', toks := tk }) :
    CompL prog w A env scope cl x [] elt fin (.ref I) s₂ := by
  have hsz : vs.toArray.size = es.length := by rw [List.size_toArray, hvs.length, List.length_map]
  have hIlt : I < s₂.heap.objs.size := let ⟨_, e, _⟩ := hI; Heap.lt_size e
  have hallt : ae < s₂.heap.objs.size := let ⟨_, e, _⟩ := hl; Heap.lt_size e
  have hmu : ∀ (b : Nat) o, s.heap.get? b = some o → ¬ muOf [I] [s₂.heap.objs.size + 1] s₂.heap.objs.size b := fun b o e q => by
    have hb := Heap.lt_size (hk b o e)
    rcases q with q | q | q
    · rw [List.mem_singleton.mp q] at e; exact hnew o e
    · exact Nat.ne_of_lt hb q
    · rw [List.mem_singleton.mp q] at hb; exact Nat.lt_asymm hb (Nat.lt_succ_self _)
  refine ⟨I, [I, ae], [I], vs.toArray.size, _, _, fun i ys h => IntsAre ys ((es.take i).map f), s₂.heap.objs.size, rfl, Walks.list hh I ae hne vs.toArray, rfl, by rw [hsz, sizeLine_eq]; omega, ⟨hI, hl⟩, fun b hb => ?_, fun _ _ _ _ _ j => j, fun _ _ => .nil, ?_, ?_⟩
  · rcases List.mem_cons.mp hb with rfl | hb
    · exact hIlt
    · rw [List.mem_singleton.mp hb]; exact hallt
  · intro i v ys h' tk E' hi hP hF hB hJ _ hkk
    obtain ⟨m, hm, hmx⟩ := hB
    have kk : ∀ (b : Nat) o, s.heap.get? b = some o → h'.get? b = some o := fun b o e => hkk b o (hmu b o e) (hk b o e)
    have hie : i < es.length := by rw [← hsz]; exact hi
    obtain ⟨t, et⟩ := ints_at hvs (i := i) (by simpa using hie)
    rw [Int.toNat_natCast] at et
    have hP' : vs.toArray[i]? = some v := hP
    rw [et] at hP'
    have hv : v = .int ((es[i] : Nat) : Int) t := by
      rw [← Option.some.inj hP']
      simp [hie]
    rw [hv] at hmx
    refine wpAny_pure ⟨keeps_refl _, ?_⟩
    rw [if_pos rfl]
    refine wpAny_mono (helt es[i] _ m h' tk E' t (List.getElem_mem hie) hm hmx kk) (fun y s₄ h₄ => ?_) fun _ _ e => e
    obtain ⟨k4, t4, rfl⟩ := h₄
    refine ⟨k4, ?_⟩
    show IntsAre (ys ++ [.int (f es[i]) t4]) ((es.take (i + 1)).map f)
    rw [List.take_succ_eq_append_getElem hie, List.map_append]
    exact hJ.append (.cons _ _ .nil)
  · intro h' tk ys hJ hpl hkk
    refine hfin _ h' tk ys rfl (fun b o e => hkk b o (hmu b o e) (hk b o e)) hpl ?_
    rw [hsz, List.take_length] at hJ
    exact hJ

theorem told_count {Q : Value → Shared → Prop} {t : Tok} {p1 p2 p3 p4 : Pos} {k1 : Nat} (hcT : s.heap.IsCell (L + 5) (some (.str T t))) (h : ∀ tk t', Q (.int ((occ2 91 93 T.cps.toList : Nat) : Int) t') { s with toks := tk })
    (hfew : ((backTo p4 (starEach [Expr.Constant (.str "[]") k1 p3] (envW L fa cd))).all (fun x => !x.1) && (backToKw p4 (keywordEach [] (envW L fa cd))).all (fun x => x.1.isSome)
      && decide (([Expr.Constant (.str "[]") k1 p3] : List Expr).length + ([] : List Keyword).length + (if ([] : List Keyword).isEmpty then 0 else 1) < 30)) = true := by rfl) (hline : (p2.endLine == p4.line) = true) :
    wpAny (model prog w) A (eval (.Call (.Attribute (.Name "told" p1) "count" p2) [.Constant (.str "[]") k1 p3] [] p4) (envW L fa cd)) Q E s := by
  refine wpAny_Call_method (T := "str") (id := "str.count") (by rfl) hfew hline F.plainAttrs_str F.slot_str_count F.type_str_count ?_
  refine eCl (e := envW L fa cd) (c := L + 5) (by kernel_rfl) hcT ⟨typeIs_str _ _ _, fun a e => (nomatch e), callWith_method1 (args1 (wpAny_Constant_str ?_))⟩
  show wpAny (model prog w) A (call (.builtin "str.count") [.str T t, .str ⟨#[91, 93]⟩ _]) _ _ _
  exact cnt_str (by decide) fun tk => h tk _

set_option maxHeartbeats 1000000 in
theorem s_braces {Q : Flow → Shared → Prop} {t : Tok} {a1 ae : Nat} {vs : List Value} {Rw : Nat → Nat} {es : List Nat} (X : LwS B L s m cm) (I : LB w B mg mb) (hA : A.handled = none) (ht : cm "told" = some (.str T t)) (hr : cm "roads" = some (.ref a1)) (hR : NatsF s.heap a1 n Rw) (hn : n ≤ 5) (hes : ∀ p ∈ es, p < n) (hlen : es.length ≤ 1000)
    (he : m "empty" = some (.ref ae)) (hl : s.heap.IsList ae vs.toArray) (hvs : IntsAre vs (es.map fun (p : Nat) => (p : Int))) (hcount : occ2 91 93 T.cps.toList = (es.map Rw).sum)
    (h : ∀ h' tk, (∀ b o, s.heap.get? b = some o → h'.get? b = some o) → Q .next { s with heap := h', toks := tk }) :
    wpAny (model prog w) A (exec (nthS 15 (bodyS lawDef)) (envW L fa cd)) Q E s := by
  have G := I.gl
  have hcT := X.cl.cell "told" (L + 5) (by kernel_rfl)
  rw [ht] at hcT
  have hcR := X.cl.cell "roads" (L + 6) (by kernel_rfl)
  rw [hr] at hcR
  refine wpAny_If (wpAny_isTrue_Compare1 (told_count hcT (fun tk t' => ?_) (by rfl) (by rfl)))
  refine call_b (env := envW L fa cd) (eB (e := envW L fa cd) G X.fr.keep (by decide) (v := .builtin "sum") (by decide +kernel) ⟨rfl, args1 (lcL (cl := [("roads", L + 6)]) (env := envW L fa cd) (by rfl) (fun h => by rfl) (fun n => by rfl) (by rfl) (by decide +kernel) (by decide +kernel) ?_)⟩)
  refine eL (e := envW L fa cd) X.fr.ns he (wpAny_pyIter_list hl ?_)
  have hallt : ae < s.heap.objs.size := let ⟨_, e, _⟩ := hl; Heap.lt_size e
  have kp : ∀ (b : Nat) o, s.heap.get? b = some o → (s.heap.push { cls := .type "list_iterator", data := .fields #[.ref ae, .int 0 0] }).get? b = some o := fun b o e => Heap.get?_push_of_some _ e
  refine compIntsL (s := s) (es := es) (vs := vs) (ae := ae) (I := s.heap.objs.size) hA (fun p => ((Rw p : Nat) : Int)) hvs hlen (hl.push _) ⟨_, Heap.get?_push_size _ rfl, rfl, rfl⟩ (Nat.ne_of_lt hallt) (fun o e => Nat.lt_irrefl _ (Heap.lt_size e)) kp (fun p C mm h₂ tk₂ E' t₂ hp hm hx kk => ?_) (fun a h₂ tk₂ ys ha kk hpp hys => ?_)
  · obtain ⟨vs1, hl1, t1, e1⟩ := (hR.keep kk).at_ (hes p hp)
    have hpn := hes p hp
    exact Subscript_ (eCl (c := L + 6) (by rfl) (cell_keep hcR kk) (eL (m := mm) hm hx (item_list hl1 (by omega) (by omega) e1 ⟨⟨h₂, _, rfl, fun _ _ e => e⟩, _, rfl⟩)))
  · obtain ⟨k0, e0⟩ := hpp
    refine sum_ls hA ⟨_, e0, rfl, k0, rfl⟩ hys fun h₃ tk₃ t₃ k₃ => ?_
    rw [sum_castL, hcount]
    refine P.ne_int (wpAny_truthy_bool (ite_f (by simp) (wpAny_execs_nil ?_)))
    exact h h₃ tk₃ fun b o e => k₃ b o (kk b o e)
end
end Mine
end

/- part N18 -/
section
open PySem PySem.W PyProof PyProof.Rows PySem.W.X
set_option maxRecDepth 100000
namespace Mine

theorem open_place {p : Nat} (hp : p < 5) : (("[" : Str) ++ Str.ofString (toString (p : Int))) = ⟨#[91, 48 + p]⟩ := by
  refine Str.ext' (Array.toList_inj.mp ?_)
  rw [app_cps]
  have h1 : (Str.ofString (toString (p : Int))).cps.toList = [48 + p] := pStr_cps hp
  have h2 : ("[" : Str).cps.toList = [91] := by decide +kernel
  rw [h1, h2]
  rfl

section
variable {prog : Program} {w : World} {A : Around} {E : Value → Shared → Prop} {s s₀ s₁ s' : Shared} {B B' : Heap} {W : Web} {L fa b g n al aw k : Nat} {cd v : Value} {m cm mg mb : Str → Option Value} {zs : List Int} {env : Env} {ra : Nat → Nat} {T : Str}

theorem eq_ints_same {a b : Addr} {vs us : List Value} {ns : List Int} {Q : Value → Shared → Prop} (hl : s.heap.IsList a vs.toArray) (hb : s.heap.IsList b us.toArray) (h1 : IntsAre vs ns) (h2 : IntsAre us ns) (hu : A.units < cLine) (h : Q (.bool true) s) :
    wpAny (model prog w) A (compareOp .Eq (.ref a) (.ref b)) Q E s := by
  have e0 : (List.range vs.toArray.size).all (fun _ => true) = true := List.all_eq_true.mpr fun _ _ => rfl
  refine SeqAt.RcAt.lists hl hb (by rw [List.size_toArray, List.size_toArray, h1.length, h2.length]) hu (e := fun _ => true) (fun j q1 q2 => ?_) prog w E Q (by rw [e0]; exact h)
  have q1' : j < vs.length := by simpa using q1
  have q2' : j < us.length := by simpa using q2
  have hj : j < ns.length := by rw [← h1.length]; exact q1'
  obtain ⟨t1, e1⟩ := h1.int_at j vs[j] (List.getElem?_eq_getElem q1')
  obtain ⟨t2, e2⟩ := h2.int_at j us[j] (List.getElem?_eq_getElem q2')
  show SeqAt.EqAt A.in1 s (vs.toArray[j]) (us.toArray[j]) true
  rw [List.getElem_toArray, List.getElem_toArray, e2]
  have h3 := (eq_isInt (ns.getD j 0) t2 h1 vs[j] (List.getElem_mem q1')).at A.in1 s
  rw [show isInt (ns.getD j 0) vs[j] = true from by rw [e1]; simp [isInt]] at h3
  exact h3

/-- told.count('[' + str(place)) -/
theorem told_open {Q : Value → Shared → Prop} {e : Env} {p : Nat} {mm : Str → Option Value} {t tp : Tok} {p1 p2 p3 p4 p5 p6 p7 p8 : Pos} {k1 : Nat} (G : Gl B mg mb) (kB : ∀ b o, B.get? b = some o → s.heap.get? b = some o) (hp : p < 5) (hm : s.heap.Ns e.locals mm) (hx : mm "place" = some (.int (p : Int) tp)) (hc : e.cells.lookup ("told" : Str) = some (L + 5)) (hcT : s.heap.IsCell (L + 5) (some (.str T t)))
    (h : ∀ tk t', Q (.int ((occ2 91 (48 + p) T.cps.toList : Nat) : Int) t') { s with toks := tk })
    (hbase : attributeBase (.Name "told" p1) "count" e (eval (.Name "told" p1) e) = eval (.Name "told" p1) e)
    (hfew : ((backTo p8 (starEach [Expr.BinOp (.Constant (.str "[") k1 p3) .Add (.Call (.Name "str" p4) [.Name "place" p5] [] p6) p7] e)).all (fun x => !x.1) && (backToKw p8 (keywordEach [] e)).all (fun x => x.1.isSome)
      && decide (([Expr.BinOp (.Constant (.str "[") k1 p3) .Add (.Call (.Name "str" p4) [.Name "place" p5] [] p6) p7] : List Expr).length + ([] : List Keyword).length + (if ([] : List Keyword).isEmpty then 0 else 1) < 30)) = true) (hline : (p2.endLine == p8.line) = true)
    (hst : starEach [Expr.BinOp (.Constant (.str "[") k1 p3) .Add (.Call (.Name "str" p4) [.Name "place" p5] [] p6) p7] e = [(false, eval (.BinOp (.Constant (.str "[") k1 p3) .Add (.Call (.Name "str" p4) [.Name "place" p5] [] p6) p7) e)])
    (hst2 : backTo p6 (starEach [Expr.Name "place" p5] e) = [(false, eval (.Name "place" p5) e)])
    (hk : e.scope.kind = .function := by rfl) (hx1 : e.kindOf "told" = some .cell := by rfl) (hx2 : e.kindOf "place" = some .local := by rfl) (hx3 : e.kindOf "str" = some .globalImplicit := by rfl) (hg : e.globals = mainGlobals := by rfl) (hb : e.builtins = builtinsNs := by rfl) :
    wpAny (model prog w) A (eval (.Call (.Attribute (.Name "told" p1) "count" p2) [.BinOp (.Constant (.str "[") k1 p3) .Add (.Call (.Name "str" p4) [.Name "place" p5] [] p6) p7] [] p8) e) Q E s := by
  refine wpAny_Call_method (T := "str") (id := "str.count") hbase hfew hline F.plainAttrs_str F.slot_str_count F.type_str_count ?_
  refine eCl hc hcT ⟨typeIs_str _ _ _, fun a e => (nomatch e), callWith_method1 (wpAny_items_cons (wpAny_BinOp (wpAny_Constant_str (wpAny_Call_ofName (eB G kB (by decide) (v := .type "str") (by decide +kernel) ?_ hg hb hk hx3)))) hst) hst (by rfl)⟩ hk hx1
  rw [hst2]
  refine callWith_excType (T := "str") rfl (Calls.evalArgs_plain (Calls.spliced_cons (eL hm hx (Calls.spliced_nil ?_) hk hx2)))
  have h5 : p = 0 ∨ p = 1 ∨ p = 2 ∨ p = 3 ∨ p = 4 := by omega
  refine P.str_of_int (by rcases h5 with rfl | rfl | rfl | rfl | rfl <;> decide +kernel) ?_
  refine add_str (fun t' tk => wpAny_items_nil ?_) (by
    have h1 : ("[" : Str).length = 1 := by decide +kernel
    have h2 : (Str.ofString (toString (p : Int))).length = 1 := pStr_one hp
    rw [h1, h2]; decide)
  rw [open_place hp]
  show wpAny (model prog w) A (call (.builtin "str.count") [.str T t, .str ⟨#[91, 48 + p]⟩ t']) _ _ _
  exact cnt_str (by omega) fun tk2 => h tk2 _

set_option maxHeartbeats 2000000 in
theorem s_last {Q : Flow → Shared → Prop} {t tm : Tok} {a1 : Nat} {Rw : Nat → Nat} (X : LwS B L s m cm) (I : LB w B mg mb) (hA : A.handled = none) (hu : A.units < cLine) (hcm : cm "many" = some (.int (nOf zs : Int) tm)) (hw : cm "web" = some (.ref aw)) (ht : cm "told" = some (.str T t)) (hr : cm "roads" = some (.ref a1)) (Wa : WebA zs L aw ra s.heap) (hR : NatsF s.heap a1 (nOf zs) Rw)
    (hcount : ∀ p, p < nOf zs → (rowOf zs p).isSome = true → occ2 91 (48 + p) T.cps.toList = Rw p)
    (h : ∀ h' tk, (∀ b o, s.heap.get? b = some o → h'.get? b = some o) → Q (.ret (.bool true)) { s with heap := h', toks := tk }) :
    wpAny (model prog w) A (exec (nthS 16 (bodyS lawDef)) (envW L fa cd)) Q E s := by
  have G := I.gl
  have hn5 := nOf_le zs
  have hcN := X.cl.cell "many" (L + 3) (by kernel_rfl)
  rw [hcm] at hcN
  have hcW := X.cl.cell "web" (L + 4) (by kernel_rfl)
  rw [hw] at hcW
  have hcT := X.cl.cell "told" (L + 5) (by kernel_rfl)
  rw [ht] at hcT
  have hcR := X.cl.cell "roads" (L + 6) (by kernel_rfl)
  rw [hr] at hcR
  refine wpAny_Return_some (wpAny_Compare1 ?_)
  refine lcL (cl := [("web", L + 4), ("told", L + 5)]) (env := envW L fa cd) (by rfl) (fun h => by rfl) (fun n => by rfl) (by rfl) (by decide +kernel) (by decide +kernel) ?_
  refine range_it G X.fr.keep (eCl (e := envW L fa cd) (c := L + 3) (by kernel_rfl) hcN ⟨nOf zs, _, rfl, by omega, fun Ia h' tk k hI1 hI2 hI => ?_⟩)
  refine compInts (s := s) hA (fun p => (rowOf zs p).isSome) (fun p => ((occ2 91 (48 + p) T.cps.toList : Nat) : Int)) (by rw [sizeLine_eq]; omega) hI hI2 (fun o e => Nat.lt_irrefl _ (Nat.lt_of_lt_of_le (Heap.lt_size e) hI1)) k (fun i C mm h₂ tk₂ E' t₂ hi hm hx kk => ?_) (fun i C mm h₂ tk₂ E' t₂ hi _ hm hx kk => ?_) (fun a h₂ tk₂ vs ha' kk hp hvs => ?_)
  · exact full_test (aw := aw) (ra := ra) (L := L) hu hi hm hx (by rfl) (cell_keep hcW kk) (Wa.keep fun b o _ e => kk b o e) fun h₃ tk₃ k₃ => ⟨⟨h₃, tk₃, rfl, k₃⟩, rfl⟩
  · exact told_open (L := L) G (fun b o e => kk b o (X.fr.keep b o e)) (by omega) hm hx (by rfl) (cell_keep hcT kk) (fun tk t' => ⟨⟨h₂, tk, rfl, fun _ _ e => e⟩, t', rfl⟩) (by rfl) (by rfl) (by rfl) (by rfl) (by rfl)
  · have X₂ : LwS B L { s with heap := h₂, toks := tk₂ } m cm := X.grow kk
    refine lcL (cl := [("web", L + 4), ("roads", L + 6)]) (env := envW L fa cd) (by rfl) (fun h => by rfl) (fun n => by rfl) (by rfl) (by decide +kernel) (by decide +kernel) ?_
    refine range_it G (fun b o e => kk b o (X.fr.keep b o e)) (eCl (e := envW L fa cd) (c := L + 3) (by kernel_rfl) (cell_keep hcN kk) ⟨nOf zs, _, rfl, by omega, fun Ib h₃ tk₃ k₃ hJ1 hJ2 hJ => ?_⟩)
    refine compInts (s := { s with heap := h₂ }) hA (fun p => (rowOf zs p).isSome) (fun p => ((Rw p : Nat) : Int)) (by rw [sizeLine_eq]; omega) hJ hJ2 (fun o e => Nat.lt_irrefl _ (Nat.lt_of_lt_of_le (Heap.lt_size e) hJ1)) k₃ (fun i C mm h₄ tk₄ E' t₂ hi hm hx k4 => ?_) (fun i C mm h₄ tk₄ E' t₂ hi _ hm hx k4 => ?_) (fun b h₄ tk₄ us hb' k4 hq hus => ?_)
    · have k5 : ∀ (b : Nat) o, s.heap.get? b = some o → h₄.get? b = some o := fun b o e => k4 b o (kk b o e)
      exact full_test (aw := aw) (ra := ra) (L := L) hu hi hm hx (by rfl) (cell_keep hcW k5) (Wa.keep fun b o _ e => k5 b o e) fun h₅ tk₅ k₅ => ⟨⟨h₅, tk₅, rfl, k₅⟩, rfl⟩
    · have k5 : ∀ (b : Nat) o, s.heap.get? b = some o → h₄.get? b = some o := fun b o e => k4 b o (kk b o e)
      obtain ⟨vs1, hl1, t1, e1⟩ := (hR.keep k5).at_ hi
      exact Subscript_ (eCl (c := L + 6) (by rfl) (cell_keep hcR k5) (eL (m := mm) hm hx (item_list hl1 (by omega) (by omega) e1 ⟨⟨h₄, _, rfl, fun _ _ e => e⟩, _, rfl⟩)))
    · obtain ⟨k0, e0⟩ := hp
      obtain ⟨k1, e1⟩ := hq
      have hsame : numsTo (fun p => (rowOf zs p).isSome) (fun p => ((occ2 91 (48 + p) T.cps.toList : Nat) : Int)) (nOf zs) = numsTo (fun p => (rowOf zs p).isSome) (fun p => ((Rw p : Nat) : Int)) (nOf zs) := by
        unfold numsTo
        refine List.map_congr_left fun p hp => ?_
        obtain ⟨q1, q2⟩ := List.mem_filter.mp hp
        rw [hcount p (List.mem_range.mp q1) q2]
      rw [hsame] at hvs
      exact eq_ints_same ⟨_, k4 _ _ e0, rfl, k0, rfl⟩ ⟨_, e1, rfl, k1, rfl⟩ hvs hus hu (h h₄ tk₄ fun b o e => k4 b o (kk b o e))
end
end Mine
end

/- part Z1 -/
section
open PySem PySem.W PyProof PyProof.Rows PySem.W.X
set_option maxRecDepth 100000
namespace Mine
theorem unitsAL (L fa : Nat) (cd : Value) : (AL L fa cd).units + 3 < cLine := by
  show 4 + 3 + 3 < 9900
  decide

section
variable {prog : Program} {w : World} {E : Value → Shared → Prop} {s : Shared} {B : Heap} {L fa : Nat} {cd : Value} {m cm mg mb : Str → Option Value} {zs : List Int}

/-- the end of the law: nothing came back -/
theorem law_rest2 {Q : Flow → Shared → Prop} {W : Web} {ra : Nat → Nat} {aw k : Nat} {T : Str} {tm tx tt te : Tok} (hWn : W.n = nOf zs) (hWr : W.row = rowOf zs) (I : LB w B mg mb) (X : LwS B L s m cm) (S : Small W.n W.row) (Wa : WebA zs L aw ra s.heap) (hcm : cm "many" = some (.int (nOf zs : Int) tm)) (hw : cm "web" = some (.ref aw)) (h4 : cm "told" = some (.str T tt))
    (h2 : m "text" = some (.str T tx)) (h3 : m "fell" = some (.bool false)) (h5 : m "endless" = some (.str T te)) {i : Nat} (hn : NoCirc W.row i) (hd : (xN W.row i).rd = []) (hT : T = tksStr (xN W.row i).out)
    (h : ∀ s', (∀ (a : Nat) o, a ∉ hidL L → s.heap.get? a = some o → s'.heap.get? a = some o) → s'.os = s.os → s'.gens = s.gens → TabI (hidL L) s'.heap → Q (.ret (.bool true)) s') :
    wpAny (model prog w) (AL L fa cd) (execs (List.drop 11 (bodyS lawDef)) (envW L fa cd)) Q E s := by
  have hn5 := nOf_le zs
  have hn2 := nOf_ge zs
  have hu : (AL L fa cd).units < cLine := Nat.lt_of_le_of_lt (Nat.le_add_right _ 3) (unitsAL L fa cd)
  have e1 : ∀ {α : Type} {y z : Str} {a b : α}, y ≠ z → (if y = z then a else b) = b := fun n => if_neg n
  obtain ⟨hc1, hc2⟩ := law_counts S hn hd
  rw [hWn, hWr] at hc1 hc2
  rw [← hWr, ← hT] at hc1 hc2
  rw [hWr] at hc1 hc2
  refine wpAny_execs_cons (s_roads (n := nOf zs) X rfl hn5 (by omega) hcm fun s1 a1 a2 X1 S1 ha1 ha2 hR1 hA1 => ?_)
  have Wa1 := Wa.keep S1.keep
  have cmany : (fun y : Str => if y = "ahead" then some (Value.ref a2) else if y = "roads" then some (.ref a1) else cm y) "many" = some (.int (nOf zs : Int) tm) := (e1 (by decide)).trans ((e1 (by decide)).trans hcm)
  have cweb : (fun y : Str => if y = "ahead" then some (Value.ref a2) else if y = "roads" then some (.ref a1) else cm y) "web" = some (.ref aw) := (e1 (by decide)).trans ((e1 (by decide)).trans hw)
  have ctold : (fun y : Str => if y = "ahead" then some (Value.ref a2) else if y = "roads" then some (.ref a1) else cm y) "told" = some (.str T tt) := (e1 (by decide)).trans ((e1 (by decide)).trans h4)
  refine wpAny_execs_cons (s_count X1 I rfl cmany cweb ((e1 (by decide)).trans (if_pos rfl)) (if_pos rfl) ha1 ha2 Wa1 hR1 hA1 fun s2 m2 cm2 a' X2 S2 hm2 hcm2 hr2 ha' hR2 => ?_)
  have Wa2 := Wa1.keep S2.keep
  have h2' := (hm2 "text" (by decide)).trans h2
  have h3' := (hm2 "fell" (by decide)).trans h3
  have h5' := (hm2 "endless" (by decide)).trans h5
  have ct2 := (hcm2 "told" (by decide) (by decide)).trans ctold
  have cm2many := (hcm2 "many" (by decide) (by decide)).trans cmany
  have cm2web := (hcm2 "web" (by decide) (by decide)).trans cweb
  refine wpAny_execs_cons (s_same X2 h2' h3' ct2 h5' fun tk => ?_)
  have X3 : LwS B L { s2 with toks := tk } m2 cm2 := X2.grow (h' := s2.heap) fun _ _ e => e
  refine wpAny_execs_cons (s_empty X3 I rfl hu cm2many cm2web Wa2 fun s4 ae vs X4 S4 hae hel hvs => ?_)
  have Wa4 : WebA zs L aw ra s4.heap := Wa2.keep S4.keep
  have hR4 : NatsF s4.heap a' (nOf zs) (roadsN (nOf zs) (rowOf zs) (nOf zs)) := hR2.keepN ha' S4.keep
  refine wpAny_execs_cons (s_braces (es := (List.range (nOf zs)).filter fun p => (rowOf zs p).isNone) X4 I rfl ct2 hr2 hR4 hn5 (fun p hp => List.mem_range.mp (List.mem_filter.mp hp).1) (Nat.le_trans (List.length_filter_le _ _) (by rw [List.length_range]; omega)) (if_pos rfl) hel hvs hc1 fun h5 tk5 k5 => ?_)
  have X5 := X4.grow (tk := tk5) k5
  have Wa5 : WebA zs L aw ra h5 := Wa4.keep fun b o _ e => k5 b o e
  refine wpAny_execs_cons (s_last X5 I rfl hu cm2many cm2web ct2 hr2 Wa5 (hR4.keep k5) hc2 fun h6 tk6 k6 => ?_)
  have X6 := X5.grow (tk := tk6) k6
  exact h _ (fun a o n e => k6 a o (k5 a o (S4.keep a o n (S2.keep a o n (S1.keep a o n e))))) (S4.os.trans (S2.os.trans S1.os)) (S4.gens.trans (S2.gens.trans S1.gens)) X6.tab
end
end Mine
end

/- part Z2 -/
section
open PySem PySem.W PyProof PyProof.Rows PySem.W.X
set_option maxRecDepth 100000
namespace Mine
section
variable {prog : Program} {w : World} {E : Value → Shared → Prop} {s : Shared} {B : Heap} {L fa : Nat} {cd : Value} {m cm mg mb : Str → Option Value} {zs : List Int}

/-- from `text, circle = ...` on -/
theorem law_rest1 {Q : Flow → Shared → Prop} {ra la : Nat → Nat} {aw al : Nat} {tm : Tok} (I : LB w B mg mb) (X : LwS B L s m cm) (hBh : ∀ b o, B.get? b = some o → b ∉ hidL L) (hcm : cm "many" = some (.int (nOf zs : Int) tm)) (hw : cm "web" = some (.ref aw)) (hls : m "lists" = some (.ref al)) (Wa : WebA zs L aw ra s.heap) (Ls : ListsA (nOf zs) L al la s.heap)
    (hf : ∀ p, p < nOf zs → ∃ items, s.heap.PlainList (la p) items ∧ Filled la (numsOfRow zs p) (numsOfRow zs p).length items)
    (h : ∀ s', (∀ (a : Nat) o, a ∉ hidL L → s.heap.get? a = some o → s'.heap.get? a = some o) → s'.os = s.os → (AllBare s.gens → AllBare s'.gens) → TabI (hidL L) s'.heap → Q (.ret (.bool true)) s') :
    wpAny (model prog w) (AL L fa cd) (execs (List.drop 6 (bodyS lawDef)) (envW L fa cd)) Q E s := by
  have e1 : ∀ {α : Type} {y z : Str} {a b : α}, y ≠ z → (if y = z then a else b) = b := fun n => if_neg n
  obtain ⟨tk, hWI⟩ := web_in (B' := s.heap) Ls hf
  generalize hW : webOf zs la tk = W at hWI
  have hWn : W.n = nOf zs := by rw [← hW]; rfl
  have hWr : W.row = rowOf zs := by rw [← hW]; rfl
  have hWa : W.addr 0 = la 0 := by rw [← hW]; rfl
  have S : Small W.n W.row := by rw [hWn, hWr]; exact small_of zs
  refine wpAny_execs_cons (s_text X I rfl (unitsAL L fa cd) (show (1 + claimMargin) + 1 < recursionLimit by decide +kernel) hw Wa fun s1 k tx tc X1 S1 hk hb => ?_)
  rw [← hWr] at hk hb X1
  refine wpAny_execs_cons (s_init X1 rfl fun s2 t1 t2 X2 S2 => ?_)
  have K2 := fun (b : Nat) o n e => S2.keep b o n (S1.keep b o n e)
  have Ls2 : ListsA W.n L al la s2.heap := by rw [hWn]; exact Ls.keep fun o e => K2 al o Ls.hid e
  refine wpAny_execs_cons (s_try (al := al) (la := la) (W := W) I X2 hBh S hWa (fun B' hB' => hWI B' fun a o n e => hB' a o n (K2 a o n e)) ((e1 (by decide)).trans ((e1 (by decide)).trans ((e1 (by decide)).trans ((e1 (by decide)).trans hls)))) Ls2 (if_pos rfl) (if_pos rfl) fun s3 m3 T tt f X3 K3 o3 d3 b3 hm3 hf3 hT hf1 hf0 => ?_)
  have Ls3 : ListsA W.n L al la s3.heap := Ls2.keep fun o e => K3 al o Ls.hid e
  refine wpAny_execs_cons (s_endless (al := al) (la := la) (W := W) I X3 hBh S hWa (fun B' hB' => hWI B' fun a o n e => hB' a o n (K3 a o n (K2 a o n e))) ((hm3 "lists" (by decide) (by decide)).trans ((e1 (by decide)).trans ((e1 (by decide)).trans ((e1 (by decide)).trans ((e1 (by decide)).trans hls))))) Ls3 ((hm3 "endless" (by decide) (by decide)).trans ((e1 (by decide)).trans (if_pos rfl))) fun s4 m4 T2 te X4 K4 o4 d4 b4 hm4 he4 hT2 hE => ?_)
  have ctext : m4 "text" = some (.str (LT W k).text tx) := (hm4 "text" (by decide) (by decide)).trans ((hm3 "text" (by decide) (by decide)).trans ((e1 (by decide)).trans ((e1 (by decide)).trans ((e1 (by decide)).trans (if_pos rfl)))))
  have ccirc : m4 "circle" = some (.int (LT W k).circ tc) := (hm4 "circle" (by decide) (by decide)).trans ((hm3 "circle" (by decide) (by decide)).trans ((e1 (by decide)).trans ((e1 (by decide)).trans (if_pos rfl))))
  have cfell : m4 "fell" = some (.bool f) := (hm4 "fell" (by decide) (by decide)).trans hf3
  have hgens : AllBare s.gens → AllBare s4.gens := fun h0 => b4 (b3 (by rw [S2.gens, S1.gens]; exact h0))
  have hos : s4.os = s.os := o4.trans (o3.trans (S2.os.trans S1.os))
  have KK : ∀ (a : Nat) o, a ∉ hidL L → s.heap.get? a = some o → s4.heap.get? a = some o := fun a o n e => K4 a o n (K3 a o n (K2 a o n e))
  refine wpAny_execs_cons (s_circle (W := W) (k := k) (f := f) (T := T) (T2 := T2) X4 S hk hb ccirc ctext cfell (if_pos rfl) he4 hT hT2 hf1 hf0 hE (fun h' tk' kk => ?_) (fun tk' hff => ?_))
  · exact h _ (fun a o n e => kk a o (KK a o n e)) hos hgens (X4.tab.keeps kk)
  · obtain ⟨j, μ, he⟩ := hf0 hff
    obtain ⟨q1, q2, q3, q4, i, q5, q6, q7⟩ := law_ended S he hk hb
    have hX : (LT W k).text = T := q2
    have hT2e : T2 = T := ((law_endless hE hk).2 q3 (by show (LT W k).text.length < 160; rw [hX]; omega)).trans q2
    rw [hX] at ctext
    rw [hT2e] at he4
    rw [hff] at cfell
    have X5 : LwS B L { s4 with toks := tk' } m4 _ := X4.grow (h' := s4.heap) fun _ _ e => e
    refine law_rest2 (W := W) (ra := ra) (aw := aw) (k := k) (T := T) hWn hWr I X5 S (Wa.keep KK) ((e1 (by decide)).trans ((e1 (by decide)).trans hcm)) ((e1 (by decide)).trans ((e1 (by decide)).trans hw)) (if_pos rfl) ctext cfell he4 q5 q6 q7 fun s' K' o' g' T' => ?_
    exact h s' (fun a o n e => K' a o n (KK a o n e)) (o'.trans hos) (fun h0 => by rw [g']; exact hgens h0) T'
end
end Mine
end

/- part Z3 -/
section
open PySem PySem.W PyProof PyProof.Rows PySem.W.X
set_option maxRecDepth 100000
namespace Mine
section
variable {prog : Program} {w : World} {E : Value → Shared → Prop} {s : Shared} {B : Heap} {L fa : Nat} {cd : Value} {m cm mg mb : Str → Option Value} {zs : List Int}

/-- the whole body of the law -/
theorem law_body {Q : Flow → Shared → Prop} {ax : Nat} {vs : List Value} (I : LB w B mg mb) (X : LwS B L s m cm) (hBh : ∀ b o, B.get? b = some o → b ∉ hidL L) (hsc : cm "script" = some (.ref ax)) (hl : s.heap.IsList ax vs.toArray) (hv : IntsAre vs zs) (hlen : zs.length ≤ 63)
    (h : ∀ s', (∀ (a : Nat) o, a ∉ hidL L → s.heap.get? a = some o → s'.heap.get? a = some o) → s'.os = s.os → (AllBare s.gens → AllBare s'.gens) → TabI (hidL L) s'.heap → Q (.ret (.bool true)) s') :
    wpAny (model prog w) (AL L fa cd) (execs (bodyS lawDef) (envW L fa cd)) Q E s := by
  have e1 : ∀ {α : Type} {y z : Str} {a b : α}, y ≠ z → (if y = z then a else b) = b := fun n => if_neg n
  refine wpAny_execs_cons (s_draw X I rfl hsc hl hv hlen fun s1 ad dvs X1 S1 hdl had hadz hdi => ?_)
  have D1 : DrawL s1.heap ad zs := ⟨dvs, hdl, hdi⟩
  refine wpAny_execs_cons (s_many X1 (if_pos rfl) D1 fun s2 tm X2 S2 => ?_)
  have D2 : DrawL s2.heap ad zs := D1.keepN had S2.keep
  refine wpAny_execs_cons (s_web X2 I rfl ((e1 (by decide)).trans (if_pos rfl)) D2 (if_pos rfl) fun s3 aw ra X3 S3 haw hawz hwl hrw => ?_)
  have D3 : DrawL s3.heap ad zs := D2.keepN had S3.keep
  have K3 : ∀ (a : Nat) o, a ∉ hidL L → s.heap.get? a = some o → s2.heap.get? a = some o := fun a o n e => S2.keep a o n (S1.keep a o n e)
  have hall : s3.heap.IsList aw ((List.range (nOf zs)).map fun p => Value.ref (ra p)).toArray := let ⟨k, e⟩ := hwl; ⟨_, e, rfl, k, rfl⟩
  have hBaw : B.get? aw = none := by
    cases hb : B.get? aw with
    | none => rfl
    | some o => exact absurd (Heap.lt_size (X2.fr.keep _ _ hb)) (Nat.not_lt.mpr hawz)
  have hcm3 : (fun y : Str => if y = "web" then some (Value.ref aw) else if y = "many" then some (.int (nOf zs : Int) tm) else if y = "draw" then some (.ref ad) else cm y) "many" = some (.int (nOf zs : Int) tm) := (e1 (by decide)).trans (if_pos rfl)
  have hcd3 : (fun y : Str => if y = "web" then some (Value.ref aw) else if y = "many" then some (.int (nOf zs : Int) tm) else if y = "draw" then some (.ref ad) else cm y) "draw" = some (.ref ad) := (e1 (by decide)).trans ((e1 (by decide)).trans (if_pos rfl))
  have hcw3 : (fun y : Str => if y = "web" then some (Value.ref aw) else if y = "many" then some (.int (nOf zs : Int) tm) else if y = "draw" then some (.ref ad) else cm y) "web" = some (.ref aw) := if_pos rfl
  generalize (fun y : Str => if y = "web" then some (Value.ref aw) else if y = "many" then some (.int (nOf zs : Int) tm) else if y = "draw" then some (.ref ad) else cm y) = cm3 at X3 hcm3 hcd3 hcw3
  refine wpAny_execs_cons (s_blank X3 hcd3 D3 hcm3 hcw3 haw hall (fun p hp => let ⟨a, b, _, d⟩ := hrw p hp; ⟨a, b, d⟩) hBaw fun s4 ra4 X4 k4 g4 o4 d4 Wa4 => ?_)
  refine wpAny_execs_cons (s_lists X4 I rfl hcm3 fun s5 al la X5 S5 halz hlaz Ls5 hem => ?_)
  have Wa5 : WebA zs L aw ra4 s5.heap := Wa4.keep S5.keep
  have hraz : ∀ p, p < nOf zs → ra4 p < s4.heap.objs.size := fun p hp => let ⟨_, hl, _⟩ := rowO_ints (Wa4.rows p hp).2.2; let ⟨_, e, _⟩ := hl; Heap.lt_size e
  have hawlt : aw < s4.heap.objs.size := let ⟨_, e, _⟩ := Wa4.all; Heap.lt_size e
  have d2 : ∀ p q, p < nOf zs → q < nOf zs → ra4 p ≠ la q := fun p q hp hq => Nat.ne_of_lt (Nat.lt_of_lt_of_le (hraz p hp) (hlaz q hq))
  have d5 : ∀ q, q < nOf zs → aw ≠ la q := fun q hq => Nat.ne_of_lt (Nat.lt_of_lt_of_le hawlt (hlaz q hq))
  have hBla : ∀ q, q < nOf zs → B.get? (la q) = none := fun q hq => by
    cases hb : B.get? (la q) with
    | none => rfl
    | some o => exact absurd (Heap.lt_size (X4.fr.keep _ _ hb)) (Nat.not_lt.mpr (hlaz q hq))
  refine wpAny_execs_cons (s_fill X5 I rfl hcm3 hcw3 (if_pos rfl) Wa5 Ls5 hem d2 d5 hBla fun s6 m6 X6 hm6 k6 g6 o6 d6 hf6 => ?_)
  have hL : ∀ b : Nat, b ∉ hidL L → b ≠ L := fun b n e => n (e ▸ mem_hid)
  have Wa6 : WebA zs L aw ra4 s6.heap := ⟨Wa5.hid, let ⟨o, e, r⟩ := Wa5.all; ⟨o, k6 _ _ (hL _ Wa5.hid) d5 e, r⟩, fun p hp => ⟨(Wa5.rows p hp).1, (Wa5.rows p hp).2.1, rowO_keep (Wa5.rows p hp).2.2 fun o e => k6 _ _ (hL _ (Wa5.rows p hp).1) (fun q hq => d2 p q hp hq) e⟩⟩
  have Ls6 : ListsA (nOf zs) L al la s6.heap := Ls5.keep fun o e => k6 _ _ (hL _ Ls5.hid) (fun q hq => fun z => (Ls5.out q hq).2 z.symm) e
  have K6 : ∀ (a : Nat) o, a ∉ hidL L → s.heap.get? a = some o → s6.heap.get? a = some o := fun a o n e => by
    have h2 := K3 a o n e
    have h3 := S3.keep a o n h2
    have h4 := k4 a o n (Nat.ne_of_lt (Nat.lt_of_lt_of_le (Heap.lt_size h2) hawz)) h3
    exact k6 a o (hL a n) (fun q hq => Nat.ne_of_lt (Nat.lt_of_lt_of_le (Heap.lt_size h4) (hlaz q hq))) (S5.keep a o n h4)
  have o : s6.os = s.os := o6.trans (S5.os.trans (o4.trans (S3.os.trans (S2.os.trans S1.os))))
  have g : s6.gens = s.gens := g6.trans (S5.gens.trans (g4.trans (S3.gens.trans (S2.gens.trans S1.gens))))
  refine law_rest1 (al := al) (la := la) (ra := ra4) (aw := aw) I X6 hBh hcm3 hcw3 ((hm6 "lists" (by decide) (by decide) (by decide)).trans (if_pos rfl)) Wa6 Ls6 hf6 fun s' K' o' b' T' => ?_
  exact h s' (fun a o n e => K' a o n (K6 a o n e)) (o'.trans o) (fun h0 => b' (by rw [g]; exact h0)) T'
end
end Mine
end

/- part Z4 -/
section
open PySem PySem.W PyProof PyProof.Rows PySem.W.X
set_option maxRecDepth 100000
namespace Mine
section
variable {prog : Program} {w : World} {s : Shared} {mg mb : Str → Option Value} {zs : List Int} {R : Result → Shared → Prop}

theorem old_of {B : Heap} {h' : Heap} {L : Nat} (C : CodeHd B 192 188) (hsz : B.objs.size = L) (h0 : B.get? 188 = some (tabObj #[])) (k : ∀ (a : Nat) o, a ∉ hidL L → B.get? a = some o → h'.get? a = some o) (T : TabI (hidL L) h') : OldK B h' := by
  obtain ⟨_, ps, hP, _⟩ := T
  have hout : ∀ (b : Nat) o, B.get? b = some o → b ≠ 188 → b ∉ hidL L := fun b o e n q => by
    have := Heap.lt_size e
    rw [hsz] at this
    have hb : b < L := this
    simp only [hidL, List.mem_cons, List.not_mem_nil, or_false] at q
    omega
  refine ⟨fun b o e => ?_, fun b o e => ?_⟩
  · by_cases hb : b = 188
    · subst hb
      rw [h0] at e
      cases e
      exact .inr (.inl ⟨(C.tab h0).isCodeTable, rfl, #[], ps, rfl, by rw [Array.empty_append]; exact hP⟩)
    · exact .inl (k b o (hout b o e hb) e)
  · by_cases hb : b = 188
    · subst hb
      exact ⟨_, hP⟩
    · exact ⟨o, k b o (hout b o e hb) e⟩

/-- the call of the law -/
theorem call_law {fa ax : Addr} {o : Obj} {pm cd doc : Value} {vs : List Value} (K : (hd.heap_39 w.params).In s.heap) (K188 : s.heap.get? 188 = some (tabObj #[])) (g : s.heap.Ns mainGlobals mg) (b : s.heap.Ns builtinsNs mb) (bt : ∀ x : Str, x ≠ "__name__" → mb x = bootBuiltins x) (lim : s.heap.NoLimit)
    (bmain : ∃ bm ob, mg "__builtins__" = some (.ref bm) ∧ bm ≠ builtinsNs ∧ s.heap.get? bm = some ob ∧ ob.cls = .type "module" ∧ ob.dict = some builtinsNs ∧ ob.data = .plain)
    (ho : s.heap.get? fa = some o) (hdat : o.data = .func (Calls.docDef "law" (argsS lawDef) (bodyS lawDef) (scopeS lawDef) pm cd doc)) (hcd : s.heap.CodeRec cd "law") (hg : s.gens = #[])
    (hl : s.heap.IsList ax vs.toArray) (hv : IntsAre vs zs) (hlen : zs.length ≤ 63)
    (h : ∀ s', OldK s.heap s'.heap → s'.os = s.os → AllBare s'.gens → R (.ok (.ret (.bool true))) s') :
    codeAny (model prog w) callerA (.call (.ref fa) ⟨[.ref ax], []⟩) R s := by
  refine call_cells (binds := [("script", .ref ax)]) (show (1 + claimMargin) < recursionLimit by decide +kernel) ho hdat lim hcd rfl (cell_kinds (by kernel_rfl)) (fun h₁ tk F X => ?_)
  generalize hL : s.heap.objs.size = L at F X ⊢
  have h188 : (188 : Nat) < L := hL ▸ Heap.lt_size K188
  have hBget : ∀ (b : Nat) o, b ≠ 188 → s.heap.get? b = some o → (hideAll s.heap [188]).get? b = some o := fun b o n e => hideAll_get _ e (fun q => n (List.mem_singleton.mp q))
  have hn : (hideAll s.heap [188]).get? 188 = none := hideAll_none _ (.head _)
  have K' : (hd.heap_39 w.params).In (hideAll s.heap [188]) := fun a o e => hBget a o (fun q => by subst q; cases e) (K a o e)
  have ns' : ∀ {a : Nat} {mm : Str → Option Value}, a ≠ 188 → s.heap.Ns a mm → (hideAll s.heap [188]).Ns a mm := fun na G => by
    obtain ⟨og, es, ep, e, r⟩ := G
    exact ⟨og, es, ep, hBget _ _ na e, r⟩
  have hb' : (hideAll s.heap [188]).BuiltinsAt mg 188 := by
    obtain ⟨bm, ob, b1, b2, b3, b4, b5, b6⟩ := bmain
    have hne : bm ≠ 188 := fun q => by
      rw [q, K188] at b3
      cases b3
      cases b4
    have hbG : bm ≠ mainGlobals := fun q => by
      obtain ⟨o, es, ep, e, hd, _⟩ := g
      rw [q, e] at b3
      cases b3
      rw [hd] at b6
      cases b6
    exact ⟨bm, ob, b1, b2, hbG, hne, hBget _ _ hne b3, b4, b5, b6⟩
  have I : LB w (hideAll s.heap [188]) mg mb := ⟨K', ns' (by decide) g, ns' (by decide) b, bt, let ⟨mc, q, r⟩ := lim; ⟨mc, ns' (by decide) q, r⟩, hb', hn⟩
  have hBh : ∀ (b : Nat) o, (hideAll s.heap [188]).get? b = some o → b ∉ hidL L := fun b o e q => by
    have h1 := Heap.lt_size (of_hideAll _ e)
    rw [hL] at h1
    have h2 : b < L := h1
    have h3 : (b : Nat) ≠ (188 : Nat) := fun q => by rw [q, hn] at e; cases e
    simp only [hidL, List.mem_cons, List.not_mem_nil, or_false] at q
    omega
  have T0 : TabI (hidL L) h₁ := ⟨.head _, #[], F.keep _ _ K188, trivial, fun d hd cv q => by cases q⟩
  have X0 : LwS (hideAll s.heap [188]) L { s with heap := h₁, toks := tk } _ _ := ⟨⟨F.ns, fun b o e => F.keep b o (of_hideAll _ e), by rw [hideAll_size]; exact Nat.le_of_eq hL⟩, X, T0, h188⟩
  have hne : ax ≠ 188 := fun q => by
    obtain ⟨o, e, e1, _⟩ := hl
    rw [q, K188] at e
    cases e
    cases e1
  have hl1 : h₁.IsList ax vs.toArray := lst_keep hl F.keep
  refine law_body (zs := zs) I X0 hBh (by rfl) hl1 hv hlen fun s' K1 o1 b1 T1 => ?_
  exact h s' (old_of (make_tab (w := w) K) hL K188 (fun a o n e => K1 a o n (F.keep a o e)) T1) o1 (b1 (AllBare.of_eq hg))
end
end Mine
end

/- part Z9 -/
section
open PySem PySem.W PyProof PyProof.Rows PySem.W.X
set_option maxRecDepth 100000
namespace Mine
theorem law_holds : PySem.Challenge.rw_ae5040_01.Holds := by
  refine hd ?_
  k_fill
  intro w s₀ s₁ mg mb G Y fa o pm cd doc dV kV ho hdat hcd hD hmg hg args vals as hpre hlay hrd hwl hlo
  have KX := km_in_of Y
  have KT := km_tabs_of Y
  have X := (Ground.X G).1
  have V := (Ground.X G).2
  refine Ground.open G ?_
  intro T B D TE TW
  try (refine guard_noD D (by decide +kernel) ?_; clear D)
  clear hmg
  wrow_args hpre hlay hrd hwl hlo
  rename_i hL _ _ _ hI _ hcond _
  have hlen : _ ≤ 63 := Int.ofNat_le.mp (Int.not_lt.mp hcond)
  rcases hD.pos with ⟨_, hdV⟩ | ⟨hne, _⟩
  · rcases hD.kw with ⟨_, hkV⟩ | ⟨hne, _⟩
    · subst hdV
      subst hkV
      refine enter_call (call_law (w := w) KX (KT 188 (.head _)) T.g T.b T.builtins T.nolimit T.bmain ho hdat hcd hg hL hI hlen fun s' h1 h2 h3 => ?_)
      exact ⟨.inl ⟨_, _, [], rfl, fun _ => rfl, ReadsW.bool true, by first | rfl | wrow_post, fun _ => ⟨List.nodup_nil, fun _ hm => (nomatch hm)⟩⟩, h1, h2, h3⟩
    · exact absurd rfl hne
  · exact absurd rfl hne
end Mine
end

set_option maxRecDepth 100000 in
theorem PySem.Challenge.cw_ae5040_01_holds : PySem.Challenge.rw_ae5040_01.Holds := by
  exact Mine.law_holds
